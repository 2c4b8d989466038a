import JvmDerived
import JvmDerived.Pilot.@@N@@Statement
import JvmDerived.Pilot.@@N@@Code
set_option linter.unusedVariables false
set_option linter.unusedSimpArgs false
namespace Jvm.Pilot.@@N@@
open Jvm Jvm.ClassFile Sem Op Lib Jvm.Free Jvm.Stand Jvm.LawKit Jvm.RoadKit Bundle Jvm.Pilot.@@N@@.Jvm.D
/-! ## own kit: a walk in continuation style over the library's steps -/
section OwnKit
variable {p : Program} {l : Launch} {e : Env} {R : Room} {s : State} {m : MethodId} {args : Array Value} {below : List Frame} {meth : Method} {c : Code} {T : State} {locs : List Loc} {cells slots : Nat} {Z : State} {a0 : Array Value} {h h' : Heap}
/-- from U the run ends, and then E holds -/
def GoOn (p : Program) (e : Env) (below : List Frame) (E : State → Outcome → Prop) (U : State) : Prop :=
  ∃ t o, Steps p.tables e below U t ∧ t.status = .running ∧ Ended t below o ∧ E t o
theorem GoOn.step {E : State → Outcome → Prop} {U U' : State} (hs : ∀ t, Steps p.tables e below U' t → Steps p.tables e below U t) (g : GoOn p e below E U') : GoOn p e below E U := by
  obtain ⟨t, o, h1, h2⟩ := g
  exact ⟨t, o, hs _ h1, h2⟩
/-- how a body ends: what it returns, its heap, the places that it wrote -/
abbrev EndQ (s : State) (rm : Room) (Q : Option Value → Heap → List Loc → Prop) : State → Outcome → Prop :=
  fun U o => ∃ v L, o = .returned v ∧ Q v U.heap L ∧ FrameEnd s o U L rm.cells rm.slots
/-- a body's contract at one array of arguments and one heap -/
def Con (l : Launch) (Z : State) (y : MethodName) (bytes : ByteArray) (mx : Nat) (rt : Option FieldType) (rm : Room) (as : Array Value) (h : Heap) (Q : Option Value → Heap → List Loc → Prop) : Prop :=
  ∀ ws : List Jvm.Cond, MetFree l y (head1 (Jvm.Cond.code y bytes mx rt :: ws) rm) (fun a U => a = as ∧ Z.Warmed39 U.vm ∧ U.heap = h) (fun _ _ _ _ _ => True) (fun _ U o U' => ∃ v L, o = .returned v ∧ Q v U'.heap L ∧ FrameEnd U o U' L rm.cells rm.slots)
theorem Con.intro {y : MethodName} {bytes : ByteArray} {mx : Nat} {rt : Option FieldType} {rm : Room} {as : Array Value} {Q : Option Value → Heap → List Loc → Prop} (hp : plainFor y = true)
    (body : ∀ (p : Program) (e : Env) (s : State) (m : MethodId) (below : List Frame) (meth : Method) (c : Code) (s₁ : State), p.tables.exec = Jvm.exec → c.code = bytes → c.maxLocals = mx → meth.sig.returnType = rt → meth.locks = false → Z.Warmed39 s.vm → s.vm.findClass y.cls = some m.cls → meth.name = y.name →
      Stand p l e rm s m as below meth c s₁ [] 0 0 → s₁.heap = h → GoOn p e below (EndQ s rm Q) (s₁.setTop (entryFrame m as mx))) : Con l Z y bytes mx rt rm as h Q := fun ws => by
  refine MetFree.of_bodySF hp hisR ?_
  intro p e s m args below meth c s₁ Bd hml0 hP hK
  obtain ⟨rfl, hZ, hh⟩ := hP
  have X0 : Stand p l e rm s m args below meth c s₁ [] 0 0 := Stand.of_body Bd
  obtain ⟨t, o, h1, h2, h3, h4⟩ := body p e s m below meth c s₁ Bd.exec Bd.bytes hml0 Bd.returns Bd.notSynchronized hZ (findClass_of_methodNamed Bd.named) (name_of_methodNamed Bd.named Bd.method).1 X0 (by rw [← hh, Bd.state]; rfl)
  exact ⟨t, o, h1, h2, h3, h4⟩
theorem GoOn.cast {E : State → Outcome → Prop} {g g' : JFrame} (q : g = g') (k : GoOn p e below E (T.setTop g')) : GoOn p e below E (T.setTop g) := q ▸ k
theorem GoOn.retI (X : Stand p l e R s m args below meth c T locs cells slots) (hx : p.tables.exec = Jvm.exec) (hrt : meth.sig.returnType = some .int) (hlk : meth.locks = false) {rm : Room} {Q : Option Value → Heap → List Loc → Prop} {pc : Nat} {Ls : Array Slot} {z : Int32} {rest : List Value}
    (hd : decode c.code pc = .ok (.ireturn, 1)) (hc : cells ≤ rm.cells) (hs : slots ≤ rm.slots) (hQ : Q (some (.int z)) T.heap locs) : GoOn p e below (EndQ s rm Q) (T.setTop (mkF m pc Ls (.int z :: rest))) := by
  obtain ⟨fs, hr, hrun, hended, hW, hsame⟩ := X.leave (v := some (.int z)) (fun h => by rw [hrt] at h; cases h) hlk
  exact ⟨_, _, Jvm.RoadKit.retOut X hx hrt rfl (Or.inl ⟨rfl, Or.inl rfl, _, rfl⟩) hd hr, hrun, hended, _, _, rfl, hQ, ⟨_, rfl⟩, hW, hsame.mono hc hs⟩
theorem GoOn.retN (X : Stand p l e R s m args below meth c T locs cells slots) (hx : p.tables.exec = Jvm.exec) {t : FieldType} (hrt : meth.sig.returnType = some t) (hlk : meth.locks = false) {rm : Room} {Q : Option Value → Heap → List Loc → Prop} {pc : Nat} {Ls : Array Slot} {z : Int32} {rest : List Value} (ht : t = .boolean ∨ t = .byte ∨ t = .char ∨ t = .short)
    (hd : decode c.code pc = .ok (.ireturn, 1)) (hc : cells ≤ rm.cells) (hs : slots ≤ rm.slots) (hQ : Q (some (.int (nar t z))) T.heap locs) : GoOn p e below (EndQ s rm Q) (T.setTop (mkF m pc Ls (.int z :: rest))) := by
  obtain ⟨fs, hr, hrun, hended, hW, hsame⟩ := X.leave (v := some (.int (nar t z))) (fun h => by rw [hrt] at h; cases h) hlk
  exact ⟨_, _, Jvm.RoadKit.retN X hx hrt ht hd hr, hrun, hended, _, _, rfl, hQ, ⟨_, rfl⟩, hW, hsame.mono hc hs⟩
theorem GoOn.retJ (X : Stand p l e R s m args below meth c T locs cells slots) (hx : p.tables.exec = Jvm.exec) (hrt : meth.sig.returnType = some .long) (hlk : meth.locks = false) {rm : Room} {Q : Option Value → Heap → List Loc → Prop} {pc : Nat} {Ls : Array Slot} {z : Int64} {rest : List Value}
    (hd : decode c.code pc = .ok (.lreturn, 1)) (hc : cells ≤ rm.cells) (hs : slots ≤ rm.slots) (hQ : Q (some (.long z)) T.heap locs) : GoOn p e below (EndQ s rm Q) (T.setTop (mkF m pc Ls (.long z :: rest))) := by
  obtain ⟨fs, hr, hrun, hended, hW, hsame⟩ := X.leave (v := some (.long z)) (fun h => by rw [hrt] at h; cases h) hlk
  exact ⟨_, _, Jvm.RoadKit.retOut X hx hrt rfl (Or.inr (Or.inl ⟨rfl, rfl, _, rfl⟩)) hd hr, hrun, hended, _, _, rfl, hQ, ⟨_, rfl⟩, hW, hsame.mono hc hs⟩
theorem GoOn.retR (X : Stand p l e R s m args below meth c T locs cells slots) (hx : p.tables.exec = Jvm.exec) {t : FieldType} (hrt : meth.sig.returnType = some t) (htr : t.isReference = true) (hlk : meth.locks = false) {rm : Room} {Q : Option Value → Heap → List Loc → Prop} {pc : Nat} {Ls : Array Slot} {z : Value} (hz : z.isRef = true) {rest : List Value}
    (hd : decode c.code pc = .ok (.areturn, 1)) (hc : cells ≤ rm.cells) (hs : slots ≤ rm.slots) (hQ : Q (some z) T.heap locs) : GoOn p e below (EndQ s rm Q) (T.setTop (mkF m pc Ls (z :: rest))) := by
  obtain ⟨fs, hr, hrun, hended, hW, hsame⟩ := X.leave (v := some z) (fun h => by rw [hrt] at h; cases h) hlk
  refine ⟨_, _, Jvm.RoadKit.retOut X hx hrt ?_ (Or.inr (Or.inr (Or.inr (Or.inr ⟨rfl, htr, hz⟩)))) hd hr, hrun, hended, _, _, rfl, hQ, ⟨_, rfl⟩, hW, hsame.mono hc hs⟩
  cases z <;> first | (cases t <;> rfl) | (simp [Value.isRef] at hz)
theorem GoOn.ret0 (X : Stand p l e R s m args below meth c T locs cells slots) (hx : p.tables.exec = Jvm.exec) (hrt : meth.sig.returnType = none) (hlk : meth.locks = false) {rm : Room} {Q : Option Value → Heap → List Loc → Prop} {pc : Nat} {Ls : Array Slot}
    (hd : decode c.code pc = .ok (.return_, 1)) (hc : cells ≤ rm.cells) (hs : slots ≤ rm.slots) (hQ : Q none T.heap locs) : GoOn p e below (EndQ s rm Q) (T.setTop (mkF m pc Ls [])) := by
  obtain ⟨fs, hr, hrun, hended, hW, hsame⟩ := X.leave (v := none) (fun _ => rfl) hlk
  exact ⟨_, _, X.returnOut hx hrt hd hr, hrun, hended, _, _, rfl, hQ, ⟨_, rfl⟩, hW, hsame.mono hc hs⟩
/-- a static call by its contract -/
theorem kCallS (X : Stand p l e R s m args below meth c T locs cells slots) (hx : p.tables.exec = Jvm.exec) (hZ : Z.Warmed39 s.vm) {own : String} {index : Nat} {y : MethodName} {bytes : ByteArray} {mx : Nat} {rt : Option FieldType} {rm : Room} {Q : Option Value → Heap → List Loc → Prop} {argsL rest : List Value}
    (K : Con l Z y bytes mx rt rm argsL.toArray h Q) (hown : s.vm.findClass own = some m.cls) (w1 : (Jvm.Cond.methodLink own index y).before a0 Z = true) (w2 : (Jvm.Cond.static y).before a0 Z = true) (w3 : (Jvm.Cond.initialized y.cls).before a0 Z = true) (w4 : (Jvm.Cond.code y bytes mx rt).before a0 Z = true)
    (hy : y.cls ≠ "java/lang/invoke/MethodHandle" ∧ y.cls ≠ "java/lang/invoke/VarHandle") (eT : T.heap = h) {g : JFrame} (hg : g.method = m) (hsize : g.locals.size = c.maxLocals) (hlen : ∀ sig, parseMethodDescriptor y.desc = some sig → argsL.length = sig.parameters.length) (hstack : g.stack = argsL.reverse ++ rest)
    {W : Nat} (hW : 2 * g.monitorRoom + (rest.map fun v => v.category).sum ≤ W) (hd : decode c.code g.pc = .ok (.invokestatic index, 3)) (hf : rm.frames + 1 ≤ R.frames) (hl : W + (mx + 11) + rm.locals ≤ R.locals) (hc : cells + rm.cells ≤ R.cells) (hs : slots + rm.slots ≤ R.slots) :
    ∃ v T' L, Stand p l e R s m args below meth c T' (locs ++ L) (cells + rm.cells) (slots + rm.slots) ∧ Q v T'.heap L ∧ ∀ target, Steps p.tables e below (T'.setTop { g with pc := g.pc + 3, stack := v.toList ++ rest }) target → Steps p.tables e below (T.setTop g) target := by
  obtain ⟨v, _, ⟨T', L', k', n'⟩, -, X', ⟨L, hQ, l1, l2, l3⟩, st⟩ := Jvm.LawKit.callS X hx (y := y) hown (mvT hZ w1) (mvT hZ w2) (mvT hZ w3) (mvT hZ w4) hy (backOf (W := W) (K []) hZ w4 w3 hf hl) hg hsize hlen hstack hW hd (fun _ _ => ⟨rfl, eT, hc, hs⟩)
  dsimp only [Pt.U, Pt.locs, Pt.cells, Pt.slots] at X' l1 l2 l3 hQ st
  subst l1 l2 l3
  exact ⟨v, T', L, X', hQ, fun t k => st _ k⟩
/-- a constructor by its contract -/
theorem kCallI (X : Stand p l e R s m args below meth c T locs cells slots) (hx : p.tables.exec = Jvm.exec) (hZ : Z.Warmed39 s.vm) {own : String} {index : Nat} {y : MethodName} {bytes : ByteArray} {mx : Nat} {rm : Room} {Q : Option Value → Heap → List Loc → Prop} {a : Addr} {argsL rest : List Value}
    (K : Con l Z y bytes mx none rm (.ref a :: argsL).toArray h Q) (hy1 : y.name = "<init>") (hown : s.vm.findClass own = some m.cls) (w1 : (Jvm.Cond.methodLink own index y).before a0 Z = true) (w2 : (Jvm.Cond.instanceMethod y).before a0 Z = true) (w3 : (Jvm.Cond.initialized y.cls).before a0 Z = true) (w4 : (Jvm.Cond.code y bytes mx none).before a0 Z = true)
    (hy : y.cls ≠ "java/lang/invoke/MethodHandle" ∧ y.cls ≠ "java/lang/invoke/VarHandle") (eT : T.heap = h) {g : JFrame} (hg : g.method = m) (hsize : g.locals.size = c.maxLocals) (hlen : ∀ sig, parseMethodDescriptor y.desc = some sig → argsL.length = sig.parameters.length) (hstack : g.stack = argsL.reverse ++ .ref a :: rest)
    {W : Nat} (hW : 2 * g.monitorRoom + (rest.map fun v => v.category).sum ≤ W) (hd : decode c.code g.pc = .ok (.invokespecial index, 3)) (hf : rm.frames + 1 ≤ R.frames) (hl : W + (mx + 11) + rm.locals ≤ R.locals) (hc : cells + rm.cells ≤ R.cells) (hs : slots + rm.slots ≤ R.slots) :
    ∃ v T' L, Stand p l e R s m args below meth c T' (locs ++ L) (cells + rm.cells) (slots + rm.slots) ∧ Q v T'.heap L ∧ ∀ target, Steps p.tables e below (T'.setTop { g with pc := g.pc + 3, stack := v.toList ++ rest }) target → Steps p.tables e below (T.setTop g) target := by
  obtain ⟨v, _, ⟨T', L', k', n'⟩, -, X', ⟨L, hQ, l1, l2, l3⟩, st⟩ := X.specialBack hx (y := y) hy1 hown (mvT hZ w1) (mvT hZ w2) (mvT hZ w4) hy (backOf (W := W) (K []) hZ w4 w3 hf hl) hg hsize (Steps.refl _) (a := a) hlen hstack hW hd (fun _ _ => ⟨rfl, eT, hc, hs⟩)
  dsimp only [Pt.U, Pt.locs, Pt.cells, Pt.slots] at X' l1 l2 l3 hQ st
  subst l1 l2 l3
  exact ⟨v, T', L, X', hQ, fun t k => st.trans k⟩
/-- an instance method by its contract, on an object of that very class -/
theorem kCallV (X : Stand p l e R s m args below meth c T locs cells slots) (hx : p.tables.exec = Jvm.exec) (hZ : Z.Warmed39 s.vm) {own C : String} {index : Nat} {y z : MethodName} {bytes : ByteArray} {mx : Nat} {rt : Option FieldType} {rm : Room} {Q : Option Value → Heap → List Loc → Prop} {a : Addr} {argsL rest : List Value}
    (K : Con l Z z bytes mx rt rm (.ref a :: argsL).toArray h Q) (hown : s.vm.findClass own = some m.cls) (w1 : (Jvm.Cond.methodLink own index y).before a0 Z = true) (wd : (Jvm.Cond.declares y).before a0 Z = true) (hnf : NotFace s y) (ws : (Jvm.Cond.selects C y z).before a0 Z = true) (w2 : (Jvm.Cond.instanceMethod z).before a0 Z = true) (w3 : (Jvm.Cond.initialized z.cls).before a0 Z = true) (w4 : (Jvm.Cond.code z bytes mx rt).before a0 Z = true)
    (hy : y.cls ≠ "java/lang/invoke/MethodHandle" ∧ y.cls ≠ "java/lang/invoke/VarHandle") (eT : T.heap = h) (E : Exa Z h a C) {g : JFrame} (hg : g.method = m) (hsize : g.locals.size = c.maxLocals) (hlen : ∀ sig, parseMethodDescriptor y.desc = some sig → argsL.length = sig.parameters.length) (hstack : g.stack = argsL.reverse ++ .ref a :: rest)
    {W : Nat} (hW : 2 * g.monitorRoom + (rest.map fun v => v.category).sum ≤ W) (hd : decode c.code g.pc = .ok (.invokevirtual index, 3)) (hf : rm.frames + 1 ≤ R.frames) (hl : W + (mx + 11) + rm.locals ≤ R.locals) (hc : cells + rm.cells ≤ R.cells) (hs : slots + rm.slots ≤ R.slots) :
    ∃ v T' L, Stand p l e R s m args below meth c T' (locs ++ L) (cells + rm.cells) (slots + rm.slots) ∧ Q v T'.heap L ∧ ∀ target, Steps p.tables e below (T'.setTop { g with pc := g.pc + 3, stack := v.toList ++ rest }) target → Steps p.tables e below (T.setTop g) target := by
  obtain ⟨cB, kB, q1, q2, q3⟩ := isOf hZ eT E
  obtain ⟨v, _, ⟨T', L', k', n'⟩, -, X', ⟨L, hQ, l1, l2, l3⟩, st⟩ := X.virtualBack hx (y := y) (z := z) hown (mvT hZ w1) (mvT hZ wd) hnf (mvT hZ ws) (mvT hZ w2) hy (backOf (W := W) (K []) hZ w4 w3 hf hl) q1 q3 hg hsize (Steps.refl _) hlen hstack hW hd (fun _ _ => ⟨rfl, eT, hc, hs⟩)
  dsimp only [Pt.U, Pt.locs, Pt.cells, Pt.slots] at X' l1 l2 l3 hQ st
  subst l1 l2 l3
  exact ⟨v, T', L, X', hQ, fun t k => st.trans k⟩
/-- a private method by its contract ('invokevirtual'); y2: a method of the same class of which is known that its class is no interface -/
theorem kCallP (X : Stand p l e R s m args below meth c T locs cells slots) (hx : p.tables.exec = Jvm.exec) (hZ : Z.Warmed39 s.vm) {own C : String} {index : Nat} {y y2 : MethodName} {bytes : ByteArray} {mx : Nat} {rt : Option FieldType} {rm : Room} {Q : Option Value → Heap → List Loc → Prop} {a : Addr} {argsL rest : List Value}
    (K : Con l Z y bytes mx rt rm (.ref a :: argsL).toArray h Q) (hown : s.vm.findClass own = some m.cls) (w1 : (Jvm.Cond.methodLink own index y).before a0 Z = true) (w2 : (Jvm.Cond.instanceMethod y).before a0 Z = true) (wp : (Jvm.Cond.privateMethod y).before a0 Z = true) (w3 : (Jvm.Cond.initialized y.cls).before a0 Z = true) (w4 : (Jvm.Cond.code y bytes mx rt).before a0 Z = true)
    (hnf : NotFace s y2) (hcl : y2.cls = y.cls) (w5 : (Jvm.Cond.instanceMethod y2).before a0 Z = true)
    (hy : y.cls ≠ "java/lang/invoke/MethodHandle" ∧ y.cls ≠ "java/lang/invoke/VarHandle") (eT : T.heap = h) (E : Exa Z h a C) {g : JFrame} (hg : g.method = m) (hsize : g.locals.size = c.maxLocals) (hlen : ∀ sig, parseMethodDescriptor y.desc = some sig → argsL.length = sig.parameters.length) (hstack : g.stack = argsL.reverse ++ .ref a :: rest)
    {W : Nat} (hW : 2 * g.monitorRoom + (rest.map fun v => v.category).sum ≤ W) (hd : decode c.code g.pc = .ok (.invokevirtual index, 3)) (hf : rm.frames + 1 ≤ R.frames) (hl : W + (mx + 11) + rm.locals ≤ R.locals) (hc : cells + rm.cells ≤ R.cells) (hs : slots + rm.slots ≤ R.slots) :
    ∃ v T' L, Stand p l e R s m args below meth c T' (locs ++ L) (cells + rm.cells) (slots + rm.slots) ∧ Q v T'.heap L ∧ ∀ target, Steps p.tables e below (T'.setTop { g with pc := g.pc + 3, stack := v.toList ++ rest }) target → Steps p.tables e below (T.setTop g) target := by
  obtain ⟨cB, kB, q1, q2, cell, q3, q4, q5⟩ := isOf hZ eT E
  obtain ⟨mk, methM, hnamed, hmethM, hstM, habM⟩ := Cond.instanceMethod_spec (mvT (args := args) hZ w2)
  obtain ⟨methM', cM, hmethM', -, -, -, -, -, -, hsigM⟩ := Cond.code_spec hnamed (mvT (args := args) hZ w4)
  cases hmethM.symm.trans hmethM'
  obtain ⟨mk2, methM2, hnamed2, -⟩ := Cond.instanceMethod_spec (mvT (args := args) hZ w5)
  obtain ⟨kP, hkP, hkPi⟩ := hnf mk2 hnamed2
  have hcc : mk2.cls = mk.cls := by
    have u1 := findClass_of_methodNamed hnamed2
    rw [hcl] at u1
    exact Option.some.inj (u1.symm.trans (findClass_of_methodNamed hnamed))
  rw [hcc] at hkP
  have hpriv : s.PrivateAt y := Cond.privateMethod_at (mvP hZ wp (args := args))
  obtain ⟨vm₁, X₁, hstep₁⟩ := X.invokevirtual hx hown (mvT hZ w1) hnamed hmethM hstM hkP hkPi hy (a := a) (cell := cell) q3 (fun q z => by rw [z] at q5; cases q5) (selectMethod_private hmethM (hpriv mk methM hnamed hmethM)) hmethM habM hkP hkPi (g := g) hg (argsL := argsL) (rest := rest) (hlen _ hsigM) hstack hd
  obtain ⟨v, ⟨T', L', k', n'⟩, X', ⟨L, hQ, l1, l2, l3⟩, st⟩ := (backOf (W := W) (K []) hZ w4 w3 hf hl) m meth c ⟨T.setVm vm₁, locs, cells, slots⟩ { g with stack := rest } (.invokevirtual index) mk (.ref a :: argsL).toArray X₁ hg hsize hd hW (X₁.named hnamed) ⟨rfl, eT, hc, hs⟩
  dsimp only [Pt.U, Pt.locs, Pt.cells, Pt.slots] at X' l1 l2 l3 hQ st
  subst l1 l2 l3
  exact ⟨v, T', L, X', hQ, fun t k => (hstep₁ _ fun acts => by rw [doInvoke_state]; exact Steps.refl _).trans (st.trans k)⟩
/-- an array: its kind, its length, what each place holds -/
def Jar (Z : State) (h : Heap) (a : Addr) (ty : FieldType) (n : Nat) (f : Nat → Value) : Prop := ∃ cl : Cell, Arr Z h a cl ty ∧ cl.slots.size = n ∧ ∀ i, i < n → cl.slots[i]? = some (f i)
section JarS
variable {a b : Addr} {ty : FieldType} {n : Nat} {f g : Nat → Value} {v : Value} {sl : Nat} {ws : List Addr}
theorem Jar.lt (F : Jar Z h a ty n f) : a < h.size := by obtain ⟨cl, A, -⟩ := F; exact A.lt
theorem Jar.ext (F : Jar Z h a ty n f) (E : Ext h h') : Jar Z h' a ty n f := by obtain ⟨cl, A, r⟩ := F; exact ⟨cl, A.ext E, r⟩
theorem Jar.other (F : Jar Z h b ty n f) (W : Wr h h' a sl v) (q : b ≠ a) : Jar Z h' b ty n f := by obtain ⟨cl, A, r⟩ := F; exact ⟨cl, A.other W q, r⟩
theorem Jar.keep (F : Jar Z h a ty n f) (K : Keep h h' ws) (q : a ∉ ws) : Jar Z h' a ty n f := by obtain ⟨cl, A, r⟩ := F; exact ⟨cl, ⟨K.2.1 a cl A.1 q, A.2⟩, r⟩
theorem Jar.congr (F : Jar Z h a ty n f) (q : ∀ i, i < n → f i = g i) : Jar Z h a ty n g := by obtain ⟨cl, A, s1, s2⟩ := F; exact ⟨cl, A, s1, fun i hi => by rw [s2 i hi, q i hi]⟩
theorem Jar.new {k : ClassId} {z : Int32} (A : Arr Z h a (newA k ty z) ty) (hz : z.toNatClampNeg = n) : Jar Z h a ty n (fun _ => defaultValue ty) := ⟨_, A, (sz_new _ _ _).trans hz, fun i hi => by simp [newA, hz, hi]⟩
theorem Jar.set (F : Jar Z h a ty n f) (W : Wr h h' a sl v) : Jar Z h' a ty n (fun i => if i = sl then v else f i) := by
  obtain ⟨cl, A, s1, s2⟩ := F
  obtain ⟨c2, q1, -, q3, -⟩ := id W
  cases A.1.symm.trans q1
  refine ⟨_, Arr.same W A, by simp [Cell.setSlot, s1], fun i hi => ?_⟩
  by_cases q : i = sl
  · subst q; simp [Cell.setSlot, q3]
  · show (cl.slots.setIfInBounds sl v)[i]? = some (if i = sl then v else f i)
    rw [if_neg q, ← s2 i hi, Array.getElem?_setIfInBounds_ne (Ne.symm q)]
theorem Jar.ints (F : Jar Z h a ty n f) (H : ∀ i, ∃ x, f i = .int x) : ∃ g : Nat → Int32, Jar Z h a ty n (fun i => .int (g i)) := ⟨fun i => Classical.choose (H i), F.congr fun i _ => Classical.choose_spec (H i)⟩
theorem Jar.longs (F : Jar Z h a ty n f) (H : ∀ i, ∃ x, f i = .long x) : ∃ g : Nat → Int64, Jar Z h a ty n (fun i => .long (g i)) := ⟨fun i => Classical.choose (H i), F.congr fun i _ => Classical.choose_spec (H i)⟩
theorem inJ {cl : Cell} {j : Int32} (s1 : cl.slots.size = n) (hj : 0 ≤ j.toInt ∧ j.toInt < n) : ¬ (j < 0 ∨ cl.slots.size ≤ j.toNatClampNeg) := by
  rw [s1, Int32.lt_iff_toInt_lt]
  have e1 : (0 : Int32).toInt = 0 := rfl
  have e2 : j.toNatClampNeg = j.toInt.toNat := rfl
  omega
theorem natJ {j : Int32} (hj : 0 ≤ j.toInt ∧ j.toInt < n) : j.toNatClampNeg < n := by
  have e2 : j.toNatClampNeg = j.toInt.toNat := rfl
  omega
end JarS
theorem kLdI (X : Stand p l e R s m args below meth c T locs cells slots) (hx : p.tables.exec = Jvm.exec) (hZ : Z.Warmed39 s.vm) (eT : T.heap = h) {a : Addr} {n : Nat} {f : Nat → Value} (F : Jar Z h a .int n f) {j : Int32} {v : Value} (hj : 0 ≤ j.toInt ∧ j.toInt < n) (hv : f j.toNatClampNeg = v) {g : JFrame} (hg : g.method = m) {rest : List Value} (hs : g.stack = .int j :: .ref a :: rest) (hd : decode c.code g.pc = .ok (.iaload, 1)) :
    ∀ t, Steps p.tables e below (T.setTop { g with pc := g.pc + 1, stack := v :: rest }) t → Steps p.tables e below (T.setTop g) t := by
  obtain ⟨cl, A, s1, s2⟩ := F
  exact X.iaload hx (j := j) (v := v) (by rw [eT]; exact A.1) (State.isArrayOf_alike hZ.alike A.2.1) A.2.2 (inJ s1 hj) (by rw [s2 _ (natJ hj), hv]) hg hs hd
theorem kLdJ (X : Stand p l e R s m args below meth c T locs cells slots) (hx : p.tables.exec = Jvm.exec) (hZ : Z.Warmed39 s.vm) (eT : T.heap = h) {a : Addr} {n : Nat} {f : Nat → Value} (F : Jar Z h a .long n f) {j : Int32} {v : Value} (hj : 0 ≤ j.toInt ∧ j.toInt < n) (hv : f j.toNatClampNeg = v) {g : JFrame} (hg : g.method = m) {rest : List Value} (hs : g.stack = .int j :: .ref a :: rest) (hd : decode c.code g.pc = .ok (.laload, 1)) :
    ∀ t, Steps p.tables e below (T.setTop { g with pc := g.pc + 1, stack := v :: rest }) t → Steps p.tables e below (T.setTop g) t := by
  obtain ⟨cl, A, s1, s2⟩ := F
  exact X.laload hx (j := j) (v := v) (by rw [eT]; exact A.1) (State.isArrayOf_alike hZ.alike A.2.1) A.2.2 (inJ s1 hj) (by rw [s2 _ (natJ hj), hv]) hg hs hd
theorem kLdB (X : Stand p l e R s m args below meth c T locs cells slots) (hx : p.tables.exec = Jvm.exec) (hZ : Z.Warmed39 s.vm) (eT : T.heap = h) {a : Addr} {n : Nat} {f : Nat → Value} (F : Jar Z h a .byte n f) {j : Int32} {v : Value} (hj : 0 ≤ j.toInt ∧ j.toInt < n) (hv : f j.toNatClampNeg = v) {g : JFrame} (hg : g.method = m) {rest : List Value} (hs : g.stack = .int j :: .ref a :: rest) (hd : decode c.code g.pc = .ok (.baload, 1)) :
    ∀ t, Steps p.tables e below (T.setTop { g with pc := g.pc + 1, stack := v :: rest }) t → Steps p.tables e below (T.setTop g) t := by
  obtain ⟨cl, A, s1, s2⟩ := F
  exact X.baloadBytes hx (j := j) (v := v) (by rw [eT]; exact A.1) (State.isArrayOf_alike hZ.alike A.2.1) A.2.2 (inJ s1 hj) (by rw [s2 _ (natJ hj), hv]) hg hs hd
theorem kLdA (X : Stand p l e R s m args below meth c T locs cells slots) (hx : p.tables.exec = Jvm.exec) (hZ : Z.Warmed39 s.vm) (eT : T.heap = h) {a : Addr} {ty : FieldType} {n : Nat} {f : Nat → Value} (F : Jar Z h a ty n f) (hty : ty.isReference = true) {j : Int32} {v : Value} (hj : 0 ≤ j.toInt ∧ j.toInt < n) (hv : f j.toNatClampNeg = v) {g : JFrame} (hg : g.method = m) {rest : List Value} (hs : g.stack = .int j :: .ref a :: rest) (hd : decode c.code g.pc = .ok (.aaload, 1)) :
    ∀ t, Steps p.tables e below (T.setTop { g with pc := g.pc + 1, stack := v :: rest }) t → Steps p.tables e below (T.setTop g) t := by
  obtain ⟨cl, A, s1, s2⟩ := F
  exact X.aaload hx (j := j) (v := v) (by rw [eT]; exact A.1) (State.isArrayOf_alike hZ.alike A.2.1) hty A.2.2 (inJ s1 hj) (by rw [s2 _ (natJ hj), hv]) hg hs hd
theorem kLen (X : Stand p l e R s m args below meth c T locs cells slots) (hx : p.tables.exec = Jvm.exec) (hZ : Z.Warmed39 s.vm) (eT : T.heap = h) {a : Addr} {ty : FieldType} {n : Nat} {f : Nat → Value} (F : Jar Z h a ty n f) {z : Int32} (hz : n.toInt32 = z) {g : JFrame} (hg : g.method = m) {rest : List Value} (hs : g.stack = .ref a :: rest) (hd : decode c.code g.pc = .ok (.arraylength, 1)) :
    ∀ t, Steps p.tables e below (T.setTop { g with pc := g.pc + 1, stack := .int z :: rest }) t → Steps p.tables e below (T.setTop g) t := by
  obtain ⟨cl, A, s1, s2⟩ := F
  subst hz s1
  exact X.arraylength hx (by rw [eT]; exact A.1) (State.isArrayOf_alike hZ.alike A.2.1) hg hs hd
/-- a store: what the three kinds say alike -/
theorem kStI (X : Stand p l e R s m args below meth c T locs cells slots) (hx : p.tables.exec = Jvm.exec) (hZ : Z.Warmed39 s.vm) (eT : T.heap = h) {a : Addr} {n : Nat} {f : Nat → Value} (F : Jar Z h a .int n f) {j x : Int32} (hj : 0 ≤ j.toInt ∧ j.toInt < n) {g : JFrame} (hg : g.method = m) {rest : List Value} (hs : g.stack = .int x :: .int j :: .ref a :: rest) (hd : decode c.code g.pc = .ok (.iastore, 1)) :
    ∃ T' h', Stand p l e R s m args below meth c T' (locs ++ [⟨a, j.toNatClampNeg⟩]) cells slots ∧ T'.heap = h' ∧ Wr h h' a j.toNatClampNeg (.int x) ∧ ∀ target, Steps p.tables e below (T'.setTop { g with pc := g.pc + 1, stack := rest }) target → Steps p.tables e below (T.setTop g) target := by
  obtain ⟨cl, A, s1, s2⟩ := F
  exact stI X hx hZ eT A (inJ s1 hj) hg hs hd
theorem kStJ (X : Stand p l e R s m args below meth c T locs cells slots) (hx : p.tables.exec = Jvm.exec) (hZ : Z.Warmed39 s.vm) (eT : T.heap = h) {a : Addr} {n : Nat} {f : Nat → Value} (F : Jar Z h a .long n f) {j : Int32} {x : Int64} (hj : 0 ≤ j.toInt ∧ j.toInt < n) {g : JFrame} (hg : g.method = m) {rest : List Value} (hs : g.stack = .long x :: .int j :: .ref a :: rest) (hd : decode c.code g.pc = .ok (.lastore, 1)) :
    ∃ T' h', Stand p l e R s m args below meth c T' (locs ++ [⟨a, j.toNatClampNeg⟩]) cells slots ∧ T'.heap = h' ∧ Wr h h' a j.toNatClampNeg (.long x) ∧ ∀ target, Steps p.tables e below (T'.setTop { g with pc := g.pc + 1, stack := rest }) target → Steps p.tables e below (T.setTop g) target := by
  obtain ⟨cl, A, s1, s2⟩ := F
  exact stJ X hx hZ eT A (inJ s1 hj) hg hs hd
theorem kStB (X : Stand p l e R s m args below meth c T locs cells slots) (hx : p.tables.exec = Jvm.exec) (hZ : Z.Warmed39 s.vm) (eT : T.heap = h) {a : Addr} {n : Nat} {f : Nat → Value} (F : Jar Z h a .byte n f) {j x : Int32} (hj : 0 ≤ j.toInt ∧ j.toInt < n) {g : JFrame} (hg : g.method = m) {rest : List Value} (hs : g.stack = .int x :: .int j :: .ref a :: rest) (hd : decode c.code g.pc = .ok (.bastore, 1)) :
    ∃ T' h', Stand p l e R s m args below meth c T' (locs ++ [⟨a, j.toNatClampNeg⟩]) cells slots ∧ T'.heap = h' ∧ Wr h h' a j.toNatClampNeg (.int (x.toInt8.toInt32)) ∧ ∀ target, Steps p.tables e below (T'.setTop { g with pc := g.pc + 1, stack := rest }) target → Steps p.tables e below (T.setTop g) target := by
  obtain ⟨cl, A, s1, s2⟩ := F
  exact stB X hx hZ eT A (inJ s1 hj) hg hs hd
theorem kClone (X : Stand p l e R s m args below meth c T locs cells slots) (hx : p.tables.exec = Jvm.exec) (hZ : Z.Warmed39 s.vm) {own ad : String} {index : Nat} (hown : s.vm.findClass own = some m.cls)
    (w1 : (Jvm.Cond.methodLink own index ⟨ad, "clone", "()Ljava/lang/Object;"⟩).before a0 Z = true) (w2 : (Jvm.Cond.sameMethod ad "java/lang/Object" "clone" "()Ljava/lang/Object;").before a0 Z = true) (w3 : (Jvm.Cond.native ⟨"java/lang/Object", "clone", "()Ljava/lang/Object;"⟩).before a0 Z = true)
    (w4 : (Jvm.Cond.instanceMethod ⟨"java/lang/Object", "clone", "()Ljava/lang/Object;"⟩).before a0 Z = true) (w5 : (Jvm.Cond.selects ad ⟨ad, "clone", "()Ljava/lang/Object;"⟩ ⟨"java/lang/Object", "clone", "()Ljava/lang/Object;"⟩).before a0 Z = true) (w6 : (Jvm.Cond.castable ad "java/lang/Cloneable").before a0 Z = true)
    (eT : T.heap = h) {a : Addr} {ty : FieldType} {n : Nat} {f : Nat → Value} (F : Jar Z h a ty n f) (E : Exa Z h a ad) (hft : ∀ i, i < n → fits ty (f i) = true) {g : JFrame} (hg : g.method = m) (hsize : g.locals.size = c.maxLocals) {rest : List Value} (hs : g.stack = .ref a :: rest) (hd : decode c.code g.pc = .ok (.invokevirtual index, 3))
    (hf : 1 ≤ R.frames) {W cap : Nat} (hW : 2 * g.monitorRoom + (rest.map fun v => v.category).sum ≤ W) (hl : W + 14 ≤ R.locals) (hcap : n ≤ cap) (hc : cells + 1 ≤ R.cells) (hsl : slots + cap ≤ R.slots) :
    ∃ T' h', Stand p l e R s m args below meth c T' locs (cells + 1) (slots + cap) ∧ T'.heap = h' ∧ Ext h h' ∧ Jar Z h' h.size ty n f ∧ Exa Z h' h.size ad ∧
      ∀ target, Steps p.tables e below (T'.setTop { g with pc := g.pc + 3, stack := .ref h.size :: rest }) target → Steps p.tables e below (T.setTop g) target := by
  obtain ⟨cl, A, s1, s2⟩ := F
  have FC : FitC Z cl := fitC_of A fun i hi v hv => by rw [s2 i (s1 ▸ hi)] at hv; cases hv; exact hft i (s1 ▸ hi)
  obtain ⟨T', h', X', e', ex, A', E', st⟩ := cloneA X hx hZ hown w1 w2 w3 w4 w5 w6 eT A E FC hg hsize hs hd hf hW hl (by rw [s1]; exact hcap) hc hsl
  exact ⟨T', h', X', e', ex, ⟨cloneOf cl, A', s1, s2⟩, E', st⟩
theorem catR {v : Value} (h : v.isRef = true) : v.category = 1 := by cases v <;> first | rfl | (simp [Value.isRef] at h)
theorem narO {C : String} (v : Value) : narrow (.object C) v = v := by cases v <;> rfl
theorem fitO {C : String} {v : Value} (h : v.isRef = true) : fits (.object C) v = true := by cases v <;> first | rfl | (simp [Value.isRef] at h)
theorem own_len {s : State} {args : Array Value} {t : Term} {n : Int32} {ca : Addr} {c : Cell} (ev : t.eval args s none [] s = some (.ref ca)) (ha : s.arrayAt? ca = some c) (w : (Jvm.Cond.eq (.length t) (.int n)).value args s none s [] = some true) : c.slots.size < 2 ^ 31 ∧ c.slots.size.toInt32 = n := by
  by_cases h : c.slots.size < 2 ^ 31
  · refine ⟨h, ?_⟩
    simpa [Cond.value, Term.eval, ev, ha, h] using w
  · simp [Cond.value, Term.eval, ev, ha, h] at w
theorem own_nat {k : Nat} {n : Int32} {K : Nat} (h : k < 2 ^ 31) (e : k.toInt32 = n) (hn : n.toInt = K) : k = K := by
  have := len_toInt h
  rw [e, hn] at this
  omega
theorem own_elem {s : State} {args : Array Value} {C D E : String} {K : String} {ca : Addr} {c : Cell} {i : Nat} (ev : (Term.static C D E).eval args s none [] s = some (.ref ca)) (hc : s.heap[ca]? = some c) (hi : i < 2 ^ 31) (w : (Jvm.Cond.exactly ((Term.static C D E).elem (.index 0)) K).value args s none s [i] = some true) :
    ∃ b, c.slots[i]? = some (.ref b) ∧ Exa s s.heap b K := by
  obtain ⟨b, eb⟩ := exa_v w
  have ev' : (Term.static C D E).eval args s none [i] s = some (.ref ca) := ev
  have ei : (Term.index 0).eval args s none [i] s = some (.int i.toInt32) := Term.index_eval _
  have q := (elem_in eb ev' ei hc).2
  have en : i.toInt32.toNatClampNeg = i := by
    have := len_toInt hi
    have e : i.toInt32.toNatClampNeg = i.toInt32.toInt.toNat := rfl
    omega
  rw [en] at q
  exact ⟨b, q, exa_at eb w⟩
theorem own_eqI {s : State} {args : Array Value} {t : Term} {n : Int32} (w : (Jvm.Cond.eq t (.int n)).value args s none s [] = some true) : t.eval args s none [] s = some (.int n) := by
  cases ht : t.eval args s none [] s with
  | none => simp [Cond.value, ht] at w
  | some x => cases x <;> simp [Cond.value, Term.eval, ht] at w ⊢; exact w
/-- what a body that writes nothing and makes nothing leaves -/
def PQ (r : Option Value) (h0 : Heap) : Option Value → Heap → List Loc → Prop := fun v h L => v = r ∧ L = [] ∧ h = h0
/-- what the law leaves -/
def LQ (n0 : Nat) : Option Value → Heap → List Loc → Prop := fun v _ L => v = some (.int 1) ∧ Fr n0 L
end OwnKit
section OwnS
variable {p : Program} {l : Launch} {e : Env} {R : Room} {s : State} {m : MethodId} {args : Array Value} {below : List Frame} {meth : Method} {c : Code} {T : State} {locs : List Loc} {cells slots : Nat} {Z : State} {a0 : Array Value} {h h' : Heap} {vm1 : Vm}
theorem kLdC (X : Stand p l e R s m args below meth c T locs cells slots) (hx : p.tables.exec = Jvm.exec) (hZ : Z.Warmed39 s.vm) (eT : T.heap = h) {a : Addr} {n : Nat} {f : Nat → Value} (F : Jar Z h a .char n f) {j : Int32} {v : Value} (hj : 0 ≤ j.toInt ∧ j.toInt < n) (hv : f j.toNatClampNeg = v) {g : JFrame} (hg : g.method = m) {rest : List Value} (hs : g.stack = .int j :: .ref a :: rest) (hd : decode c.code g.pc = .ok (.caload, 1)) :
    ∀ t, Steps p.tables e below (T.setTop { g with pc := g.pc + 1, stack := v :: rest }) t → Steps p.tables e below (T.setTop g) t := by
  obtain ⟨cl, A, s1, s2⟩ := F
  exact X.caload hx (j := j) (v := v) (by rw [eT]; exact A.1) (State.isArrayOf_alike hZ.alike A.2.1) A.2.2 (inJ s1 hj) (by rw [s2 _ (natJ hj), hv]) hg hs hd
theorem kStC (X : Stand p l e R s m args below meth c T locs cells slots) (hx : p.tables.exec = Jvm.exec) (hZ : Z.Warmed39 s.vm) (eT : T.heap = h) {a : Addr} {n : Nat} {f : Nat → Value} (F : Jar Z h a .char n f) {j x : Int32} (hj : 0 ≤ j.toInt ∧ j.toInt < n) {g : JFrame} (hg : g.method = m) {rest : List Value} (hs : g.stack = .int x :: .int j :: .ref a :: rest) (hd : decode c.code g.pc = .ok (.castore, 1)) :
    ∃ T' h', Stand p l e R s m args below meth c T' (locs ++ [⟨a, j.toNatClampNeg⟩]) cells slots ∧ T'.heap = h' ∧ Wr h h' a j.toNatClampNeg (.int (nar .char x)) ∧ ∀ target, Steps p.tables e below (T'.setTop { g with pc := g.pc + 1, stack := rest }) target → Steps p.tables e below (T.setTop g) target := by
  obtain ⟨cl, A, s1, s2⟩ := F
  have hj' := inJ s1 hj
  obtain ⟨X', st⟩ := castoreIn X hx (by rw [eT]; exact A.1) (State.isArrayOf_alike hZ.alike A.2.1) A.2.2 hj' hg hs hd
  exact ⟨_, _, X', rfl, ⟨cl, A.1, A.plain, Nat.lt_of_not_le fun q => hj' (Or.inr q), by rw [← eT]; rfl⟩, st⟩
/-- how a body ends that may have interned a String constant -/
abbrev EndS (s : State) (rm : Room) (Q : Option Value → Heap → List Loc → Prop) : State → Outcome → Prop :=
  fun U o => ∃ v L, o = .returned v ∧ Q v U.heap L ∧ ReturnedEndW s o U L rm.cells rm.slots
/-- a contract of such a body; P: what it asks of the VM's tables -/
def ConS (l : Launch) (Z : State) (y : MethodName) (bytes : ByteArray) (mx : Nat) (rt : Option FieldType) (rm : Room) (as : Array Value) (h : Heap) (P : Vm → Prop) (Q : Option Value → Heap → List Loc → Prop) : Prop :=
  ∀ ws : List Jvm.Cond, MetFree l y (head1 (Jvm.Cond.code y bytes mx rt :: ws) rm) (fun a U => a = as ∧ Z.Warmed39 U.vm ∧ U.heap = h ∧ P U.vm) (fun _ _ _ _ _ => True) (fun _ U o U' => ∃ v L, o = .returned v ∧ Q v U'.heap L ∧ ReturnedEndW U o U' L rm.cells rm.slots)
theorem ConS.intro {y : MethodName} {bytes : ByteArray} {mx : Nat} {rt : Option FieldType} {rm : Room} {as : Array Value} {P : Vm → Prop} {Q : Option Value → Heap → List Loc → Prop} (hp : plainFor y = true)
    (body : ∀ (p : Program) (e : Env) (s : State) (m : MethodId) (below : List Frame) (meth : Method) (c : Code) (s₁ : State), p.tables.exec = Jvm.exec → c.code = bytes → c.maxLocals = mx → meth.sig.returnType = rt → meth.locks = false → Z.Warmed39 s.vm → s.vm.findClass y.cls = some m.cls → meth.name = y.name → P s.vm →
      Stand p l e rm s m as below meth c s₁ [] 0 0 → s₁.heap = h → GoOn p e below (EndS s rm Q) (s₁.setTop (entryFrame m as mx))) : ConS l Z y bytes mx rt rm as h P Q := fun ws => by
  refine MetFree.of_bodySF hp hisR ?_
  intro p e s m args below meth c s₁ Bd hml0 hP hK
  obtain ⟨rfl, hZ, hh, hPv⟩ := hP
  have X0 : Stand p l e rm s m args below meth c s₁ [] 0 0 := Stand.of_body Bd
  obtain ⟨t, o, h1, h2, h3, h4⟩ := body p e s m below meth c s₁ Bd.exec Bd.bytes hml0 Bd.returns Bd.notSynchronized hZ (findClass_of_methodNamed Bd.named) (name_of_methodNamed Bd.named Bd.method).1 hPv X0 (by rw [← hh, Bd.state]; rfl)
  exact ⟨t, o, h1, h2, h3, h4⟩
theorem rEW.mono {U U' : State} {o : Outcome} {L : List Loc} {k n k' n' : Nat} (q : ReturnedEndW U o U' L k n) (h1 : k ≤ k') (h2 : n ≤ n') : ReturnedEndW U o U' L k' n' := ⟨q.1, q.2.1, q.2.2.1, q.2.2.2.mono h1 h2⟩
theorem GoOn.ret0S (X : Stand p l e R (s.setVm vm1) m args below meth c T locs cells slots) {n : Nat} (hS : s.Since vm1 n) (hn : n ≤ T.heap.size) (hx : p.tables.exec = Jvm.exec) (hrt : meth.sig.returnType = none) (hlk : meth.locks = false) {rm : Room} {Q : Option Value → Heap → List Loc → Prop} {pc : Nat} {Ls : Array Slot}
    (hd : decode c.code pc = .ok (.return_, 1)) (hc : cells ≤ rm.cells) (hs : slots ≤ rm.slots) (hQ : Q none T.heap locs) : GoOn p e below (EndS s rm Q) (T.setTop (mkF m pc Ls [])) := by
  obtain ⟨fs, hr, hrun, hended, hW⟩ := X.leaveW hS hn (v := none) (fun _ => rfl) hlk
  exact ⟨_, _, X.returnOut hx hrt hd hr, hrun, hended, _, _, rfl, hQ, rEW.mono hW hc hs⟩
theorem GoOn.retNS (X : Stand p l e R (s.setVm vm1) m args below meth c T locs cells slots) {n : Nat} (hS : s.Since vm1 n) (hn : n ≤ T.heap.size) (hx : p.tables.exec = Jvm.exec) {t : FieldType} (hrt : meth.sig.returnType = some t) (hlk : meth.locks = false) {rm : Room} {Q : Option Value → Heap → List Loc → Prop} {pc : Nat} {Ls : Array Slot} {z : Int32} {rest : List Value} (ht : t = .boolean ∨ t = .byte ∨ t = .char ∨ t = .short)
    (hd : decode c.code pc = .ok (.ireturn, 1)) (hc : cells ≤ rm.cells) (hs : slots ≤ rm.slots) (hQ : Q (some (.int (nar t z))) T.heap locs) : GoOn p e below (EndS s rm Q) (T.setTop (mkF m pc Ls (.int z :: rest))) := by
  obtain ⟨fs, hr, hrun, hended, hW⟩ := X.leaveW hS hn (v := some (.int (nar t z))) (fun h => by rw [hrt] at h; cases h) hlk
  exact ⟨_, _, Jvm.RoadKit.retN X hx hrt ht hd hr, hrun, hended, _, _, rfl, hQ, rEW.mono hW hc hs⟩
theorem GoOn.retIS (X : Stand p l e R (s.setVm vm1) m args below meth c T locs cells slots) {n : Nat} (hS : s.Since vm1 n) (hn : n ≤ T.heap.size) (hx : p.tables.exec = Jvm.exec) (hrt : meth.sig.returnType = some .int) (hlk : meth.locks = false) {rm : Room} {Q : Option Value → Heap → List Loc → Prop} {pc : Nat} {Ls : Array Slot} {z : Int32} {rest : List Value}
    (hd : decode c.code pc = .ok (.ireturn, 1)) (hc : cells ≤ rm.cells) (hs : slots ≤ rm.slots) (hQ : Q (some (.int z)) T.heap locs) : GoOn p e below (EndS s rm Q) (T.setTop (mkF m pc Ls (.int z :: rest))) := by
  obtain ⟨fs, hr, hrun, hended, hW⟩ := X.leaveW hS hn (v := some (.int z)) (fun h => by rw [hrt] at h; cases h) hlk
  exact ⟨_, _, Jvm.RoadKit.retOut X hx hrt rfl (Or.inl ⟨rfl, Or.inl rfl, _, rfl⟩) hd hr, hrun, hended, _, _, rfl, hQ, rEW.mono hW hc hs⟩
theorem backOfP {y : MethodName} {bytes : ByteArray} {maxL : Nat} {ret : Option FieldType} {rm : Room} {len W : Nat} {as' : Array Value} {P : Vm → Prop} {Q : Option Value → Heap → List Loc → Prop}
    (hM : MetFree l y (head1 [Cond.code y bytes maxL ret] rm) (fun a U => a = as' ∧ Z.Warmed39 U.vm ∧ U.heap = h ∧ P U.vm) (fun _ _ _ _ _ => True) (fun _ U o U' => ∃ v L, o = .returned v ∧ Q v U'.heap L ∧ ReturnedEndW U o U' L rm.cells rm.slots))
    (hZ : Z.Warmed39 s.vm) (hP : ∀ vm, s.WarmedH vm → P vm) (wc : (Cond.code y bytes maxL ret).before a0 Z = true) (wz : (Cond.initialized y.cls).before a0 Z = true) (hf : rm.frames + 1 ≤ R.frames) (hl : W + (maxL + 11) + rm.locals ≤ R.locals) :
    BackS l R p e below s args y len W (fun A a => a = as' ∧ A.U.heap = h ∧ A.cells + rm.cells ≤ R.cells ∧ A.slots + rm.slots ≤ R.slots)
      (fun A _ v B => ∃ L, Q v B.U.heap L ∧ B.locs = A.locs ++ L ∧ B.cells = A.cells + rm.cells ∧ B.slots = A.slots + rm.slots) :=
  BackS.of_freeW (bytes := bytes) (maxL := maxL) (ret := ret) (E := fun _ _ o t L k n => k = rm.cells ∧ n = rm.slots ∧ ∃ v, o = .returned v ∧ Q v t.heap L) hM hf hl
    (fun m meth c A a Y hp => have hU : Z.Warmed39 A.U.vm := wtrans hZ Y.warmed
      ⟨by show (Cond.and _ .tt).before a A.U = true; rw [Cond.before_and, mv hU wc]; rfl, mv hU wc, mv hU wz, hp.2.2.1, hp.2.2.2⟩)
    (fun m meth c A a g mk Y hp => ⟨hp.1, wtrans hZ Y.warmed, hp.2.1, hP _ Y.warmed⟩) (fun _ _ _ _ _ _ _ _ _ => trivial)
    (fun _ _ _ _ ⟨v, L, h1, h2, h3⟩ => ⟨L, _, _, h3, rfl, rfl, v, h1, h2⟩)
    (fun m meth c A a g mk v t L k n Y hp _ _ ⟨e1, e2, v', e3, e4⟩ => by cases e3; subst e1 e2; exact ⟨L, e4, rfl, rfl, rfl⟩)
theorem kCallIS (X : Stand p l e R s m args below meth c T locs cells slots) (hx : p.tables.exec = Jvm.exec) (hZ : Z.Warmed39 s.vm) {own : String} {index : Nat} {y : MethodName} {bytes : ByteArray} {mx : Nat} {rm : Room} {P : Vm → Prop} {Q : Option Value → Heap → List Loc → Prop} {a : Addr} {argsL rest : List Value}
    (K : ConS l Z y bytes mx none rm (.ref a :: argsL).toArray h P Q) (hP : ∀ vm, s.WarmedH vm → P vm) (hy1 : y.name = "<init>") (hown : s.vm.findClass own = some m.cls) (w1 : (Jvm.Cond.methodLink own index y).before a0 Z = true) (w2 : (Jvm.Cond.instanceMethod y).before a0 Z = true) (w3 : (Jvm.Cond.initialized y.cls).before a0 Z = true) (w4 : (Jvm.Cond.code y bytes mx none).before a0 Z = true)
    (hy : y.cls ≠ "java/lang/invoke/MethodHandle" ∧ y.cls ≠ "java/lang/invoke/VarHandle") (eT : T.heap = h) {g : JFrame} (hg : g.method = m) (hsize : g.locals.size = c.maxLocals) (hlen : ∀ sig, parseMethodDescriptor y.desc = some sig → argsL.length = sig.parameters.length) (hstack : g.stack = argsL.reverse ++ .ref a :: rest)
    {W : Nat} (hW : 2 * g.monitorRoom + (rest.map fun v => v.category).sum ≤ W) (hd : decode c.code g.pc = .ok (.invokespecial index, 3)) (hf : rm.frames + 1 ≤ R.frames) (hl : W + (mx + 11) + rm.locals ≤ R.locals) (hc : cells + rm.cells ≤ R.cells) (hs : slots + rm.slots ≤ R.slots) :
    ∃ v T' L, Stand p l e R (s.setVm T'.vm) m args below meth c T' (locs ++ L) (cells + rm.cells) (slots + rm.slots) ∧ Q v T'.heap L ∧ s.Since T'.vm T'.heap.size ∧ Z.Warmed39 (s.setVm T'.vm).vm ∧ (s.setVm T'.vm).vm.findClass own = some m.cls ∧ ∀ target, Steps p.tables e below (T'.setTop { g with pc := g.pc + 3, stack := v.toList ++ rest }) target → Steps p.tables e below (T.setTop g) target := by
  obtain ⟨v, _, ⟨T', L', k', n'⟩, -, X', hS, -, ⟨L, hQ, l1, l2, l3⟩, st⟩ := X.specialBackS hx (y := y) hy1 hown (mvT hZ w1) (mvT hZ w2) (mvT hZ w4) hy (backOfP (W := W) (K []) hZ hP w4 w3 hf hl) hg hsize (Steps.refl _) (a := a) hlen hstack hW hd (fun _ _ => ⟨rfl, eT, hc, hs⟩)
  dsimp only [Pt.U, Pt.locs, Pt.cells, Pt.slots] at X' l1 l2 l3 hQ st hS
  subst l1 l2 l3
  exact ⟨v, T', L, X', hQ, hS, State.Warmed39.trans hZ hS.1, by rw [show (s.setVm T'.vm).vm = T'.vm from rfl, hS.1.alike.findClass]; exact hown, fun t k => st.trans k⟩
end OwnS
theorem pn_0 : plainName "com/example/lanthorn/lanthorn/core/ModifiedUtf8LengthPinLaw" = true := by first | (simp [plainName, overriddenIn]; done) | decide +kernel
theorem d7_0 : decode method_2_code 0 = .ok (.iload_n 0, 1) := by decide +kernel
theorem d7_1 : decode method_2_code 1 = .ok (.ifCond .ne 5, 3) := by decide +kernel
theorem d7_4 : decode method_2_code 4 = .ok (.iconst 2, 1) := by decide +kernel
theorem d7_5 : decode method_2_code 5 = .ok (.ireturn, 1) := by decide +kernel
theorem d7_6 : decode method_2_code 6 = .ok (.iload_n 0, 1) := by decide +kernel
theorem d7_7 : decode method_2_code 7 = .ok (.sipush 128, 3) := by decide +kernel
theorem d7_10 : decode method_2_code 10 = .ok (.if_icmp .ge 5, 3) := by decide +kernel
theorem d7_13 : decode method_2_code 13 = .ok (.iconst 1, 1) := by decide +kernel
theorem d7_14 : decode method_2_code 14 = .ok (.ireturn, 1) := by decide +kernel
theorem d7_15 : decode method_2_code 15 = .ok (.iload_n 0, 1) := by decide +kernel
theorem d7_16 : decode method_2_code 16 = .ok (.sipush 2048, 3) := by decide +kernel
theorem d7_19 : decode method_2_code 19 = .ok (.if_icmp .ge 5, 3) := by decide +kernel
theorem d7_22 : decode method_2_code 22 = .ok (.iconst 2, 1) := by decide +kernel
theorem d7_23 : decode method_2_code 23 = .ok (.ireturn, 1) := by decide +kernel
theorem d7_24 : decode method_2_code 24 = .ok (.iconst 3, 1) := by decide +kernel
theorem d7_25 : decode method_2_code 25 = .ok (.ireturn, 1) := by decide +kernel
theorem pn_1 : plainName "java/lang/String" = true := by first | (simp [plainName, overriddenIn]; done) | decide +kernel
theorem d6_0 : decode jdk_42_method_152_code 0 = .ok (.getstatic 38, 3) := by decide +kernel
theorem d6_3 : decode jdk_42_method_152_code 3 = .ok (.ifCond .eq 10, 3) := by decide +kernel
theorem d6_6 : decode jdk_42_method_152_code 6 = .ok (.aload_n 0, 1) := by decide +kernel
theorem d6_7 : decode jdk_42_method_152_code 7 = .ok (.getfield 15, 3) := by decide +kernel
theorem d6_10 : decode jdk_42_method_152_code 10 = .ok (.goto 4, 3) := by decide +kernel
theorem d6_14 : decode jdk_42_method_152_code 14 = .ok (.ireturn, 1) := by decide +kernel
theorem d12_0 : decode jdk_42_method_154_code 0 = .ok (.getstatic 38, 3) := by decide +kernel
theorem d12_3 : decode jdk_42_method_154_code 3 = .ok (.ifCond .eq 14, 3) := by decide +kernel
theorem d12_6 : decode jdk_42_method_154_code 6 = .ok (.aload_n 0, 1) := by decide +kernel
theorem d12_7 : decode jdk_42_method_154_code 7 = .ok (.getfield 15, 3) := by decide +kernel
theorem d12_10 : decode jdk_42_method_154_code 10 = .ok (.ifCond .ne 7, 3) := by decide +kernel
theorem d12_13 : decode jdk_42_method_154_code 13 = .ok (.iconst 1, 1) := by decide +kernel
theorem d12_14 : decode jdk_42_method_154_code 14 = .ok (.goto 4, 3) := by decide +kernel
theorem d12_18 : decode jdk_42_method_154_code 18 = .ok (.ireturn, 1) := by decide +kernel
theorem d12_17 : decode jdk_42_method_154_code 17 = .ok (.iconst 0, 1) := by decide +kernel
theorem d5_0 : decode jdk_42_method_54_code 0 = .ok (.aload_n 0, 1) := by decide +kernel
theorem d5_1 : decode jdk_42_method_54_code 1 = .ok (.getfield 9, 3) := by decide +kernel
theorem d5_4 : decode jdk_42_method_54_code 4 = .ok (.arraylength, 1) := by decide +kernel
theorem d5_5 : decode jdk_42_method_54_code 5 = .ok (.aload_n 0, 1) := by decide +kernel
theorem pd_0 : parseMethodDescriptor "()B" = some ⟨[], some .byte⟩ := by decide +kernel
theorem d5_6 : decode jdk_42_method_54_code 6 = .ok (.invokevirtual 335, 3) := by decide +kernel
theorem d5_9 : decode jdk_42_method_54_code 9 = .ok (.ishr, 1) := by decide +kernel
theorem d5_10 : decode jdk_42_method_54_code 10 = .ok (.ireturn, 1) := by decide +kernel
theorem pn_2 : plainName "jdk/internal/util/Preconditions" = true := by first | (simp [plainName, overriddenIn]; done) | decide +kernel
theorem d15_0 : decode jdk_41_method_11_code 0 = .ok (.iload_n 0, 1) := by decide +kernel
theorem d15_1 : decode jdk_41_method_11_code 1 = .ok (.ifCond .lt 8, 3) := by decide +kernel
theorem d15_4 : decode jdk_41_method_11_code 4 = .ok (.iload_n 0, 1) := by decide +kernel
theorem d15_5 : decode jdk_41_method_11_code 5 = .ok (.iload_n 1, 1) := by decide +kernel
theorem d15_6 : decode jdk_41_method_11_code 6 = .ok (.if_icmp .lt 10, 3) := by decide +kernel
theorem d15_16 : decode jdk_41_method_11_code 16 = .ok (.iload_n 0, 1) := by decide +kernel
theorem d15_17 : decode jdk_41_method_11_code 17 = .ok (.ireturn, 1) := by decide +kernel
theorem d14_0 : decode jdk_42_method_155_code 0 = .ok (.iload_n 0, 1) := by decide +kernel
theorem d14_1 : decode jdk_42_method_155_code 1 = .ok (.iload_n 1, 1) := by decide +kernel
theorem d14_2 : decode jdk_42_method_155_code 2 = .ok (.getstatic 1053, 3) := by decide +kernel
theorem pd_1 : parseMethodDescriptor "(IILjava/util/function/BiFunction;)I" = some ⟨[.int, .int, (.object "java/util/function/BiFunction")], some .int⟩ := by decide +kernel
theorem d14_5 : decode jdk_42_method_155_code 5 = .ok (.invokestatic 1059, 3) := by decide +kernel
theorem d14_8 : decode jdk_42_method_155_code 8 = .ok (.pop, 1) := by decide +kernel
theorem d14_9 : decode jdk_42_method_155_code 9 = .ok (.return_, 1) := by decide +kernel
theorem pn_3 : plainName "java/lang/StringLatin1" = true := by first | (simp [plainName, overriddenIn]; done) | decide +kernel
theorem d13_0 : decode jdk_43_method_2_code 0 = .ok (.iload_n 1, 1) := by decide +kernel
theorem d13_1 : decode jdk_43_method_2_code 1 = .ok (.aload_n 0, 1) := by decide +kernel
theorem d13_2 : decode jdk_43_method_2_code 2 = .ok (.arraylength, 1) := by decide +kernel
theorem pd_2 : parseMethodDescriptor "(II)V" = some ⟨[.int, .int], none⟩ := by decide +kernel
theorem d13_3 : decode jdk_43_method_2_code 3 = .ok (.invokestatic 9, 3) := by decide +kernel
theorem d13_6 : decode jdk_43_method_2_code 6 = .ok (.aload_n 0, 1) := by decide +kernel
theorem d13_7 : decode jdk_43_method_2_code 7 = .ok (.iload_n 1, 1) := by decide +kernel
theorem d13_8 : decode jdk_43_method_2_code 8 = .ok (.baload, 1) := by decide +kernel
theorem d13_9 : decode jdk_43_method_2_code 9 = .ok (.sipush 255, 3) := by decide +kernel
theorem d13_12 : decode jdk_43_method_2_code 12 = .ok (.iand, 1) := by decide +kernel
theorem d13_13 : decode jdk_43_method_2_code 13 = .ok (.i2c, 1) := by decide +kernel
theorem d13_14 : decode jdk_43_method_2_code 14 = .ok (.ireturn, 1) := by decide +kernel
theorem pn_4 : plainName "java/lang/StringUTF16" = true := by first | (simp [plainName, overriddenIn]; done) | decide +kernel
theorem d23_0 : decode jdk_52_method_6_code 0 = .ok (.aload_n 0, 1) := by decide +kernel
theorem d23_1 : decode jdk_52_method_6_code 1 = .ok (.arraylength, 1) := by decide +kernel
theorem d23_2 : decode jdk_52_method_6_code 2 = .ok (.iconst 1, 1) := by decide +kernel
theorem d23_3 : decode jdk_52_method_6_code 3 = .ok (.ishr, 1) := by decide +kernel
theorem d23_4 : decode jdk_52_method_6_code 4 = .ok (.ireturn, 1) := by decide +kernel
theorem d22_0 : decode jdk_52_method_91_code 0 = .ok (.iload_n 0, 1) := by decide +kernel
theorem d22_1 : decode jdk_52_method_91_code 1 = .ok (.aload_n 1, 1) := by decide +kernel
theorem pd_3 : parseMethodDescriptor "([B)I" = some ⟨[(.array .byte)], some .int⟩ := by decide +kernel
theorem d22_2 : decode jdk_52_method_91_code 2 = .ok (.invokestatic 48, 3) := by decide +kernel
theorem d22_5 : decode jdk_52_method_91_code 5 = .ok (.invokestatic 414, 3) := by decide +kernel
theorem d22_8 : decode jdk_52_method_91_code 8 = .ok (.return_, 1) := by decide +kernel
theorem d20_0 : decode jdk_52_method_5_code 0 = .ok (.getstatic 44, 3) := by decide +kernel
theorem d20_3 : decode jdk_52_method_5_code 3 = .ok (.ifCond .ne 25, 3) := by decide +kernel
theorem d20_28 : decode jdk_52_method_5_code 28 = .ok (.iload_n 1, 1) := by decide +kernel
theorem d20_29 : decode jdk_52_method_5_code 29 = .ok (.iconst 1, 1) := by decide +kernel
theorem d20_30 : decode jdk_52_method_5_code 30 = .ok (.ishl, 1) := by decide +kernel
theorem d20_31 : decode jdk_52_method_5_code 31 = .ok (.istore_n 1, 1) := by decide +kernel
theorem d20_32 : decode jdk_52_method_5_code 32 = .ok (.aload_n 0, 1) := by decide +kernel
theorem d20_33 : decode jdk_52_method_5_code 33 = .ok (.iload_n 1, 1) := by decide +kernel
theorem d20_34 : decode jdk_52_method_5_code 34 = .ok (.iinc 1 1, 3) := by decide +kernel
theorem d20_37 : decode jdk_52_method_5_code 37 = .ok (.baload, 1) := by decide +kernel
theorem d20_38 : decode jdk_52_method_5_code 38 = .ok (.sipush 255, 3) := by decide +kernel
theorem d20_41 : decode jdk_52_method_5_code 41 = .ok (.iand, 1) := by decide +kernel
theorem d20_42 : decode jdk_52_method_5_code 42 = .ok (.getstatic 59, 3) := by decide +kernel
theorem d20_45 : decode jdk_52_method_5_code 45 = .ok (.ishl, 1) := by decide +kernel
theorem d20_46 : decode jdk_52_method_5_code 46 = .ok (.aload_n 0, 1) := by decide +kernel
theorem d20_47 : decode jdk_52_method_5_code 47 = .ok (.iload_n 1, 1) := by decide +kernel
theorem d20_48 : decode jdk_52_method_5_code 48 = .ok (.baload, 1) := by decide +kernel
theorem d20_49 : decode jdk_52_method_5_code 49 = .ok (.sipush 255, 3) := by decide +kernel
theorem d20_52 : decode jdk_52_method_5_code 52 = .ok (.iand, 1) := by decide +kernel
theorem d20_53 : decode jdk_52_method_5_code 53 = .ok (.getstatic 63, 3) := by decide +kernel
theorem d20_56 : decode jdk_52_method_5_code 56 = .ok (.ishl, 1) := by decide +kernel
theorem d20_57 : decode jdk_52_method_5_code 57 = .ok (.ior, 1) := by decide +kernel
theorem d20_58 : decode jdk_52_method_5_code 58 = .ok (.i2c, 1) := by decide +kernel
theorem d20_59 : decode jdk_52_method_5_code 59 = .ok (.ireturn, 1) := by decide +kernel
theorem d21_0 : decode jdk_52_method_83_code 0 = .ok (.iload_n 1, 1) := by decide +kernel
theorem d21_1 : decode jdk_52_method_83_code 1 = .ok (.aload_n 0, 1) := by decide +kernel
theorem pd_4 : parseMethodDescriptor "(I[B)V" = some ⟨[.int, (.array .byte)], none⟩ := by decide +kernel
theorem d21_2 : decode jdk_52_method_83_code 2 = .ok (.invokestatic 67, 3) := by decide +kernel
theorem d21_5 : decode jdk_52_method_83_code 5 = .ok (.aload_n 0, 1) := by decide +kernel
theorem d21_6 : decode jdk_52_method_83_code 6 = .ok (.iload_n 1, 1) := by decide +kernel
theorem pd_5 : parseMethodDescriptor "([BI)C" = some ⟨[(.array .byte), .int], some .char⟩ := by decide +kernel
theorem d21_7 : decode jdk_52_method_83_code 7 = .ok (.invokestatic 71, 3) := by decide +kernel
theorem d21_10 : decode jdk_52_method_83_code 10 = .ok (.ireturn, 1) := by decide +kernel
theorem d11_0 : decode jdk_42_method_56_code 0 = .ok (.aload_n 0, 1) := by decide +kernel
theorem pd_6 : parseMethodDescriptor "()Z" = some ⟨[], some .boolean⟩ := by decide +kernel
theorem d11_1 : decode jdk_42_method_56_code 1 = .ok (.invokevirtual 492, 3) := by decide +kernel
theorem d11_4 : decode jdk_42_method_56_code 4 = .ok (.ifCond .eq 12, 3) := by decide +kernel
theorem d11_7 : decode jdk_42_method_56_code 7 = .ok (.aload_n 0, 1) := by decide +kernel
theorem d11_8 : decode jdk_42_method_56_code 8 = .ok (.getfield 9, 3) := by decide +kernel
theorem d11_11 : decode jdk_42_method_56_code 11 = .ok (.iload_n 1, 1) := by decide +kernel
theorem d11_12 : decode jdk_42_method_56_code 12 = .ok (.invokestatic 495, 3) := by decide +kernel
theorem d11_15 : decode jdk_42_method_56_code 15 = .ok (.ireturn, 1) := by decide +kernel
theorem d11_16 : decode jdk_42_method_56_code 16 = .ok (.aload_n 0, 1) := by decide +kernel
theorem d11_17 : decode jdk_42_method_56_code 17 = .ok (.getfield 9, 3) := by decide +kernel
theorem d11_20 : decode jdk_42_method_56_code 20 = .ok (.iload_n 1, 1) := by decide +kernel
theorem d11_21 : decode jdk_42_method_56_code 21 = .ok (.invokestatic 498, 3) := by decide +kernel
theorem d11_24 : decode jdk_42_method_56_code 24 = .ok (.ireturn, 1) := by decide +kernel
theorem d18_0 : decode jdk_52_method_3_code 0 = .ok (.iload_n 0, 1) := by decide +kernel
theorem d18_1 : decode jdk_52_method_3_code 1 = .ok (.ifCond .ge 11, 3) := by decide +kernel
theorem d18_12 : decode jdk_52_method_3_code 12 = .ok (.iload_n 0, 1) := by decide +kernel
theorem d18_13 : decode jdk_52_method_3_code 13 = .ok (.ldc 20, 2) := by decide +kernel
theorem d18_15 : decode jdk_52_method_3_code 15 = .ok (.if_icmp .lt 40, 3) := by decide +kernel
theorem d18_55 : decode jdk_52_method_3_code 55 = .ok (.iload_n 0, 1) := by decide +kernel
theorem d18_56 : decode jdk_52_method_3_code 56 = .ok (.iconst 1, 1) := by decide +kernel
theorem d18_57 : decode jdk_52_method_3_code 57 = .ok (.ishl, 1) := by decide +kernel
theorem d18_58 : decode jdk_52_method_3_code 58 = .ok (.ireturn, 1) := by decide +kernel
theorem d17_0 : decode jdk_52_method_2_code 0 = .ok (.iload_n 0, 1) := by decide +kernel
theorem pd_7 : parseMethodDescriptor "(I)I" = some ⟨[.int], some .int⟩ := by decide +kernel
theorem d17_1 : decode jdk_52_method_2_code 1 = .ok (.invokestatic 11, 3) := by decide +kernel
theorem d17_4 : decode jdk_52_method_2_code 4 = .ok (.newarray .byte, 2) := by decide +kernel
theorem d17_6 : decode jdk_52_method_2_code 6 = .ok (.areturn, 1) := by decide +kernel
theorem d19_0 : decode jdk_52_method_4_code 0 = .ok (.getstatic 44, 3) := by decide +kernel
theorem d19_3 : decode jdk_52_method_4_code 3 = .ok (.ifCond .ne 25, 3) := by decide +kernel
theorem d19_28 : decode jdk_52_method_4_code 28 = .ok (.iload_n 1, 1) := by decide +kernel
theorem d19_29 : decode jdk_52_method_4_code 29 = .ok (.iconst 1, 1) := by decide +kernel
theorem d19_30 : decode jdk_52_method_4_code 30 = .ok (.ishl, 1) := by decide +kernel
theorem d19_31 : decode jdk_52_method_4_code 31 = .ok (.istore_n 1, 1) := by decide +kernel
theorem d19_32 : decode jdk_52_method_4_code 32 = .ok (.aload_n 0, 1) := by decide +kernel
theorem d19_33 : decode jdk_52_method_4_code 33 = .ok (.iload_n 1, 1) := by decide +kernel
theorem d19_34 : decode jdk_52_method_4_code 34 = .ok (.iinc 1 1, 3) := by decide +kernel
theorem d19_37 : decode jdk_52_method_4_code 37 = .ok (.iload_n 2, 1) := by decide +kernel
theorem d19_38 : decode jdk_52_method_4_code 38 = .ok (.getstatic 59, 3) := by decide +kernel
theorem d19_41 : decode jdk_52_method_4_code 41 = .ok (.ishr, 1) := by decide +kernel
theorem d19_42 : decode jdk_52_method_4_code 42 = .ok (.i2b, 1) := by decide +kernel
theorem d19_43 : decode jdk_52_method_4_code 43 = .ok (.bastore, 1) := by decide +kernel
theorem d19_44 : decode jdk_52_method_4_code 44 = .ok (.aload_n 0, 1) := by decide +kernel
theorem d19_45 : decode jdk_52_method_4_code 45 = .ok (.iload_n 1, 1) := by decide +kernel
theorem d19_46 : decode jdk_52_method_4_code 46 = .ok (.iload_n 2, 1) := by decide +kernel
theorem d19_47 : decode jdk_52_method_4_code 47 = .ok (.getstatic 63, 3) := by decide +kernel
theorem d19_50 : decode jdk_52_method_4_code 50 = .ok (.ishr, 1) := by decide +kernel
theorem d19_51 : decode jdk_52_method_4_code 51 = .ok (.i2b, 1) := by decide +kernel
theorem d19_52 : decode jdk_52_method_4_code 52 = .ok (.bastore, 1) := by decide +kernel
theorem d19_53 : decode jdk_52_method_4_code 53 = .ok (.return_, 1) := by decide +kernel
theorem d16_0 : decode jdk_52_method_14_code 0 = .ok (.iload_n 2, 1) := by decide +kernel
theorem pd_8 : parseMethodDescriptor "(I)[B" = some ⟨[.int], some (.array .byte)⟩ := by decide +kernel
theorem d16_1 : decode jdk_52_method_14_code 1 = .ok (.invokestatic 107, 3) := by decide +kernel
theorem d16_4 : decode jdk_52_method_14_code 4 = .ok (.astore_n 3, 1) := by decide +kernel
theorem d16_5 : decode jdk_52_method_14_code 5 = .ok (.iconst 0, 1) := by decide +kernel
theorem d16_6 : decode jdk_52_method_14_code 6 = .ok (.istore 4, 2) := by decide +kernel
theorem d16_8 : decode jdk_52_method_14_code 8 = .ok (.iload 4, 2) := by decide +kernel
theorem d16_10 : decode jdk_52_method_14_code 10 = .ok (.iload_n 2, 1) := by decide +kernel
theorem d16_11 : decode jdk_52_method_14_code 11 = .ok (.if_icmp .ge 21, 3) := by decide +kernel
theorem d16_14 : decode jdk_52_method_14_code 14 = .ok (.aload_n 3, 1) := by decide +kernel
theorem d16_15 : decode jdk_52_method_14_code 15 = .ok (.iload 4, 2) := by decide +kernel
theorem d16_17 : decode jdk_52_method_14_code 17 = .ok (.aload_n 0, 1) := by decide +kernel
theorem d16_18 : decode jdk_52_method_14_code 18 = .ok (.iload_n 1, 1) := by decide +kernel
theorem d16_19 : decode jdk_52_method_14_code 19 = .ok (.caload, 1) := by decide +kernel
theorem pd_9 : parseMethodDescriptor "([BII)V" = some ⟨[(.array .byte), .int, .int], none⟩ := by decide +kernel
theorem d16_20 : decode jdk_52_method_14_code 20 = .ok (.invokestatic 111, 3) := by decide +kernel
theorem d16_23 : decode jdk_52_method_14_code 23 = .ok (.iinc 1 1, 3) := by decide +kernel
theorem d16_26 : decode jdk_52_method_14_code 26 = .ok (.iinc 4 1, 3) := by decide +kernel
theorem d16_29 : decode jdk_52_method_14_code 29 = .ok (.goto (-21), 3) := by decide +kernel
theorem d16_32 : decode jdk_52_method_14_code 32 = .ok (.aload_n 3, 1) := by decide +kernel
theorem d16_33 : decode jdk_52_method_14_code 33 = .ok (.areturn, 1) := by decide +kernel
theorem d9_0 : decode jdk_52_method_21_code 0 = .ok (.iconst 0, 1) := by decide +kernel
theorem d9_1 : decode jdk_52_method_21_code 1 = .ok (.istore 5, 2) := by decide +kernel
theorem d9_3 : decode jdk_52_method_21_code 3 = .ok (.iload 5, 2) := by decide +kernel
theorem d9_5 : decode jdk_52_method_21_code 5 = .ok (.iload 4, 2) := by decide +kernel
theorem d9_7 : decode jdk_52_method_21_code 7 = .ok (.if_icmp .ge 37, 3) := by decide +kernel
theorem d9_10 : decode jdk_52_method_21_code 10 = .ok (.aload_n 0, 1) := by decide +kernel
theorem d9_11 : decode jdk_52_method_21_code 11 = .ok (.iload_n 1, 1) := by decide +kernel
theorem d9_12 : decode jdk_52_method_21_code 12 = .ok (.caload, 1) := by decide +kernel
theorem d9_13 : decode jdk_52_method_21_code 13 = .ok (.istore 6, 2) := by decide +kernel
theorem d9_15 : decode jdk_52_method_21_code 15 = .ok (.iload 6, 2) := by decide +kernel
theorem d9_17 : decode jdk_52_method_21_code 17 = .ok (.sipush 255, 3) := by decide +kernel
theorem d9_20 : decode jdk_52_method_21_code 20 = .ok (.if_icmp .le 6, 3) := by decide +kernel
theorem d9_23 : decode jdk_52_method_21_code 23 = .ok (.iload 5, 2) := by decide +kernel
theorem d9_25 : decode jdk_52_method_21_code 25 = .ok (.ireturn, 1) := by decide +kernel
theorem d9_26 : decode jdk_52_method_21_code 26 = .ok (.aload_n 2, 1) := by decide +kernel
theorem d9_27 : decode jdk_52_method_21_code 27 = .ok (.iload_n 3, 1) := by decide +kernel
theorem d9_28 : decode jdk_52_method_21_code 28 = .ok (.iload 6, 2) := by decide +kernel
theorem d9_30 : decode jdk_52_method_21_code 30 = .ok (.i2b, 1) := by decide +kernel
theorem d9_31 : decode jdk_52_method_21_code 31 = .ok (.bastore, 1) := by decide +kernel
theorem d9_32 : decode jdk_52_method_21_code 32 = .ok (.iinc 1 1, 3) := by decide +kernel
theorem d9_35 : decode jdk_52_method_21_code 35 = .ok (.iinc 3 1, 3) := by decide +kernel
theorem d9_38 : decode jdk_52_method_21_code 38 = .ok (.iinc 5 1, 3) := by decide +kernel
theorem d9_41 : decode jdk_52_method_21_code 41 = .ok (.goto (-38), 3) := by decide +kernel
theorem d9_44 : decode jdk_52_method_21_code 44 = .ok (.iload 4, 2) := by decide +kernel
theorem d9_46 : decode jdk_52_method_21_code 46 = .ok (.ireturn, 1) := by decide +kernel
theorem d8_0 : decode jdk_52_method_16_code 0 = .ok (.iload_n 2, 1) := by decide +kernel
theorem d8_1 : decode jdk_52_method_16_code 1 = .ok (.newarray .byte, 2) := by decide +kernel
theorem d8_3 : decode jdk_52_method_16_code 3 = .ok (.astore_n 3, 1) := by decide +kernel
theorem d8_4 : decode jdk_52_method_16_code 4 = .ok (.aload_n 0, 1) := by decide +kernel
theorem d8_5 : decode jdk_52_method_16_code 5 = .ok (.iload_n 1, 1) := by decide +kernel
theorem d8_6 : decode jdk_52_method_16_code 6 = .ok (.aload_n 3, 1) := by decide +kernel
theorem d8_7 : decode jdk_52_method_16_code 7 = .ok (.iconst 0, 1) := by decide +kernel
theorem d8_8 : decode jdk_52_method_16_code 8 = .ok (.iload_n 2, 1) := by decide +kernel
theorem pd_10 : parseMethodDescriptor "([CI[BII)I" = some ⟨[(.array .char), .int, (.array .byte), .int, .int], some .int⟩ := by decide +kernel
theorem d8_9 : decode jdk_52_method_16_code 9 = .ok (.invokestatic 115, 3) := by decide +kernel
theorem d8_12 : decode jdk_52_method_16_code 12 = .ok (.istore 4, 2) := by decide +kernel
theorem d8_14 : decode jdk_52_method_16_code 14 = .ok (.iload 4, 2) := by decide +kernel
theorem d8_16 : decode jdk_52_method_16_code 16 = .ok (.iload_n 2, 1) := by decide +kernel
theorem d8_17 : decode jdk_52_method_16_code 17 = .ok (.if_icmp .eq 40, 3) := by decide +kernel
theorem d8_57 : decode jdk_52_method_16_code 57 = .ok (.aload_n 3, 1) := by decide +kernel
theorem d8_58 : decode jdk_52_method_16_code 58 = .ok (.areturn, 1) := by decide +kernel
theorem d8_20 : decode jdk_52_method_16_code 20 = .ok (.aload_n 0, 1) := by decide +kernel
theorem d8_21 : decode jdk_52_method_16_code 21 = .ok (.iload_n 1, 1) := by decide +kernel
theorem d8_22 : decode jdk_52_method_16_code 22 = .ok (.iload_n 2, 1) := by decide +kernel
theorem pd_11 : parseMethodDescriptor "([CII)[B" = some ⟨[(.array .char), .int, .int], some (.array .byte)⟩ := by decide +kernel
theorem d8_23 : decode jdk_52_method_16_code 23 = .ok (.invokestatic 119, 3) := by decide +kernel
theorem d8_26 : decode jdk_52_method_16_code 26 = .ok (.astore 5, 2) := by decide +kernel
theorem d8_28 : decode jdk_52_method_16_code 28 = .ok (.aload 5, 2) := by decide +kernel
theorem d8_30 : decode jdk_52_method_16_code 30 = .ok (.iload 4, 2) := by decide +kernel
theorem d8_32 : decode jdk_52_method_16_code 32 = .ok (.invokestatic 71, 3) := by decide +kernel
theorem d8_35 : decode jdk_52_method_16_code 35 = .ok (.sipush 255, 3) := by decide +kernel
theorem d8_38 : decode jdk_52_method_16_code 38 = .ok (.if_icmp .gt 16, 3) := by decide +kernel
theorem d8_54 : decode jdk_52_method_16_code 54 = .ok (.aload 5, 2) := by decide +kernel
theorem d8_56 : decode jdk_52_method_16_code 56 = .ok (.areturn, 1) := by decide +kernel
theorem d10_0 : decode jdk_52_method_15_code 0 = .ok (.iload_n 1, 1) := by decide +kernel
theorem d10_1 : decode jdk_52_method_15_code 1 = .ok (.aload_n 0, 1) := by decide +kernel
theorem d10_2 : decode jdk_52_method_15_code 2 = .ok (.arraylength, 1) := by decide +kernel
theorem d10_3 : decode jdk_52_method_15_code 3 = .ok (.isub, 1) := by decide +kernel
theorem d10_4 : decode jdk_52_method_15_code 4 = .ok (.bipush 31, 2) := by decide +kernel
theorem d10_6 : decode jdk_52_method_15_code 6 = .ok (.iushr, 1) := by decide +kernel
theorem d10_7 : decode jdk_52_method_15_code 7 = .ok (.i2b, 1) := by decide +kernel
theorem d10_8 : decode jdk_52_method_15_code 8 = .ok (.ireturn, 1) := by decide +kernel
theorem d2_0 : decode jdk_42_method_149_code 0 = .ok (.aload_n 0, 1) := by decide +kernel
theorem d2_1 : decode jdk_42_method_149_code 1 = .ok (.invokespecial 1, 3) := by decide +kernel
theorem d2_4 : decode jdk_42_method_149_code 4 = .ok (.iload_n 3, 1) := by decide +kernel
theorem d2_5 : decode jdk_42_method_149_code 5 = .ok (.ifCond .ne 22, 3) := by decide +kernel
theorem d2_27 : decode jdk_42_method_149_code 27 = .ok (.getstatic 38, 3) := by decide +kernel
theorem d2_30 : decode jdk_42_method_149_code 30 = .ok (.ifCond .eq 28, 3) := by decide +kernel
theorem d2_33 : decode jdk_42_method_149_code 33 = .ok (.aload_n 1, 1) := by decide +kernel
theorem d2_34 : decode jdk_42_method_149_code 34 = .ok (.iload_n 2, 1) := by decide +kernel
theorem d2_35 : decode jdk_42_method_149_code 35 = .ok (.iload_n 3, 1) := by decide +kernel
theorem d2_36 : decode jdk_42_method_149_code 36 = .ok (.invokestatic 177, 3) := by decide +kernel
theorem d2_39 : decode jdk_42_method_149_code 39 = .ok (.astore 5, 2) := by decide +kernel
theorem d2_41 : decode jdk_42_method_149_code 41 = .ok (.aload_n 0, 1) := by decide +kernel
theorem d2_42 : decode jdk_42_method_149_code 42 = .ok (.aload 5, 2) := by decide +kernel
theorem d2_44 : decode jdk_42_method_149_code 44 = .ok (.iload_n 3, 1) := by decide +kernel
theorem pd_12 : parseMethodDescriptor "([BI)B" = some ⟨[(.array .byte), .int], some .byte⟩ := by decide +kernel
theorem d2_45 : decode jdk_42_method_149_code 45 = .ok (.invokestatic 47, 3) := by decide +kernel
theorem d2_48 : decode jdk_42_method_149_code 48 = .ok (.putfield 15, 3) := by decide +kernel
theorem d2_51 : decode jdk_42_method_149_code 51 = .ok (.aload_n 0, 1) := by decide +kernel
theorem d2_52 : decode jdk_42_method_149_code 52 = .ok (.aload 5, 2) := by decide +kernel
theorem d2_54 : decode jdk_42_method_149_code 54 = .ok (.putfield 9, 3) := by decide +kernel
theorem d2_57 : decode jdk_42_method_149_code 57 = .ok (.return_, 1) := by decide +kernel
theorem d1_0 : decode jdk_42_method_3_code 0 = .ok (.aload_n 0, 1) := by decide +kernel
theorem d1_1 : decode jdk_42_method_3_code 1 = .ok (.aload_n 1, 1) := by decide +kernel
theorem d1_2 : decode jdk_42_method_3_code 2 = .ok (.iconst 0, 1) := by decide +kernel
theorem d1_3 : decode jdk_42_method_3_code 3 = .ok (.aload_n 1, 1) := by decide +kernel
theorem d1_4 : decode jdk_42_method_3_code 4 = .ok (.arraylength, 1) := by decide +kernel
theorem d1_5 : decode jdk_42_method_3_code 5 = .ok (.aconst_null, 1) := by decide +kernel
theorem pd_13 : parseMethodDescriptor "([CIILjava/lang/Void;)V" = some ⟨[(.array .char), .int, .int, (.object "java/lang/Void")], none⟩ := by decide +kernel
theorem d1_6 : decode jdk_42_method_3_code 6 = .ok (.invokespecial 27, 3) := by decide +kernel
theorem d1_9 : decode jdk_42_method_3_code 9 = .ok (.return_, 1) := by decide +kernel
theorem pn_5 : plainName "com/example/lanthorn/lanthorn/core/ModifiedUtf8" = true := by first | (simp [plainName, overriddenIn]; done) | decide +kernel
theorem d4_0 : decode prog_18_method_3_code 0 = .ok (.iconst 0, 1) := by decide +kernel
theorem d4_1 : decode prog_18_method_3_code 1 = .ok (.istore_n 1, 1) := by decide +kernel
theorem d4_2 : decode prog_18_method_3_code 2 = .ok (.iconst 0, 1) := by decide +kernel
theorem d4_3 : decode prog_18_method_3_code 3 = .ok (.istore_n 2, 1) := by decide +kernel
theorem d4_4 : decode prog_18_method_3_code 4 = .ok (.iload_n 2, 1) := by decide +kernel
theorem d4_5 : decode prog_18_method_3_code 5 = .ok (.aload_n 0, 1) := by decide +kernel
theorem pd_14 : parseMethodDescriptor "()I" = some ⟨[], some .int⟩ := by decide +kernel
theorem d4_6 : decode prog_18_method_3_code 6 = .ok (.invokevirtual 56, 3) := by decide +kernel
theorem d4_9 : decode prog_18_method_3_code 9 = .ok (.if_icmp .ge 45, 3) := by decide +kernel
theorem d4_54 : decode prog_18_method_3_code 54 = .ok (.iload_n 1, 1) := by decide +kernel
theorem d4_55 : decode prog_18_method_3_code 55 = .ok (.ireturn, 1) := by decide +kernel
theorem d4_12 : decode prog_18_method_3_code 12 = .ok (.aload_n 0, 1) := by decide +kernel
theorem d4_13 : decode prog_18_method_3_code 13 = .ok (.iload_n 2, 1) := by decide +kernel
theorem pd_15 : parseMethodDescriptor "(I)C" = some ⟨[.int], some .char⟩ := by decide +kernel
theorem d4_14 : decode prog_18_method_3_code 14 = .ok (.invokevirtual 60, 3) := by decide +kernel
theorem d4_17 : decode prog_18_method_3_code 17 = .ok (.istore_n 3, 1) := by decide +kernel
theorem d4_18 : decode prog_18_method_3_code 18 = .ok (.iload_n 1, 1) := by decide +kernel
theorem d4_19 : decode prog_18_method_3_code 19 = .ok (.iload_n 3, 1) := by decide +kernel
theorem d4_20 : decode prog_18_method_3_code 20 = .ok (.iconst 1, 1) := by decide +kernel
theorem d4_21 : decode prog_18_method_3_code 21 = .ok (.if_icmp .lt 13, 3) := by decide +kernel
theorem d4_34 : decode prog_18_method_3_code 34 = .ok (.iload_n 3, 1) := by decide +kernel
theorem d4_35 : decode prog_18_method_3_code 35 = .ok (.sipush 2047, 3) := by decide +kernel
theorem d4_38 : decode prog_18_method_3_code 38 = .ok (.if_icmp .gt 7, 3) := by decide +kernel
theorem d4_45 : decode prog_18_method_3_code 45 = .ok (.iconst 3, 1) := by decide +kernel
theorem d4_41 : decode prog_18_method_3_code 41 = .ok (.iconst 2, 1) := by decide +kernel
theorem d4_42 : decode prog_18_method_3_code 42 = .ok (.goto 4, 3) := by decide +kernel
theorem d4_24 : decode prog_18_method_3_code 24 = .ok (.iload_n 3, 1) := by decide +kernel
theorem d4_25 : decode prog_18_method_3_code 25 = .ok (.bipush 127, 2) := by decide +kernel
theorem d4_27 : decode prog_18_method_3_code 27 = .ok (.if_icmp .gt 7, 3) := by decide +kernel
theorem d4_30 : decode prog_18_method_3_code 30 = .ok (.iconst 1, 1) := by decide +kernel
theorem d4_31 : decode prog_18_method_3_code 31 = .ok (.goto 15, 3) := by decide +kernel
theorem d4_46 : decode prog_18_method_3_code 46 = .ok (.iadd, 1) := by decide +kernel
theorem d4_47 : decode prog_18_method_3_code 47 = .ok (.istore_n 1, 1) := by decide +kernel
theorem d4_48 : decode prog_18_method_3_code 48 = .ok (.iinc 2 1, 3) := by decide +kernel
theorem d4_51 : decode prog_18_method_3_code 51 = .ok (.goto (-47), 3) := by decide +kernel
theorem d2_8 : decode jdk_42_method_149_code 8 = .ok (.aload_n 0, 1) := by decide +kernel
theorem d2_9 : decode jdk_42_method_149_code 9 = .ok (.ldc 7, 2) := by decide +kernel
theorem d2_11 : decode jdk_42_method_149_code 11 = .ok (.getfield 9, 3) := by decide +kernel
theorem d2_14 : decode jdk_42_method_149_code 14 = .ok (.putfield 9, 3) := by decide +kernel
theorem d2_17 : decode jdk_42_method_149_code 17 = .ok (.aload_n 0, 1) := by decide +kernel
theorem d2_18 : decode jdk_42_method_149_code 18 = .ok (.ldc 7, 2) := by decide +kernel
theorem d2_20 : decode jdk_42_method_149_code 20 = .ok (.getfield 15, 3) := by decide +kernel
theorem d2_23 : decode jdk_42_method_149_code 23 = .ok (.putfield 15, 3) := by decide +kernel
theorem d2_26 : decode jdk_42_method_149_code 26 = .ok (.return_, 1) := by decide +kernel
theorem pd_16 : parseMethodDescriptor "([C)V" = some ⟨[(.array .char)], none⟩ := by decide +kernel
theorem pd_17 : parseMethodDescriptor "(Ljava/lang/String;)I" = some ⟨[(.object "java/lang/String")], some .int⟩ := by decide +kernel
theorem pd_18 : parseMethodDescriptor "(C)I" = some ⟨[.char], some .int⟩ := by decide +kernel
theorem idC {v : Int32} (h : 0 ≤ v.toInt ∧ v.toInt < 65536) : v.toUInt32.toUInt16.toUInt32.toInt32 = v := by
  apply Int32.toInt_inj.mp; have := c_i2c v; omega
theorem fixB (v : Int32) : v.toInt8.toInt32.toInt8.toInt32 = v.toInt8.toInt32 := by
  apply Int32.toInt_inj.mp; have := c_i2b v; have := c_i2b v.toInt8.toInt32; omega
def laB (v : Int32) : Int32 := v.toInt8.toInt32
def loB (v : Int32) : Int32 := (v >>> ((0 : Int32) &&& 31)).toInt8.toInt32
def hiB (v : Int32) : Int32 := (v >>> ((8 : Int32) &&& 31)).toInt8.toInt32
theorem lat_ch {v : Int32} (h : 0 ≤ v.toInt ∧ v.toInt ≤ 255) : ((laB v &&& (255 : Int32)).toUInt32.toUInt16.toUInt32.toInt32) = v := by
  apply Int32.toInt_inj.mp
  have h1 := c_i2b v
  have h2 : (laB v &&& (255 : Int32)).toInt = (laB v).toInt % (256 : Nat) := c_mask (laB v) 255 8 (by decide) (by decide)
  have h3 := c_i2c (laB v &&& (255 : Int32))
  have h4 : (laB v).toInt = v.toInt8.toInt32.toInt := rfl
  omega
theorem utf_ch {v : Int32} (h : 0 ≤ v.toInt ∧ v.toInt < 65536) : ((((loB v &&& (255 : Int32)) <<< ((0 : Int32) &&& 31)) ||| ((hiB v &&& (255 : Int32)) <<< ((8 : Int32) &&& 31))).toUInt32.toUInt16.toUInt32.toInt32) = v := by
  apply Int32.toInt_inj.mp
  have a1 := c_ishr v 0 0 (by decide); have a2 := c_ishr v 8 8 (by decide)
  have b1 := c_i2b (v >>> ((0 : Int32) &&& 31)); have b2 := c_i2b (v >>> ((8 : Int32) &&& 31))
  have e1 : (loB v).toInt = (v >>> ((0 : Int32) &&& 31)).toInt8.toInt32.toInt := rfl
  have e2 : (hiB v).toInt = (v >>> ((8 : Int32) &&& 31)).toInt8.toInt32.toInt := rfl
  have m1 : (loB v &&& (255 : Int32)).toInt = (loB v).toInt % (256 : Nat) := c_mask (loB v) 255 8 (by decide) (by decide)
  have m2 : (hiB v &&& (255 : Int32)).toInt = (hiB v).toInt % (256 : Nat) := c_mask (hiB v) 255 8 (by decide) (by decide)
  have s1 := c_ishl (loB v &&& (255 : Int32)) 0 0 (by decide); have s2 := c_ishl (hiB v &&& (255 : Int32)) 8 8 (by decide)
  have r1 := rng32 ((loB v &&& (255 : Int32)) <<< ((0 : Int32) &&& 31)); have r2 := rng32 ((hiB v &&& (255 : Int32)) <<< ((8 : Int32) &&& 31))
  rw [show (2 ^ 0 : Nat) = 1 from rfl] at a1 s1
  rw [show (2 ^ 8 : Nat) = 256 from by decide] at a2 s2
  have o := c_or' ((loB v &&& (255 : Int32)) <<< ((0 : Int32) &&& 31)) ((hiB v &&& (255 : Int32)) <<< ((8 : Int32) &&& 31)) 8 (by decide) 256 (by decide) (by omega) (by omega) (by omega)
  have o2 := c_i2c (((loB v &&& (255 : Int32)) <<< ((0 : Int32) &&& 31)) ||| ((hiB v &&& (255 : Int32)) <<< ((8 : Int32) &&& 31)))
  omega
def bo (v : Int32) : Int32 := if v = 0 then 2 else if v < 128 then 1 else if v < 2048 then 2 else 3
theorem k1i : (1 : Int32).toInt = 1 := by decide
theorem k127 : (127 : Int32).toInt = 127 := by decide
theorem k2047 : (2047 : Int32).toInt = 2047 := by decide
theorem k128 : (128 : Int32).toInt = 128 := by decide
theorem k2048 : (2048 : Int32).toInt = 2048 := by decide
theorem k0i : (0 : Int32).toInt = 0 := by decide
theorem bo1 {v : Int32} (h1 : ¬ v < 1) (h2 : ¬ 127 < v) : (1 : Int32) = bo v := by
  rw [Int32.lt_iff_toInt_lt, k1i] at h1; rw [Int32.lt_iff_toInt_lt, k127] at h2
  rw [bo, if_neg (fun q => by rw [q, k0i] at h1; omega), if_pos (by rw [Int32.lt_iff_toInt_lt, k128]; omega)]
theorem bo2 {v : Int32} (h : 0 ≤ v.toInt) (h1 : v < 1 ∨ 127 < v) (h2 : ¬ 2047 < v) : (2 : Int32) = bo v := by
  rw [Int32.lt_iff_toInt_lt, Int32.lt_iff_toInt_lt, k1i, k127] at h1; rw [Int32.lt_iff_toInt_lt, k2047] at h2
  by_cases q : v = 0
  · rw [bo, if_pos q]
  · have : v.toInt ≠ 0 := fun r => q (Int32.toInt_inj.mp (r.trans k0i.symm))
    rw [bo, if_neg q, if_neg (by rw [Int32.lt_iff_toInt_lt, k128]; omega), if_pos (by rw [Int32.lt_iff_toInt_lt, k2048]; omega)]
theorem bo3 {v : Int32} (h2 : 2047 < v) : (3 : Int32) = bo v := by
  rw [Int32.lt_iff_toInt_lt, k2047] at h2
  rw [bo, if_neg (fun q => by rw [q, k0i] at h2; omega), if_neg (by rw [Int32.lt_iff_toInt_lt, k128]; omega), if_neg (by rw [Int32.lt_iff_toInt_lt, k2048]; omega)]
/-- the two kinds of a String's bytes -/
def La1 (n : Nat) (g : Nat → Int32) (f : Nat → Value) : Prop := ∀ i, i < n → f i = .int (laB (g i)) ∧ (g i).toInt ≤ 255
def U16 (n : Nat) (g : Nat → Int32) (f : Nat → Value) : Prop := ∀ i, i < n → f (2 * i) = .int (loB (g i)) ∧ f (2 * i + 1) = .int (hiB (g i))
def Chr (g : Nat → Int32) : Prop := ∀ i, 0 ≤ (g i).toInt ∧ (g i).toInt < 65536
/-- a String object of these characters -/
def Str (Z : State) (h : Heap) (a : Addr) (n : Nat) (g : Nat → Int32) : Prop := Exa Z h a "java/lang/String" ∧ ∃ (b : Addr) (cd : Int32) (N : Nat) (f : Nat → Value), Fld Z h a "java/lang/String" "value" "[B" (.ref b) ∧ Fld Z h a "java/lang/String" "coder" "B" (.int cd) ∧ Jar Z h b .byte N f ∧ ((cd = 0 ∧ N = n ∧ La1 n g f) ∨ (cd = 1 ∧ N = 2 * n ∧ U16 n g f))
/-- the statics that are read -/
def Stt (Z : State) (cs : Int32) (fv : Value) : Prop := cs ≠ 0 ∧ fv.isRef = true ∧ Sta Z Z.heap "java/lang/String" "COMPACT_STRINGS" "Z" (.int cs) ∧ Sta Z Z.heap "jdk/internal/util/Preconditions" "SIOOBE_FORMATTER" "Ljava/util/function/BiFunction;" fv ∧ Sta Z Z.heap "java/lang/StringUTF16" "$assertionsDisabled" "Z" (.int 1) ∧ Sta Z Z.heap "java/lang/StringUTF16" "HI_BYTE_SHIFT" "I" (.int 0) ∧ Sta Z Z.heap "java/lang/StringUTF16" "LO_BYTE_SHIFT" "I" (.int 8)
theorem toI {n : Nat} (h : n ≤ 6) : n.toInt32.toInt = n := len_toInt (by omega)
theorem shl1 {i : Int32} (h : 0 ≤ i.toInt ∧ i.toInt ≤ 2) : (i <<< ((1 : Int32) &&& 31)).toInt = 2 * i.toInt ∧ ((i <<< ((1 : Int32) &&& 31)) + (1 : Int32)).toInt = 2 * i.toInt + 1 := by
  have a := c_ishl i 1 1 (by decide); rw [show (2 ^ 1 : Nat) = 2 from by decide] at a
  have r := rng32 (i <<< ((1 : Int32) &&& 31)); have b := c_iadd (i <<< ((1 : Int32) &&& 31)) 1; have r2 := rng32 ((i <<< ((1 : Int32) &&& 31)) + (1 : Int32)); have := k1i
  omega
theorem shlN {i : Int32} (h : 0 ≤ i.toInt ∧ i.toInt ≤ 2) : (i <<< ((1 : Int32) &&& 31)).toNatClampNeg = 2 * i.toNatClampNeg ∧ ((i <<< ((1 : Int32) &&& 31)) + (1 : Int32)).toNatClampNeg = 2 * i.toNatClampNeg + 1 := by
  have := shl1 h
  have e1 : (i <<< ((1 : Int32) &&& 31)).toNatClampNeg = (i <<< ((1 : Int32) &&& 31)).toInt.toNat := rfl
  have e2 : ((i <<< ((1 : Int32) &&& 31)) + (1 : Int32)).toNatClampNeg = ((i <<< ((1 : Int32) &&& 31)) + (1 : Int32)).toInt.toNat := rfl
  have e3 : i.toNatClampNeg = i.toInt.toNat := rfl
  omega
theorem clN {i : Int32} (h : 0 ≤ i.toInt) : (i.toNatClampNeg : Int) = i.toInt := by have e3 : i.toNatClampNeg = i.toInt.toNat := rfl; omega
theorem narC {v : Int32} (h : 0 ≤ v.toInt ∧ v.toInt < 65536) : nar .char v = v := idC h
theorem ef_c_bo (m : MethodId) (x0 : Int32) : entryFrame m #[(.int x0)] 1 = mkF m 0 #[.val (.int x0)] [] := by first | (simp [entryFrame, mkF, argsToLocals, Value.category]; done) | rfl
set_option maxRecDepth 65536 in
set_option maxHeartbeats 40000000 in
theorem c_bo (l : Launch) (Z : State) (a0 : Array Value) (hw : ∀ d ∈ tables_1, d.before a0 Z = true) (v : Int32) (h0 : Heap)  :
    Con l Z (⟨"com/example/lanthorn/lanthorn/core/ModifiedUtf8LengthPinLaw", "bytesOf", "(C)I"⟩ : MethodName) method_2_code 1 (some .int) ({ frames := 0, cells := 0, slots := 0, locals := 0 } : Room) #[(.int v)] h0 (PQ (some (.int (bo v))) h0) := by
  refine Con.intro (plainFor_of_name pn_0) ?_
  intro p e s m below meth c s₁ hx hby hml hrt hlk hZ hown hnm X0 e0
  replace hown : s.vm.findClass "com/example/lanthorn/lanthorn/core/ModifiedUtf8LengthPinLaw" = some m.cls := hown
  refine GoOn.cast (ef_c_bo m v) ?_
  show GoOn p e below _ (s₁.setTop (mkF m 0 #[.val (.int v)] []))
  refine GoOn.step (fun t₀ k₀ => XS.iloadN X0.here hx rfl (hb hby d7_0) rfl k₀) ?_
  show GoOn p e below _ (s₁.setTop (mkF m 1 #[.val (.int v)] [(.int v)]))
  by_cases h1 : v = (0 : Int32)
  · refine GoOn.step (fun t₀ k₀ => XS.ifNo X0.here hx rfl (hb hby d7_1) rfl ((if0 _ _).trans (teq h1).2) k₀) ?_
    show GoOn p e below _ (s₁.setTop (mkF m 4 #[.val (.int v)] []))
    refine GoOn.step (fun t₀ k₀ => XS.iconst X0.here hx rfl (hb hby d7_4) k₀) ?_
    show GoOn p e below _ (s₁.setTop (mkF m 5 #[.val (.int v)] [(.int (2 : Int32))]))
    exact GoOn.retI X0 hx hrt hlk (hb hby d7_5) (by decide) (by decide) (by first | exact ⟨by rw [bo, if_pos h1], rfl, rfl⟩ | (rw [e0]; exact ⟨by rw [bo, if_pos h1], rfl, rfl⟩))
  · refine GoOn.step (fun t₀ k₀ => XS.ifYes X0.here hx rfl (pc0 := 1) (pc' := 6) rfl (hb hby d7_1) rfl ((if0 _ _).trans (feq h1).2) (by decide) (by decide) k₀) ?_
    show GoOn p e below _ (s₁.setTop (mkF m 6 #[.val (.int v)] []))
    refine GoOn.step (fun t₀ k₀ => XS.iloadN X0.here hx rfl (hb hby d7_6) rfl k₀) ?_
    show GoOn p e below _ (s₁.setTop (mkF m 7 #[.val (.int v)] [(.int v)]))
    refine GoOn.step (fun t₀ k₀ => XS.sipush X0.here hx rfl (hb hby d7_7) k₀) ?_
    show GoOn p e below _ (s₁.setTop (mkF m 10 #[.val (.int v)] [(.int (128 : Int32)), (.int v)]))
    by_cases h2 : v < (128 : Int32)
    · refine GoOn.step (fun t₀ k₀ => XS.icmpNo X0.here hx rfl (hb hby d7_10) rfl (tlt h2).2.1 k₀) ?_
      show GoOn p e below _ (s₁.setTop (mkF m 13 #[.val (.int v)] []))
      refine GoOn.step (fun t₀ k₀ => XS.iconst X0.here hx rfl (hb hby d7_13) k₀) ?_
      show GoOn p e below _ (s₁.setTop (mkF m 14 #[.val (.int v)] [(.int (1 : Int32))]))
      exact GoOn.retI X0 hx hrt hlk (hb hby d7_14) (by decide) (by decide) (by first | exact ⟨by rw [bo, if_neg h1, if_pos h2], rfl, rfl⟩ | (rw [e0]; exact ⟨by rw [bo, if_neg h1, if_pos h2], rfl, rfl⟩))
    · refine GoOn.step (fun t₀ k₀ => XS.icmpYes X0.here hx rfl (pc0 := 10) (pc' := 15) rfl (hb hby d7_10) rfl (flt h2).2.1 (by decide) (by decide) k₀) ?_
      show GoOn p e below _ (s₁.setTop (mkF m 15 #[.val (.int v)] []))
      refine GoOn.step (fun t₀ k₀ => XS.iloadN X0.here hx rfl (hb hby d7_15) rfl k₀) ?_
      show GoOn p e below _ (s₁.setTop (mkF m 16 #[.val (.int v)] [(.int v)]))
      refine GoOn.step (fun t₀ k₀ => XS.sipush X0.here hx rfl (hb hby d7_16) k₀) ?_
      show GoOn p e below _ (s₁.setTop (mkF m 19 #[.val (.int v)] [(.int (2048 : Int32)), (.int v)]))
      by_cases h3 : v < (2048 : Int32)
      · refine GoOn.step (fun t₀ k₀ => XS.icmpNo X0.here hx rfl (hb hby d7_19) rfl (tlt h3).2.1 k₀) ?_
        show GoOn p e below _ (s₁.setTop (mkF m 22 #[.val (.int v)] []))
        refine GoOn.step (fun t₀ k₀ => XS.iconst X0.here hx rfl (hb hby d7_22) k₀) ?_
        show GoOn p e below _ (s₁.setTop (mkF m 23 #[.val (.int v)] [(.int (2 : Int32))]))
        exact GoOn.retI X0 hx hrt hlk (hb hby d7_23) (by decide) (by decide) (by first | exact ⟨by rw [bo, if_neg h1, if_neg h2, if_pos h3], rfl, rfl⟩ | (rw [e0]; exact ⟨by rw [bo, if_neg h1, if_neg h2, if_pos h3], rfl, rfl⟩))
      · refine GoOn.step (fun t₀ k₀ => XS.icmpYes X0.here hx rfl (pc0 := 19) (pc' := 24) rfl (hb hby d7_19) rfl (flt h3).2.1 (by decide) (by decide) k₀) ?_
        show GoOn p e below _ (s₁.setTop (mkF m 24 #[.val (.int v)] []))
        refine GoOn.step (fun t₀ k₀ => XS.iconst X0.here hx rfl (hb hby d7_24) k₀) ?_
        show GoOn p e below _ (s₁.setTop (mkF m 25 #[.val (.int v)] [(.int (3 : Int32))]))
        exact GoOn.retI X0 hx hrt hlk (hb hby d7_25) (by decide) (by decide) (by first | exact ⟨by rw [bo, if_neg h1, if_neg h2, if_neg h3], rfl, rfl⟩ | (rw [e0]; exact ⟨by rw [bo, if_neg h1, if_neg h2, if_neg h3], rfl, rfl⟩))
theorem ef_c_cod (m : MethodId) (x0 : Addr) : entryFrame m #[(.ref x0)] 1 = mkF m 0 #[.val (.ref x0)] [] := by first | (simp [entryFrame, mkF, argsToLocals, Value.category]; done) | rfl
set_option maxRecDepth 65536 in
set_option maxHeartbeats 40000000 in
theorem c_cod (l : Launch) (Z : State) (a0 : Array Value) (hw : ∀ d ∈ tables_1, d.before a0 Z = true) (a : Addr) (cd : Int32) (cs : Int32) (fv : Value) (h0 : Heap) (n0 : Nat) (O : Old Z n0 h0) (SS : Stt Z cs fv) (Fc : Fld Z h0 a "java/lang/String" "coder" "B" (.int cd)) (hcd : cd = 0 ∨ cd = 1) :
    Con l Z (⟨"java/lang/String", "coder", "()B"⟩ : MethodName) jdk_42_method_152_code 1 (some .byte) ({ frames := 0, cells := 0, slots := 0, locals := 0 } : Room) #[(.ref a)] h0 (PQ (some (.int cd)) h0) := by
  refine Con.intro (plainFor_of_name pn_1) ?_
  intro p e s m below meth c s₁ hx hby hml hrt hlk hZ hown hnm X0 e0
  replace hown : s.vm.findClass "java/lang/String" = some m.cls := hown
  refine GoOn.cast (ef_c_cod m a) ?_
  show GoOn p e below _ (s₁.setTop (mkF m 0 #[.val (.ref a)] []))
  obtain ⟨hcs, hfv, S1, S2, S3, S4, S5⟩ := id SS
  replace S1 := S1.ext O.2
  replace S2 := S2.ext O.2
  replace S3 := S3.ext O.2
  replace S4 := S4.ext O.2
  replace S5 := S5.ext O.2
  obtain ⟨T1, X1, e1, st1⟩ := getS2 X0 hx hZ hown (host := "") (Or.inl (hw _ (List.mem_of_getElem? (i := 37) rfl))) Via.refl e0 S1 (g := (mkF m 0 #[.val (.ref a)] [])) rfl (hb hby d6_0)
  refine GoOn.step st1 ?_
  show GoOn p e below _ (T1.setTop (mkF m 3 #[.val (.ref a)] [(.int cs)]))
  have hf2 : ¬ (cs = (0 : Int32)) := hcs
  refine GoOn.step (fun t₀ k₀ => XS.ifNo X1.here hx rfl (hb hby d6_3) rfl ((if0 _ _).trans (feq hf2).1) k₀) ?_
  show GoOn p e below _ (T1.setTop (mkF m 6 #[.val (.ref a)] []))
  refine GoOn.step (fun t₀ k₀ => XS.aloadN X1.here hx rfl (hb hby d6_6) rfl rfl k₀) ?_
  show GoOn p e below _ (T1.setTop (mkF m 7 #[.val (.ref a)] [(.ref a)]))
  obtain ⟨T3, X3, e3, st3⟩ := getF X1 hx hZ hown (host := "") (Or.inl (hw _ (List.mem_of_getElem? (i := 22) rfl))) Via.refl e1 Fc (g := (mkF m 7 #[.val (.ref a)] [(.ref a)])) rfl rfl (hb hby d6_7)
  refine GoOn.step st3 ?_
  show GoOn p e below _ (T3.setTop (mkF m 10 #[.val (.ref a)] [(.int cd)]))
  refine GoOn.step (fun t₀ k₀ => XS.goto X3.here hx rfl (pc0 := 10) (pc' := 14) rfl (hb hby d6_10) (by decide) (by decide) k₀) ?_
  show GoOn p e below _ (T3.setTop (mkF m 14 #[.val (.ref a)] [(.int cd)]))
  exact GoOn.retN X3 hx hrt hlk (by simp) (hb hby d6_14) (by decide) (by decide) (by first | exact ⟨by rcases hcd with rfl | rfl <;> rfl, rfl, rfl⟩ | (rw [e3]; exact ⟨by rcases hcd with rfl | rfl <;> rfl, rfl, rfl⟩))
theorem ef_c_isl (m : MethodId) (x0 : Addr) : entryFrame m #[(.ref x0)] 1 = mkF m 0 #[.val (.ref x0)] [] := by first | (simp [entryFrame, mkF, argsToLocals, Value.category]; done) | rfl
set_option maxRecDepth 65536 in
set_option maxHeartbeats 40000000 in
theorem c_isl (l : Launch) (Z : State) (a0 : Array Value) (hw : ∀ d ∈ tables_1, d.before a0 Z = true) (a : Addr) (cd : Int32) (cs : Int32) (fv : Value) (h0 : Heap) (n0 : Nat) (O : Old Z n0 h0) (SS : Stt Z cs fv) (Fc : Fld Z h0 a "java/lang/String" "coder" "B" (.int cd)) :
    Con l Z (⟨"java/lang/String", "isLatin1", "()Z"⟩ : MethodName) jdk_42_method_154_code 1 (some .boolean) ({ frames := 0, cells := 0, slots := 0, locals := 0 } : Room) #[(.ref a)] h0 (PQ (some (.int (if cd = 0 then (1 : Int32) else 0))) h0) := by
  refine Con.intro (plainFor_of_name pn_1) ?_
  intro p e s m below meth c s₁ hx hby hml hrt hlk hZ hown hnm X0 e0
  replace hown : s.vm.findClass "java/lang/String" = some m.cls := hown
  refine GoOn.cast (ef_c_isl m a) ?_
  show GoOn p e below _ (s₁.setTop (mkF m 0 #[.val (.ref a)] []))
  obtain ⟨hcs, hfv, S1, S2, S3, S4, S5⟩ := id SS
  replace S1 := S1.ext O.2
  replace S2 := S2.ext O.2
  replace S3 := S3.ext O.2
  replace S4 := S4.ext O.2
  replace S5 := S5.ext O.2
  obtain ⟨T4, X4, e4, st4⟩ := getS2 X0 hx hZ hown (host := "") (Or.inl (hw _ (List.mem_of_getElem? (i := 37) rfl))) Via.refl e0 S1 (g := (mkF m 0 #[.val (.ref a)] [])) rfl (hb hby d12_0)
  refine GoOn.step st4 ?_
  show GoOn p e below _ (T4.setTop (mkF m 3 #[.val (.ref a)] [(.int cs)]))
  have hf5 : ¬ (cs = (0 : Int32)) := hcs
  refine GoOn.step (fun t₀ k₀ => XS.ifNo X4.here hx rfl (hb hby d12_3) rfl ((if0 _ _).trans (feq hf5).1) k₀) ?_
  show GoOn p e below _ (T4.setTop (mkF m 6 #[.val (.ref a)] []))
  refine GoOn.step (fun t₀ k₀ => XS.aloadN X4.here hx rfl (hb hby d12_6) rfl rfl k₀) ?_
  show GoOn p e below _ (T4.setTop (mkF m 7 #[.val (.ref a)] [(.ref a)]))
  obtain ⟨T6, X6, e6, st6⟩ := getF X4 hx hZ hown (host := "") (Or.inl (hw _ (List.mem_of_getElem? (i := 22) rfl))) Via.refl e4 Fc (g := (mkF m 7 #[.val (.ref a)] [(.ref a)])) rfl rfl (hb hby d12_7)
  refine GoOn.step st6 ?_
  show GoOn p e below _ (T6.setTop (mkF m 10 #[.val (.ref a)] [(.int cd)]))
  by_cases h1 : cd = (0 : Int32)
  · refine GoOn.step (fun t₀ k₀ => XS.ifNo X6.here hx rfl (hb hby d12_10) rfl ((if0 _ _).trans (teq h1).2) k₀) ?_
    show GoOn p e below _ (T6.setTop (mkF m 13 #[.val (.ref a)] []))
    refine GoOn.step (fun t₀ k₀ => XS.iconst X6.here hx rfl (hb hby d12_13) k₀) ?_
    show GoOn p e below _ (T6.setTop (mkF m 14 #[.val (.ref a)] [(.int (1 : Int32))]))
    refine GoOn.step (fun t₀ k₀ => XS.goto X6.here hx rfl (pc0 := 14) (pc' := 18) rfl (hb hby d12_14) (by decide) (by decide) k₀) ?_
    show GoOn p e below _ (T6.setTop (mkF m 18 #[.val (.ref a)] [(.int (1 : Int32))]))
    exact GoOn.retN X6 hx hrt hlk (by simp) (hb hby d12_18) (by decide) (by decide) (by first | exact ⟨by rw [if_pos h1]; rfl, rfl, rfl⟩ | (rw [e6]; exact ⟨by rw [if_pos h1]; rfl, rfl, rfl⟩))
  · refine GoOn.step (fun t₀ k₀ => XS.ifYes X6.here hx rfl (pc0 := 10) (pc' := 17) rfl (hb hby d12_10) rfl ((if0 _ _).trans (feq h1).2) (by decide) (by decide) k₀) ?_
    show GoOn p e below _ (T6.setTop (mkF m 17 #[.val (.ref a)] []))
    refine GoOn.step (fun t₀ k₀ => XS.iconst X6.here hx rfl (hb hby d12_17) k₀) ?_
    show GoOn p e below _ (T6.setTop (mkF m 18 #[.val (.ref a)] [(.int (0 : Int32))]))
    exact GoOn.retN X6 hx hrt hlk (by simp) (hb hby d12_18) (by decide) (by decide) (by first | exact ⟨by rw [if_neg h1]; rfl, rfl, rfl⟩ | (rw [e6]; exact ⟨by rw [if_neg h1]; rfl, rfl, rfl⟩))
theorem len_la {n : Nat} (h : n ≤ 3) : n.toInt32 >>> ((0 : Int32) &&& 31) = n.toInt32 := by
  match n, h with
  | 0, _ => exact (by decide)
  | 1, _ => exact (by decide)
  | 2, _ => exact (by decide)
  | 3, _ => exact (by decide)
theorem len_u {n : Nat} (h : n ≤ 3) : (2 * n).toInt32 >>> ((1 : Int32) &&& 31) = n.toInt32 := by
  match n, h with
  | 0, _ => exact (by decide)
  | 1, _ => exact (by decide)
  | 2, _ => exact (by decide)
  | 3, _ => exact (by decide)
theorem ef_c_len (m : MethodId) (x0 : Addr) : entryFrame m #[(.ref x0)] 1 = mkF m 0 #[.val (.ref x0)] [] := by first | (simp [entryFrame, mkF, argsToLocals, Value.category]; done) | rfl
set_option maxRecDepth 65536 in
set_option maxHeartbeats 40000000 in
theorem c_len (l : Launch) (Z : State) (a0 : Array Value) (hw : ∀ d ∈ tables_1, d.before a0 Z = true) (a : Addr) (n : Nat) (g : Nat → Int32) (cs : Int32) (fv : Value) (h0 : Heap) (n0 : Nat) (O : Old Z n0 h0) (SS : Stt Z cs fv) (SO : Str Z h0 a n g) (hn : n ≤ 3) :
    Con l Z (⟨"java/lang/String", "length", "()I"⟩ : MethodName) jdk_42_method_54_code 1 (some .int) ({ frames := 1, cells := 0, slots := 0, locals := 14 } : Room) #[(.ref a)] h0 (PQ (some (.int n.toInt32)) h0) := by
  refine Con.intro (plainFor_of_name pn_1) ?_
  intro p e s m below meth c s₁ hx hby hml hrt hlk hZ hown hnm X0 e0
  replace hown : s.vm.findClass "java/lang/String" = some m.cls := hown
  refine GoOn.cast (ef_c_len m a) ?_
  show GoOn p e below _ (s₁.setTop (mkF m 0 #[.val (.ref a)] []))
  obtain ⟨Ex, b, cd, N, f, Fv, Fc, Jb, hb2⟩ := SO
  have hcd : cd = 0 ∨ cd = 1 := hb2.imp (fun q => q.1) (fun q => q.1)
  refine GoOn.step (fun t₀ k₀ => XS.aloadN X0.here hx rfl (hb hby d5_0) rfl rfl k₀) ?_
  show GoOn p e below _ (s₁.setTop (mkF m 1 #[.val (.ref a)] [(.ref a)]))
  obtain ⟨T7, X7, e7, st7⟩ := getF X0 hx hZ hown (host := "") (Or.inl (hw _ (List.mem_of_getElem? (i := 21) rfl))) Via.refl e0 Fv (g := (mkF m 1 #[.val (.ref a)] [(.ref a)])) rfl rfl (hb hby d5_1)
  refine GoOn.step st7 ?_
  show GoOn p e below _ (T7.setTop (mkF m 4 #[.val (.ref a)] [(.ref b)]))
  refine GoOn.step (fun t₀ k₀ => kLen X7 hx hZ e7 Jb (z := N.toInt32) rfl (g := (mkF m 4 #[.val (.ref a)] [(.ref b)])) rfl rfl (hb hby d5_4) t₀ k₀) ?_
  show GoOn p e below _ (T7.setTop (mkF m 5 #[.val (.ref a)] [(.int N.toInt32)]))
  refine GoOn.step (fun t₀ k₀ => XS.aloadN X7.here hx rfl (hb hby d5_5) rfl rfl k₀) ?_
  show GoOn p e below _ (T7.setTop (mkF m 6 #[.val (.ref a)] [(.ref a), (.int N.toInt32)]))
  obtain ⟨_, T8, L8, X8, hQ8, st8⟩ := kCallV X7 hx hZ (a := a) (argsL := []) (rest := [(.int N.toInt32)]) (c_cod l Z a0 hw a cd cs fv h0 n0 O SS Fc hcd) hown (hw _ (List.mem_of_getElem? (i := 32) rfl)) (hw _ (List.mem_of_getElem? (i := 33) rfl)) (notFace_of_selects (args := #[]) (mvT hZ (hw _ (List.mem_of_getElem? (i := 35) rfl)))) (hw _ (List.mem_of_getElem? (i := 35) rfl)) (hw _ (List.mem_of_getElem? (i := 34) rfl)) (hw _ (List.mem_of_getElem? (i := 4) rfl)) (hw _ (List.mem_of_getElem? (i := 36) rfl)) (by decide) e7 Ex (g := (mkF m 6 #[.val (.ref a)] [(.ref a), (.int N.toInt32)])) rfl (by rw [hml]; rfl) (lenOf pd_0 rfl) rfl (W := 1) (by show 2 * 0 + _ ≤ _; exact Nat.le_of_eq rfl) (hb hby d5_6) (by decide) (by decide) (by decide) (by decide)
  obtain ⟨rfl, rfl, e8⟩ := hQ8
  rw [List.append_nil] at X8
  refine GoOn.step st8 ?_
  show GoOn p e below _ (T8.setTop (mkF m 9 #[.val (.ref a)] [(.int cd), (.int N.toInt32)]))
  refine GoOn.step (fun t₀ k₀ => XS.ishr X8.here hx rfl (hb hby d5_9) rfl k₀) ?_
  show GoOn p e below _ (T8.setTop (mkF m 10 #[.val (.ref a)] [(.int (N.toInt32 >>> (cd &&& 31)))]))
  exact GoOn.retI X8 hx hrt hlk (hb hby d5_10) (by decide) (by decide) (by first | exact ⟨by rcases hb2 with ⟨rfl, rfl, -⟩ | ⟨rfl, rfl, -⟩; exact congrArg (fun z => some (Value.int z)) (len_la hn); exact congrArg (fun z => some (Value.int z)) (len_u hn), rfl, rfl⟩ | (rw [e8]; exact ⟨by rcases hb2 with ⟨rfl, rfl, -⟩ | ⟨rfl, rfl, -⟩; exact congrArg (fun z => some (Value.int z)) (len_la hn); exact congrArg (fun z => some (Value.int z)) (len_u hn), rfl, rfl⟩))
theorem ef_c_pc (m : MethodId) (x0 : Int32) (x1 : Int32) (x2 : Value) (hx2 : x2.isRef = true) : entryFrame m #[(.int x0), (.int x1), x2] 3 = mkF m 0 #[.val (.int x0), .val (.int x1), .val x2] [] := by (rcases ref_cases hx2 with rfl | ⟨_, rfl⟩) <;> first | (simp [entryFrame, mkF, argsToLocals, Value.category]; done) | rfl
set_option maxRecDepth 65536 in
set_option maxHeartbeats 40000000 in
theorem c_pc (l : Launch) (Z : State) (a0 : Array Value) (hw : ∀ d ∈ tables_1, d.before a0 Z = true) (i k : Int32) (fv : Value) (h0 : Heap) (hfv : fv.isRef = true) (hi : 0 ≤ i.toInt) (hlt : i < k) :
    Con l Z (⟨"jdk/internal/util/Preconditions", "checkIndex", "(IILjava/util/function/BiFunction;)I"⟩ : MethodName) jdk_41_method_11_code 3 (some .int) ({ frames := 0, cells := 0, slots := 0, locals := 0 } : Room) #[(.int i), (.int k), fv] h0 (PQ (some (.int i)) h0) := by
  refine Con.intro (plainFor_of_name pn_2) ?_
  intro p e s m below meth c s₁ hx hby hml hrt hlk hZ hown hnm X0 e0
  replace hown : s.vm.findClass "jdk/internal/util/Preconditions" = some m.cls := hown
  refine GoOn.cast (ef_c_pc m i k fv hfv) ?_
  show GoOn p e below _ (s₁.setTop (mkF m 0 #[.val (.int i), .val (.int k), .val fv] []))
  refine GoOn.step (fun t₀ k₀ => XS.iloadN X0.here hx rfl (hb hby d15_0) rfl k₀) ?_
  show GoOn p e below _ (s₁.setTop (mkF m 1 #[.val (.int i), .val (.int k), .val fv] [(.int i)]))
  have hf9 : ¬ (i < (0 : Int32)) := (by simp only [Int32.lt_iff_toInt_lt, Int32.le_iff_toInt_le, Int32.reduceToInt]; omega)
  refine GoOn.step (fun t₀ k₀ => XS.ifNo X0.here hx rfl (hb hby d15_1) rfl ((if0 _ _).trans (flt hf9).1) k₀) ?_
  show GoOn p e below _ (s₁.setTop (mkF m 4 #[.val (.int i), .val (.int k), .val fv] []))
  refine GoOn.step (fun t₀ k₀ => XS.iloadN X0.here hx rfl (hb hby d15_4) rfl k₀) ?_
  show GoOn p e below _ (s₁.setTop (mkF m 5 #[.val (.int i), .val (.int k), .val fv] [(.int i)]))
  refine GoOn.step (fun t₀ k₀ => XS.iloadN X0.here hx rfl (hb hby d15_5) rfl k₀) ?_
  show GoOn p e below _ (s₁.setTop (mkF m 6 #[.val (.int i), .val (.int k), .val fv] [(.int k), (.int i)]))
  have hf10 : i < k := hlt
  refine GoOn.step (fun t₀ k₀ => XS.icmpYes X0.here hx rfl (pc0 := 6) (pc' := 16) rfl (hb hby d15_6) rfl (tlt hf10).1 (by decide) (by decide) k₀) ?_
  show GoOn p e below _ (s₁.setTop (mkF m 16 #[.val (.int i), .val (.int k), .val fv] []))
  refine GoOn.step (fun t₀ k₀ => XS.iloadN X0.here hx rfl (hb hby d15_16) rfl k₀) ?_
  show GoOn p e below _ (s₁.setTop (mkF m 17 #[.val (.int i), .val (.int k), .val fv] [(.int i)]))
  exact GoOn.retI X0 hx hrt hlk (hb hby d15_17) (by decide) (by decide) (by first | exact ⟨rfl, rfl, rfl⟩ | (rw [e0]; exact ⟨rfl, rfl, rfl⟩))
theorem ef_c_ci (m : MethodId) (x0 : Int32) (x1 : Int32) : entryFrame m #[(.int x0), (.int x1)] 2 = mkF m 0 #[.val (.int x0), .val (.int x1)] [] := by first | (simp [entryFrame, mkF, argsToLocals, Value.category]; done) | rfl
set_option maxRecDepth 65536 in
set_option maxHeartbeats 40000000 in
theorem c_ci (l : Launch) (Z : State) (a0 : Array Value) (hw : ∀ d ∈ tables_1, d.before a0 Z = true) (i k : Int32) (cs : Int32) (fv : Value) (h0 : Heap) (n0 : Nat) (O : Old Z n0 h0) (SS : Stt Z cs fv) (hi : 0 ≤ i.toInt) (hlt : i < k) :
    Con l Z (⟨"java/lang/String", "checkIndex", "(II)V"⟩ : MethodName) jdk_42_method_155_code 2 none ({ frames := 1, cells := 0, slots := 0, locals := 16 } : Room) #[(.int i), (.int k)] h0 (PQ none h0) := by
  refine Con.intro (plainFor_of_name pn_1) ?_
  intro p e s m below meth c s₁ hx hby hml hrt hlk hZ hown hnm X0 e0
  replace hown : s.vm.findClass "java/lang/String" = some m.cls := hown
  refine GoOn.cast (ef_c_ci m i k) ?_
  show GoOn p e below _ (s₁.setTop (mkF m 0 #[.val (.int i), .val (.int k)] []))
  obtain ⟨hcs, hfv, S1, S2, S3, S4, S5⟩ := id SS
  replace S1 := S1.ext O.2
  replace S2 := S2.ext O.2
  replace S3 := S3.ext O.2
  replace S4 := S4.ext O.2
  replace S5 := S5.ext O.2
  refine GoOn.step (fun t₀ k₀ => XS.iloadN X0.here hx rfl (hb hby d14_0) rfl k₀) ?_
  show GoOn p e below _ (s₁.setTop (mkF m 1 #[.val (.int i), .val (.int k)] [(.int i)]))
  refine GoOn.step (fun t₀ k₀ => XS.iloadN X0.here hx rfl (hb hby d14_1) rfl k₀) ?_
  show GoOn p e below _ (s₁.setTop (mkF m 2 #[.val (.int i), .val (.int k)] [(.int k), (.int i)]))
  obtain ⟨T11, X11, e11, st11⟩ := getS2 X0 hx hZ hown (host := "") (Or.inl (hw _ (List.mem_of_getElem? (i := 69) rfl))) Via.refl e0 S2 (g := (mkF m 2 #[.val (.int i), .val (.int k)] [(.int k), (.int i)])) rfl (hb hby d14_2)
  refine GoOn.step st11 ?_
  show GoOn p e below _ (T11.setTop (mkF m 5 #[.val (.int i), .val (.int k)] [fv, (.int k), (.int i)]))
  obtain ⟨_, T12, L12, X12, hQ12, st12⟩ := kCallS X11 hx hZ (argsL := [(.int i), (.int k), fv]) (rest := []) (c_pc l Z a0 hw i k fv h0 hfv hi hlt) hown (hw _ (List.mem_of_getElem? (i := 71) rfl)) (hw _ (List.mem_of_getElem? (i := 72) rfl)) (hw _ (List.mem_of_getElem? (i := 70) rfl)) (hw _ (List.mem_of_getElem? (i := 73) rfl)) (by decide) e11 (g := (mkF m 5 #[.val (.int i), .val (.int k)] [fv, (.int k), (.int i)])) rfl (by rw [hml]; rfl) (lenOf pd_1 rfl) rfl (W := 0) (by show 2 * 0 + _ ≤ _; exact Nat.le_of_eq rfl) (hb hby d14_5) (by decide) (by decide) (by decide) (by decide)
  obtain ⟨rfl, rfl, e12⟩ := hQ12
  rw [List.append_nil] at X12
  refine GoOn.step st12 ?_
  show GoOn p e below _ (T12.setTop (mkF m 8 #[.val (.int i), .val (.int k)] [(.int i)]))
  refine GoOn.step (fun t₀ k₀ => XS.pop X12.here hx rfl (hb hby d14_8) rfl rfl k₀) ?_
  show GoOn p e below _ (T12.setTop (mkF m 9 #[.val (.int i), .val (.int k)] []))
  exact GoOn.ret0 X12 hx hrt hlk (hb hby d14_9) (by decide) (by decide) (by first | exact ⟨rfl, rfl, rfl⟩ | (rw [e12]; exact ⟨rfl, rfl, rfl⟩))
theorem ef_c_l1 (m : MethodId) (x0 : Addr) (x1 : Int32) : entryFrame m #[(.ref x0), (.int x1)] 2 = mkF m 0 #[.val (.ref x0), .val (.int x1)] [] := by first | (simp [entryFrame, mkF, argsToLocals, Value.category]; done) | rfl
set_option maxRecDepth 65536 in
set_option maxHeartbeats 40000000 in
theorem c_l1 (l : Launch) (Z : State) (a0 : Array Value) (hw : ∀ d ∈ tables_1, d.before a0 Z = true) (b : Addr) (i v : Int32) (N : Nat) (f : Nat → Value) (cs : Int32) (fv : Value) (h0 : Heap) (n0 : Nat) (O : Old Z n0 h0) (SS : Stt Z cs fv) (Jb : Jar Z h0 b .byte N f) (hN : N ≤ 6) (hi : 0 ≤ i.toInt ∧ i.toInt < N) (hf : f i.toNatClampNeg = .int (laB v)) (hv : 0 ≤ v.toInt ∧ v.toInt ≤ 255) :
    Con l Z (⟨"java/lang/StringLatin1", "charAt", "([BI)C"⟩ : MethodName) jdk_43_method_2_code 2 (some .char) ({ frames := 2, cells := 0, slots := 0, locals := 32 } : Room) #[(.ref b), (.int i)] h0 (PQ (some (.int v)) h0) := by
  refine Con.intro (plainFor_of_name pn_3) ?_
  intro p e s m below meth c s₁ hx hby hml hrt hlk hZ hown hnm X0 e0
  replace hown : s.vm.findClass "java/lang/StringLatin1" = some m.cls := hown
  refine GoOn.cast (ef_c_l1 m b i) ?_
  show GoOn p e below _ (s₁.setTop (mkF m 0 #[.val (.ref b), .val (.int i)] []))
  refine GoOn.step (fun t₀ k₀ => XS.iloadN X0.here hx rfl (hb hby d13_0) rfl k₀) ?_
  show GoOn p e below _ (s₁.setTop (mkF m 1 #[.val (.ref b), .val (.int i)] [(.int i)]))
  refine GoOn.step (fun t₀ k₀ => XS.aloadN X0.here hx rfl (hb hby d13_1) rfl rfl k₀) ?_
  show GoOn p e below _ (s₁.setTop (mkF m 2 #[.val (.ref b), .val (.int i)] [(.ref b), (.int i)]))
  refine GoOn.step (fun t₀ k₀ => kLen X0 hx hZ e0 Jb (z := N.toInt32) rfl (g := (mkF m 2 #[.val (.ref b), .val (.int i)] [(.ref b), (.int i)])) rfl rfl (hb hby d13_2) t₀ k₀) ?_
  show GoOn p e below _ (s₁.setTop (mkF m 3 #[.val (.ref b), .val (.int i)] [(.int N.toInt32), (.int i)]))
  obtain ⟨_, T13, L13, X13, hQ13, st13⟩ := kCallS X0 hx hZ (argsL := [(.int i), (.int N.toInt32)]) (rest := []) (c_ci l Z a0 hw i N.toInt32 cs fv h0 n0 O SS hi.1 (by rw [Int32.lt_iff_toInt_lt]; have := toI hN; omega)) hown (hw _ (List.mem_of_getElem? (i := 66) rfl)) (hw _ (List.mem_of_getElem? (i := 67) rfl)) (hw _ (List.mem_of_getElem? (i := 4) rfl)) (hw _ (List.mem_of_getElem? (i := 68) rfl)) (by decide) e0 (g := (mkF m 3 #[.val (.ref b), .val (.int i)] [(.int N.toInt32), (.int i)])) rfl (by rw [hml]; rfl) (lenOf pd_2 rfl) rfl (W := 0) (by show 2 * 0 + _ ≤ _; exact Nat.le_of_eq rfl) (hb hby d13_3) (by decide) (by decide) (by decide) (by decide)
  obtain ⟨rfl, rfl, e13⟩ := hQ13
  rw [List.append_nil] at X13
  refine GoOn.step st13 ?_
  show GoOn p e below _ (T13.setTop (mkF m 6 #[.val (.ref b), .val (.int i)] []))
  refine GoOn.step (fun t₀ k₀ => XS.aloadN X13.here hx rfl (hb hby d13_6) rfl rfl k₀) ?_
  show GoOn p e below _ (T13.setTop (mkF m 7 #[.val (.ref b), .val (.int i)] [(.ref b)]))
  refine GoOn.step (fun t₀ k₀ => XS.iloadN X13.here hx rfl (hb hby d13_7) rfl k₀) ?_
  show GoOn p e below _ (T13.setTop (mkF m 8 #[.val (.ref b), .val (.int i)] [(.int i), (.ref b)]))
  refine GoOn.step (fun t₀ k₀ => kLdB X13 hx hZ e13 Jb (j := i) (v := (.int (laB v))) hi hf (g := (mkF m 8 #[.val (.ref b), .val (.int i)] [(.int i), (.ref b)])) rfl rfl (hb hby d13_8) t₀ k₀) ?_
  show GoOn p e below _ (T13.setTop (mkF m 9 #[.val (.ref b), .val (.int i)] [(.int (laB v))]))
  refine GoOn.step (fun t₀ k₀ => XS.sipush X13.here hx rfl (hb hby d13_9) k₀) ?_
  show GoOn p e below _ (T13.setTop (mkF m 12 #[.val (.ref b), .val (.int i)] [(.int (255 : Int32)), (.int (laB v))]))
  refine GoOn.step (fun t₀ k₀ => XS.iand X13.here hx rfl (hb hby d13_12) rfl k₀) ?_
  show GoOn p e below _ (T13.setTop (mkF m 13 #[.val (.ref b), .val (.int i)] [(.int ((laB v) &&& (255 : Int32)))]))
  refine GoOn.step (fun t₀ k₀ => XS.i2c X13.here hx rfl (hb hby d13_13) rfl k₀) ?_
  show GoOn p e below _ (T13.setTop (mkF m 14 #[.val (.ref b), .val (.int i)] [(.int (((laB v) &&& (255 : Int32)).toUInt32.toUInt16.toUInt32.toInt32))]))
  rw [show (((laB v) &&& (255 : Int32)).toUInt32.toUInt16.toUInt32.toInt32) = v from lat_ch hv]
  exact GoOn.retN X13 hx hrt hlk (by simp) (hb hby d13_14) (by decide) (by decide) (by first | exact ⟨by rw [narC (by omega)], rfl, rfl⟩ | (rw [e13]; exact ⟨by rw [narC (by omega)], rfl, rfl⟩))
theorem ef_c_ul (m : MethodId) (x0 : Addr) : entryFrame m #[(.ref x0)] 1 = mkF m 0 #[.val (.ref x0)] [] := by first | (simp [entryFrame, mkF, argsToLocals, Value.category]; done) | rfl
set_option maxRecDepth 65536 in
set_option maxHeartbeats 40000000 in
theorem c_ul (l : Launch) (Z : State) (a0 : Array Value) (hw : ∀ d ∈ tables_1, d.before a0 Z = true) (b : Addr) (N : Nat) (f : Nat → Value) (h0 : Heap) (Jb : Jar Z h0 b .byte N f) :
    Con l Z (⟨"java/lang/StringUTF16", "length", "([B)I"⟩ : MethodName) jdk_52_method_6_code 1 (some .int) ({ frames := 0, cells := 0, slots := 0, locals := 0 } : Room) #[(.ref b)] h0 (PQ (some (.int (N.toInt32 >>> ((1 : Int32) &&& 31)))) h0) := by
  refine Con.intro (plainFor_of_name pn_4) ?_
  intro p e s m below meth c s₁ hx hby hml hrt hlk hZ hown hnm X0 e0
  replace hown : s.vm.findClass "java/lang/StringUTF16" = some m.cls := hown
  refine GoOn.cast (ef_c_ul m b) ?_
  show GoOn p e below _ (s₁.setTop (mkF m 0 #[.val (.ref b)] []))
  refine GoOn.step (fun t₀ k₀ => XS.aloadN X0.here hx rfl (hb hby d23_0) rfl rfl k₀) ?_
  show GoOn p e below _ (s₁.setTop (mkF m 1 #[.val (.ref b)] [(.ref b)]))
  refine GoOn.step (fun t₀ k₀ => kLen X0 hx hZ e0 Jb (z := N.toInt32) rfl (g := (mkF m 1 #[.val (.ref b)] [(.ref b)])) rfl rfl (hb hby d23_1) t₀ k₀) ?_
  show GoOn p e below _ (s₁.setTop (mkF m 2 #[.val (.ref b)] [(.int N.toInt32)]))
  refine GoOn.step (fun t₀ k₀ => XS.iconst X0.here hx rfl (hb hby d23_2) k₀) ?_
  show GoOn p e below _ (s₁.setTop (mkF m 3 #[.val (.ref b)] [(.int (1 : Int32)), (.int N.toInt32)]))
  refine GoOn.step (fun t₀ k₀ => XS.ishr X0.here hx rfl (hb hby d23_3) rfl k₀) ?_
  show GoOn p e below _ (s₁.setTop (mkF m 4 #[.val (.ref b)] [(.int (N.toInt32 >>> ((1 : Int32) &&& 31)))]))
  exact GoOn.retI X0 hx hrt hlk (hb hby d23_4) (by decide) (by decide) (by first | exact ⟨rfl, rfl, rfl⟩ | (rw [e0]; exact ⟨rfl, rfl, rfl⟩))
theorem half_lt {i : Int32} {N : Nat} (hN : N ≤ 6) (hi : 0 ≤ i.toInt ∧ 2 * i.toInt + 1 < N) : i < (N.toInt32 >>> ((1 : Int32) &&& 31)) := by
  have a := c_ishr N.toInt32 1 1 (by decide); rw [show (2 ^ 1 : Nat) = 2 from by decide, toI hN] at a
  rw [Int32.lt_iff_toInt_lt]; omega
theorem ef_c_uc (m : MethodId) (x0 : Int32) (x1 : Addr) : entryFrame m #[(.int x0), (.ref x1)] 2 = mkF m 0 #[.val (.int x0), .val (.ref x1)] [] := by first | (simp [entryFrame, mkF, argsToLocals, Value.category]; done) | rfl
set_option maxRecDepth 65536 in
set_option maxHeartbeats 40000000 in
theorem c_uc (l : Launch) (Z : State) (a0 : Array Value) (hw : ∀ d ∈ tables_1, d.before a0 Z = true) (b : Addr) (i : Int32) (N : Nat) (f : Nat → Value) (cs : Int32) (fv : Value) (h0 : Heap) (n0 : Nat) (O : Old Z n0 h0) (SS : Stt Z cs fv) (Jb : Jar Z h0 b .byte N f) (hN : N ≤ 6) (hi : 0 ≤ i.toInt ∧ 2 * i.toInt + 1 < N) :
    Con l Z (⟨"java/lang/StringUTF16", "checkIndex", "(I[B)V"⟩ : MethodName) jdk_52_method_91_code 2 none ({ frames := 2, cells := 0, slots := 0, locals := 32 } : Room) #[(.int i), (.ref b)] h0 (PQ none h0) := by
  refine Con.intro (plainFor_of_name pn_4) ?_
  intro p e s m below meth c s₁ hx hby hml hrt hlk hZ hown hnm X0 e0
  replace hown : s.vm.findClass "java/lang/StringUTF16" = some m.cls := hown
  refine GoOn.cast (ef_c_uc m i b) ?_
  show GoOn p e below _ (s₁.setTop (mkF m 0 #[.val (.int i), .val (.ref b)] []))
  refine GoOn.step (fun t₀ k₀ => XS.iloadN X0.here hx rfl (hb hby d22_0) rfl k₀) ?_
  show GoOn p e below _ (s₁.setTop (mkF m 1 #[.val (.int i), .val (.ref b)] [(.int i)]))
  refine GoOn.step (fun t₀ k₀ => XS.aloadN X0.here hx rfl (hb hby d22_1) rfl rfl k₀) ?_
  show GoOn p e below _ (s₁.setTop (mkF m 2 #[.val (.int i), .val (.ref b)] [(.ref b), (.int i)]))
  obtain ⟨_, T14, L14, X14, hQ14, st14⟩ := kCallS X0 hx hZ (argsL := [(.ref b)]) (rest := [(.int i)]) (c_ul l Z a0 hw b N f h0 Jb) hown (hw _ (List.mem_of_getElem? (i := 99) rfl)) (hw _ (List.mem_of_getElem? (i := 100) rfl)) (hw _ (List.mem_of_getElem? (i := 44) rfl)) (hw _ (List.mem_of_getElem? (i := 101) rfl)) (by decide) e0 (g := (mkF m 2 #[.val (.int i), .val (.ref b)] [(.ref b), (.int i)])) rfl (by rw [hml]; rfl) (lenOf pd_3 rfl) rfl (W := 1) (by show 2 * 0 + _ ≤ _; exact Nat.le_of_eq rfl) (hb hby d22_2) (by decide) (by decide) (by decide) (by decide)
  obtain ⟨rfl, rfl, e14⟩ := hQ14
  rw [List.append_nil] at X14
  refine GoOn.step st14 ?_
  show GoOn p e below _ (T14.setTop (mkF m 5 #[.val (.int i), .val (.ref b)] [(.int (N.toInt32 >>> ((1 : Int32) &&& 31))), (.int i)]))
  obtain ⟨_, T15, L15, X15, hQ15, st15⟩ := kCallS X14 hx hZ (argsL := [(.int i), (.int (N.toInt32 >>> ((1 : Int32) &&& 31)))]) (rest := []) (c_ci l Z a0 hw i (N.toInt32 >>> ((1 : Int32) &&& 31)) cs fv h0 n0 O SS hi.1 (half_lt hN hi)) hown (hw _ (List.mem_of_getElem? (i := 102) rfl)) (hw _ (List.mem_of_getElem? (i := 67) rfl)) (hw _ (List.mem_of_getElem? (i := 4) rfl)) (hw _ (List.mem_of_getElem? (i := 68) rfl)) (by decide) e14 (g := (mkF m 5 #[.val (.int i), .val (.ref b)] [(.int (N.toInt32 >>> ((1 : Int32) &&& 31))), (.int i)])) rfl (by rw [hml]; rfl) (lenOf pd_2 rfl) rfl (W := 0) (by show 2 * 0 + _ ≤ _; exact Nat.le_of_eq rfl) (hb hby d22_5) (by decide) (by decide) (by decide) (by decide)
  obtain ⟨rfl, rfl, e15⟩ := hQ15
  rw [List.append_nil] at X15
  refine GoOn.step st15 ?_
  show GoOn p e below _ (T15.setTop (mkF m 8 #[.val (.int i), .val (.ref b)] []))
  exact GoOn.ret0 X15 hx hrt hlk (hb hby d22_8) (by decide) (by decide) (by first | exact ⟨rfl, rfl, rfl⟩ | (rw [e15]; exact ⟨rfl, rfl, rfl⟩))
theorem ef_c_gc (m : MethodId) (x0 : Addr) (x1 : Int32) : entryFrame m #[(.ref x0), (.int x1)] 2 = mkF m 0 #[.val (.ref x0), .val (.int x1)] [] := by first | (simp [entryFrame, mkF, argsToLocals, Value.category]; done) | rfl
set_option maxRecDepth 65536 in
set_option maxHeartbeats 40000000 in
theorem c_gc (l : Launch) (Z : State) (a0 : Array Value) (hw : ∀ d ∈ tables_1, d.before a0 Z = true) (b : Addr) (i v : Int32) (N : Nat) (f : Nat → Value) (cs : Int32) (fv : Value) (h0 : Heap) (n0 : Nat) (O : Old Z n0 h0) (SS : Stt Z cs fv) (Jb : Jar Z h0 b .byte N f) (hN : N ≤ 6) (hi : 0 ≤ i.toInt ∧ 2 * i.toInt + 1 < N) (hf1 : f (2 * i.toNatClampNeg) = .int (loB v)) (hf2 : f (2 * i.toNatClampNeg + 1) = .int (hiB v)) (hv : 0 ≤ v.toInt ∧ v.toInt < 65536) :
    Con l Z (⟨"java/lang/StringUTF16", "getChar", "([BI)C"⟩ : MethodName) jdk_52_method_5_code 2 (some .char) ({ frames := 0, cells := 0, slots := 0, locals := 0 } : Room) #[(.ref b), (.int i)] h0 (PQ (some (.int v)) h0) := by
  refine Con.intro (plainFor_of_name pn_4) ?_
  intro p e s m below meth c s₁ hx hby hml hrt hlk hZ hown hnm X0 e0
  replace hown : s.vm.findClass "java/lang/StringUTF16" = some m.cls := hown
  refine GoOn.cast (ef_c_gc m b i) ?_
  show GoOn p e below _ (s₁.setTop (mkF m 0 #[.val (.ref b), .val (.int i)] []))
  obtain ⟨hcs, hfv, S1, S2, S3, S4, S5⟩ := id SS
  replace S1 := S1.ext O.2
  replace S2 := S2.ext O.2
  replace S3 := S3.ext O.2
  replace S4 := S4.ext O.2
  replace S5 := S5.ext O.2
  have hi2 : 0 ≤ i.toInt ∧ i.toInt ≤ 2 := by omega
  obtain ⟨T16, X16, e16, st16⟩ := getS2 X0 hx hZ hown (host := "") (Or.inl (hw _ (List.mem_of_getElem? (i := 87) rfl))) Via.refl e0 S3 (g := (mkF m 0 #[.val (.ref b), .val (.int i)] [])) rfl (hb hby d20_0)
  refine GoOn.step st16 ?_
  show GoOn p e below _ (T16.setTop (mkF m 3 #[.val (.ref b), .val (.int i)] [(.int (1 : Int32))]))
  have hf17 : ¬ ((1 : Int32) = (0 : Int32)) := (by decide)
  refine GoOn.step (fun t₀ k₀ => XS.ifYes X16.here hx rfl (pc0 := 3) (pc' := 28) rfl (hb hby d20_3) rfl ((if0 _ _).trans (feq hf17).2) (by decide) (by decide) k₀) ?_
  show GoOn p e below _ (T16.setTop (mkF m 28 #[.val (.ref b), .val (.int i)] []))
  refine GoOn.step (fun t₀ k₀ => XS.iloadN X16.here hx rfl (hb hby d20_28) rfl k₀) ?_
  show GoOn p e below _ (T16.setTop (mkF m 29 #[.val (.ref b), .val (.int i)] [(.int i)]))
  refine GoOn.step (fun t₀ k₀ => XS.iconst X16.here hx rfl (hb hby d20_29) k₀) ?_
  show GoOn p e below _ (T16.setTop (mkF m 30 #[.val (.ref b), .val (.int i)] [(.int (1 : Int32)), (.int i)]))
  refine GoOn.step (fun t₀ k₀ => XS.ishl X16.here hx rfl (hb hby d20_30) rfl k₀) ?_
  show GoOn p e below _ (T16.setTop (mkF m 31 #[.val (.ref b), .val (.int i)] [(.int (i <<< ((1 : Int32) &&& 31)))]))
  refine GoOn.step (fun t₀ k₀ => XS.istoreN X16.here hx rfl (hb hby d20_31) rfl (l' := #[.val (.ref b), .val (.int (i <<< ((1 : Int32) &&& 31)))]) rfl k₀) ?_
  show GoOn p e below _ (T16.setTop (mkF m 32 #[.val (.ref b), .val (.int (i <<< ((1 : Int32) &&& 31)))] []))
  refine GoOn.step (fun t₀ k₀ => XS.aloadN X16.here hx rfl (hb hby d20_32) rfl rfl k₀) ?_
  show GoOn p e below _ (T16.setTop (mkF m 33 #[.val (.ref b), .val (.int (i <<< ((1 : Int32) &&& 31)))] [(.ref b)]))
  refine GoOn.step (fun t₀ k₀ => XS.iloadN X16.here hx rfl (hb hby d20_33) rfl k₀) ?_
  show GoOn p e below _ (T16.setTop (mkF m 34 #[.val (.ref b), .val (.int (i <<< ((1 : Int32) &&& 31)))] [(.int (i <<< ((1 : Int32) &&& 31))), (.ref b)]))
  refine GoOn.step (fun t₀ k₀ => XS.iinc X16.here hx rfl (hb hby d20_34) rfl (l' := #[.val (.ref b), .val (.int ((i <<< ((1 : Int32) &&& 31)) + (1 : Int32)))]) rfl k₀) ?_
  show GoOn p e below _ (T16.setTop (mkF m 37 #[.val (.ref b), .val (.int ((i <<< ((1 : Int32) &&& 31)) + (1 : Int32)))] [(.int (i <<< ((1 : Int32) &&& 31))), (.ref b)]))
  refine GoOn.step (fun t₀ k₀ => kLdB X16 hx hZ e16 Jb (j := (i <<< ((1 : Int32) &&& 31))) (v := (.int (loB v))) ⟨by have := (shl1 hi2).1; omega, by have := (shl1 hi2).1; omega⟩ (by rw [(shlN hi2).1]; exact hf1) (g := (mkF m 37 #[.val (.ref b), .val (.int ((i <<< ((1 : Int32) &&& 31)) + (1 : Int32)))] [(.int (i <<< ((1 : Int32) &&& 31))), (.ref b)])) rfl rfl (hb hby d20_37) t₀ k₀) ?_
  show GoOn p e below _ (T16.setTop (mkF m 38 #[.val (.ref b), .val (.int ((i <<< ((1 : Int32) &&& 31)) + (1 : Int32)))] [(.int (loB v))]))
  refine GoOn.step (fun t₀ k₀ => XS.sipush X16.here hx rfl (hb hby d20_38) k₀) ?_
  show GoOn p e below _ (T16.setTop (mkF m 41 #[.val (.ref b), .val (.int ((i <<< ((1 : Int32) &&& 31)) + (1 : Int32)))] [(.int (255 : Int32)), (.int (loB v))]))
  refine GoOn.step (fun t₀ k₀ => XS.iand X16.here hx rfl (hb hby d20_41) rfl k₀) ?_
  show GoOn p e below _ (T16.setTop (mkF m 42 #[.val (.ref b), .val (.int ((i <<< ((1 : Int32) &&& 31)) + (1 : Int32)))] [(.int ((loB v) &&& (255 : Int32)))]))
  obtain ⟨T18, X18, e18, st18⟩ := getS2 X16 hx hZ hown (host := "") (Or.inl (hw _ (List.mem_of_getElem? (i := 88) rfl))) Via.refl e16 S4 (g := (mkF m 42 #[.val (.ref b), .val (.int ((i <<< ((1 : Int32) &&& 31)) + (1 : Int32)))] [(.int ((loB v) &&& (255 : Int32)))])) rfl (hb hby d20_42)
  refine GoOn.step st18 ?_
  show GoOn p e below _ (T18.setTop (mkF m 45 #[.val (.ref b), .val (.int ((i <<< ((1 : Int32) &&& 31)) + (1 : Int32)))] [(.int (0 : Int32)), (.int ((loB v) &&& (255 : Int32)))]))
  refine GoOn.step (fun t₀ k₀ => XS.ishl X18.here hx rfl (hb hby d20_45) rfl k₀) ?_
  show GoOn p e below _ (T18.setTop (mkF m 46 #[.val (.ref b), .val (.int ((i <<< ((1 : Int32) &&& 31)) + (1 : Int32)))] [(.int (((loB v) &&& (255 : Int32)) <<< ((0 : Int32) &&& 31)))]))
  refine GoOn.step (fun t₀ k₀ => XS.aloadN X18.here hx rfl (hb hby d20_46) rfl rfl k₀) ?_
  show GoOn p e below _ (T18.setTop (mkF m 47 #[.val (.ref b), .val (.int ((i <<< ((1 : Int32) &&& 31)) + (1 : Int32)))] [(.ref b), (.int (((loB v) &&& (255 : Int32)) <<< ((0 : Int32) &&& 31)))]))
  refine GoOn.step (fun t₀ k₀ => XS.iloadN X18.here hx rfl (hb hby d20_47) rfl k₀) ?_
  show GoOn p e below _ (T18.setTop (mkF m 48 #[.val (.ref b), .val (.int ((i <<< ((1 : Int32) &&& 31)) + (1 : Int32)))] [(.int ((i <<< ((1 : Int32) &&& 31)) + (1 : Int32))), (.ref b), (.int (((loB v) &&& (255 : Int32)) <<< ((0 : Int32) &&& 31)))]))
  refine GoOn.step (fun t₀ k₀ => kLdB X18 hx hZ e18 Jb (j := ((i <<< ((1 : Int32) &&& 31)) + (1 : Int32))) (v := (.int (hiB v))) ⟨by have := (shl1 hi2).2; omega, by have := (shl1 hi2).2; omega⟩ (by rw [(shlN hi2).2]; exact hf2) (g := (mkF m 48 #[.val (.ref b), .val (.int ((i <<< ((1 : Int32) &&& 31)) + (1 : Int32)))] [(.int ((i <<< ((1 : Int32) &&& 31)) + (1 : Int32))), (.ref b), (.int (((loB v) &&& (255 : Int32)) <<< ((0 : Int32) &&& 31)))])) rfl rfl (hb hby d20_48) t₀ k₀) ?_
  show GoOn p e below _ (T18.setTop (mkF m 49 #[.val (.ref b), .val (.int ((i <<< ((1 : Int32) &&& 31)) + (1 : Int32)))] [(.int (hiB v)), (.int (((loB v) &&& (255 : Int32)) <<< ((0 : Int32) &&& 31)))]))
  refine GoOn.step (fun t₀ k₀ => XS.sipush X18.here hx rfl (hb hby d20_49) k₀) ?_
  show GoOn p e below _ (T18.setTop (mkF m 52 #[.val (.ref b), .val (.int ((i <<< ((1 : Int32) &&& 31)) + (1 : Int32)))] [(.int (255 : Int32)), (.int (hiB v)), (.int (((loB v) &&& (255 : Int32)) <<< ((0 : Int32) &&& 31)))]))
  refine GoOn.step (fun t₀ k₀ => XS.iand X18.here hx rfl (hb hby d20_52) rfl k₀) ?_
  show GoOn p e below _ (T18.setTop (mkF m 53 #[.val (.ref b), .val (.int ((i <<< ((1 : Int32) &&& 31)) + (1 : Int32)))] [(.int ((hiB v) &&& (255 : Int32))), (.int (((loB v) &&& (255 : Int32)) <<< ((0 : Int32) &&& 31)))]))
  obtain ⟨T19, X19, e19, st19⟩ := getS2 X18 hx hZ hown (host := "") (Or.inl (hw _ (List.mem_of_getElem? (i := 89) rfl))) Via.refl e18 S5 (g := (mkF m 53 #[.val (.ref b), .val (.int ((i <<< ((1 : Int32) &&& 31)) + (1 : Int32)))] [(.int ((hiB v) &&& (255 : Int32))), (.int (((loB v) &&& (255 : Int32)) <<< ((0 : Int32) &&& 31)))])) rfl (hb hby d20_53)
  refine GoOn.step st19 ?_
  show GoOn p e below _ (T19.setTop (mkF m 56 #[.val (.ref b), .val (.int ((i <<< ((1 : Int32) &&& 31)) + (1 : Int32)))] [(.int (8 : Int32)), (.int ((hiB v) &&& (255 : Int32))), (.int (((loB v) &&& (255 : Int32)) <<< ((0 : Int32) &&& 31)))]))
  refine GoOn.step (fun t₀ k₀ => XS.ishl X19.here hx rfl (hb hby d20_56) rfl k₀) ?_
  show GoOn p e below _ (T19.setTop (mkF m 57 #[.val (.ref b), .val (.int ((i <<< ((1 : Int32) &&& 31)) + (1 : Int32)))] [(.int (((hiB v) &&& (255 : Int32)) <<< ((8 : Int32) &&& 31))), (.int (((loB v) &&& (255 : Int32)) <<< ((0 : Int32) &&& 31)))]))
  refine GoOn.step (fun t₀ k₀ => XS.ior X19.here hx rfl (hb hby d20_57) rfl k₀) ?_
  show GoOn p e below _ (T19.setTop (mkF m 58 #[.val (.ref b), .val (.int ((i <<< ((1 : Int32) &&& 31)) + (1 : Int32)))] [(.int ((((loB v) &&& (255 : Int32)) <<< ((0 : Int32) &&& 31)) ||| (((hiB v) &&& (255 : Int32)) <<< ((8 : Int32) &&& 31))))]))
  refine GoOn.step (fun t₀ k₀ => XS.i2c X19.here hx rfl (hb hby d20_58) rfl k₀) ?_
  show GoOn p e below _ (T19.setTop (mkF m 59 #[.val (.ref b), .val (.int ((i <<< ((1 : Int32) &&& 31)) + (1 : Int32)))] [(.int (((((loB v) &&& (255 : Int32)) <<< ((0 : Int32) &&& 31)) ||| (((hiB v) &&& (255 : Int32)) <<< ((8 : Int32) &&& 31))).toUInt32.toUInt16.toUInt32.toInt32))]))
  rw [show (((((loB v) &&& (255 : Int32)) <<< ((0 : Int32) &&& 31)) ||| (((hiB v) &&& (255 : Int32)) <<< ((8 : Int32) &&& 31))).toUInt32.toUInt16.toUInt32.toInt32) = v from utf_ch hv]
  exact GoOn.retN X19 hx hrt hlk (by simp) (hb hby d20_59) (by decide) (by decide) (by first | exact ⟨by rw [narC hv], rfl, rfl⟩ | (rw [e19]; exact ⟨by rw [narC hv], rfl, rfl⟩))
theorem ef_c_ua (m : MethodId) (x0 : Addr) (x1 : Int32) : entryFrame m #[(.ref x0), (.int x1)] 2 = mkF m 0 #[.val (.ref x0), .val (.int x1)] [] := by first | (simp [entryFrame, mkF, argsToLocals, Value.category]; done) | rfl
set_option maxRecDepth 65536 in
set_option maxHeartbeats 40000000 in
theorem c_ua (l : Launch) (Z : State) (a0 : Array Value) (hw : ∀ d ∈ tables_1, d.before a0 Z = true) (b : Addr) (i v : Int32) (N : Nat) (f : Nat → Value) (cs : Int32) (fv : Value) (h0 : Heap) (n0 : Nat) (O : Old Z n0 h0) (SS : Stt Z cs fv) (Jb : Jar Z h0 b .byte N f) (hN : N ≤ 6) (hi : 0 ≤ i.toInt ∧ 2 * i.toInt + 1 < N) (hf1 : f (2 * i.toNatClampNeg) = .int (loB v)) (hf2 : f (2 * i.toNatClampNeg + 1) = .int (hiB v)) (hv : 0 ≤ v.toInt ∧ v.toInt < 65536) :
    Con l Z (⟨"java/lang/StringUTF16", "charAt", "([BI)C"⟩ : MethodName) jdk_52_method_83_code 2 (some .char) ({ frames := 3, cells := 0, slots := 0, locals := 48 } : Room) #[(.ref b), (.int i)] h0 (PQ (some (.int v)) h0) := by
  refine Con.intro (plainFor_of_name pn_4) ?_
  intro p e s m below meth c s₁ hx hby hml hrt hlk hZ hown hnm X0 e0
  replace hown : s.vm.findClass "java/lang/StringUTF16" = some m.cls := hown
  refine GoOn.cast (ef_c_ua m b i) ?_
  show GoOn p e below _ (s₁.setTop (mkF m 0 #[.val (.ref b), .val (.int i)] []))
  refine GoOn.step (fun t₀ k₀ => XS.iloadN X0.here hx rfl (hb hby d21_0) rfl k₀) ?_
  show GoOn p e below _ (s₁.setTop (mkF m 1 #[.val (.ref b), .val (.int i)] [(.int i)]))
  refine GoOn.step (fun t₀ k₀ => XS.aloadN X0.here hx rfl (hb hby d21_1) rfl rfl k₀) ?_
  show GoOn p e below _ (s₁.setTop (mkF m 2 #[.val (.ref b), .val (.int i)] [(.ref b), (.int i)]))
  obtain ⟨_, T20, L20, X20, hQ20, st20⟩ := kCallS X0 hx hZ (argsL := [(.int i), (.ref b)]) (rest := []) (c_uc l Z a0 hw b i N f cs fv h0 n0 O SS Jb hN hi) hown (hw _ (List.mem_of_getElem? (i := 96) rfl)) (hw _ (List.mem_of_getElem? (i := 97) rfl)) (hw _ (List.mem_of_getElem? (i := 44) rfl)) (hw _ (List.mem_of_getElem? (i := 98) rfl)) (by decide) e0 (g := (mkF m 2 #[.val (.ref b), .val (.int i)] [(.ref b), (.int i)])) rfl (by rw [hml]; rfl) (lenOf pd_4 rfl) rfl (W := 0) (by show 2 * 0 + _ ≤ _; exact Nat.le_of_eq rfl) (hb hby d21_2) (by decide) (by decide) (by decide) (by decide)
  obtain ⟨rfl, rfl, e20⟩ := hQ20
  rw [List.append_nil] at X20
  refine GoOn.step st20 ?_
  show GoOn p e below _ (T20.setTop (mkF m 5 #[.val (.ref b), .val (.int i)] []))
  refine GoOn.step (fun t₀ k₀ => XS.aloadN X20.here hx rfl (hb hby d21_5) rfl rfl k₀) ?_
  show GoOn p e below _ (T20.setTop (mkF m 6 #[.val (.ref b), .val (.int i)] [(.ref b)]))
  refine GoOn.step (fun t₀ k₀ => XS.iloadN X20.here hx rfl (hb hby d21_6) rfl k₀) ?_
  show GoOn p e below _ (T20.setTop (mkF m 7 #[.val (.ref b), .val (.int i)] [(.int i), (.ref b)]))
  obtain ⟨_, T21, L21, X21, hQ21, st21⟩ := kCallS X20 hx hZ (argsL := [(.ref b), (.int i)]) (rest := []) (c_gc l Z a0 hw b i v N f cs fv h0 n0 O SS Jb hN hi hf1 hf2 hv) hown (hw _ (List.mem_of_getElem? (i := 90) rfl)) (hw _ (List.mem_of_getElem? (i := 91) rfl)) (hw _ (List.mem_of_getElem? (i := 44) rfl)) (hw _ (List.mem_of_getElem? (i := 92) rfl)) (by decide) e20 (g := (mkF m 7 #[.val (.ref b), .val (.int i)] [(.int i), (.ref b)])) rfl (by rw [hml]; rfl) (lenOf pd_5 rfl) rfl (W := 0) (by show 2 * 0 + _ ≤ _; exact Nat.le_of_eq rfl) (hb hby d21_7) (by decide) (by decide) (by decide) (by decide)
  obtain ⟨rfl, rfl, e21⟩ := hQ21
  rw [List.append_nil] at X21
  refine GoOn.step st21 ?_
  show GoOn p e below _ (T21.setTop (mkF m 10 #[.val (.ref b), .val (.int i)] [(.int v)]))
  exact GoOn.retN X21 hx hrt hlk (by simp) (hb hby d21_10) (by decide) (by decide) (by first | exact ⟨by rw [narC hv], rfl, rfl⟩ | (rw [e21]; exact ⟨by rw [narC hv], rfl, rfl⟩))
theorem ef_c_at (m : MethodId) (x0 : Addr) (x1 : Int32) : entryFrame m #[(.ref x0), (.int x1)] 2 = mkF m 0 #[.val (.ref x0), .val (.int x1)] [] := by first | (simp [entryFrame, mkF, argsToLocals, Value.category]; done) | rfl
set_option maxRecDepth 65536 in
set_option maxHeartbeats 40000000 in
theorem c_at (l : Launch) (Z : State) (a0 : Array Value) (hw : ∀ d ∈ tables_1, d.before a0 Z = true) (a : Addr) (n : Nat) (g : Nat → Int32) (cs : Int32) (fv : Value) (i : Int32) (h0 : Heap) (n0 : Nat) (O : Old Z n0 h0) (SS : Stt Z cs fv) (SO : Str Z h0 a n g) (hn : n ≤ 3) (Cg : Chr g) (hi : 0 ≤ i.toInt ∧ i.toInt < n) :
    Con l Z (⟨"java/lang/String", "charAt", "(I)C"⟩ : MethodName) jdk_42_method_56_code 2 (some .char) ({ frames := 4, cells := 0, slots := 0, locals := 64 } : Room) #[(.ref a), (.int i)] h0 (PQ (some (.int (g i.toNatClampNeg))) h0) := by
  refine Con.intro (plainFor_of_name pn_1) ?_
  intro p e s m below meth c s₁ hx hby hml hrt hlk hZ hown hnm X0 e0
  replace hown : s.vm.findClass "java/lang/String" = some m.cls := hown
  refine GoOn.cast (ef_c_at m a i) ?_
  show GoOn p e below _ (s₁.setTop (mkF m 0 #[.val (.ref a), .val (.int i)] []))
  obtain ⟨Ex, b, cd, N, f, Fv, Fc, Jb, hb2⟩ := SO
  have hv := Cg i.toNatClampNeg
  have hin := clN hi.1
  refine GoOn.step (fun t₀ k₀ => XS.aloadN X0.here hx rfl (hb hby d11_0) rfl rfl k₀) ?_
  show GoOn p e below _ (s₁.setTop (mkF m 1 #[.val (.ref a), .val (.int i)] [(.ref a)]))
  obtain ⟨_, T22, L22, X22, hQ22, st22⟩ := kCallV X0 hx hZ (a := a) (argsL := []) (rest := []) (c_isl l Z a0 hw a cd cs fv h0 n0 O SS Fc) hown (hw _ (List.mem_of_getElem? (i := 57) rfl)) (hw _ (List.mem_of_getElem? (i := 58) rfl)) (notFace_of_selects (args := #[]) (mvT hZ (hw _ (List.mem_of_getElem? (i := 60) rfl)))) (hw _ (List.mem_of_getElem? (i := 60) rfl)) (hw _ (List.mem_of_getElem? (i := 59) rfl)) (hw _ (List.mem_of_getElem? (i := 4) rfl)) (hw _ (List.mem_of_getElem? (i := 61) rfl)) (by decide) e0 Ex (g := (mkF m 1 #[.val (.ref a), .val (.int i)] [(.ref a)])) rfl (by rw [hml]; rfl) (lenOf pd_6 rfl) rfl (W := 0) (by show 2 * 0 + _ ≤ _; exact Nat.le_of_eq rfl) (hb hby d11_1) (by decide) (by decide) (by decide) (by decide)
  obtain ⟨rfl, rfl, e22⟩ := hQ22
  rw [List.append_nil] at X22
  refine GoOn.step st22 ?_
  show GoOn p e below _ (T22.setTop (mkF m 4 #[.val (.ref a), .val (.int i)] [(.int (if cd = 0 then (1 : Int32) else 0))]))
  rcases hb2 with ⟨rfl, rfl, hl⟩ | ⟨rfl, rfl, hl⟩
  · have hf23 : ¬ ((if (0 : Int32) = 0 then (1 : Int32) else 0) = (0 : Int32)) := (by decide)
    refine GoOn.step (fun t₀ k₀ => XS.ifNo X22.here hx rfl (hb hby d11_4) rfl ((if0 _ _).trans (feq hf23).1) k₀) ?_
    show GoOn p e below _ (T22.setTop (mkF m 7 #[.val (.ref a), .val (.int i)] []))
    refine GoOn.step (fun t₀ k₀ => XS.aloadN X22.here hx rfl (hb hby d11_7) rfl rfl k₀) ?_
    show GoOn p e below _ (T22.setTop (mkF m 8 #[.val (.ref a), .val (.int i)] [(.ref a)]))
    obtain ⟨T24, X24, e24, st24⟩ := getF X22 hx hZ hown (host := "") (Or.inl (hw _ (List.mem_of_getElem? (i := 21) rfl))) Via.refl e22 Fv (g := (mkF m 8 #[.val (.ref a), .val (.int i)] [(.ref a)])) rfl rfl (hb hby d11_8)
    refine GoOn.step st24 ?_
    show GoOn p e below _ (T24.setTop (mkF m 11 #[.val (.ref a), .val (.int i)] [(.ref b)]))
    refine GoOn.step (fun t₀ k₀ => XS.iloadN X24.here hx rfl (hb hby d11_11) rfl k₀) ?_
    show GoOn p e below _ (T24.setTop (mkF m 12 #[.val (.ref a), .val (.int i)] [(.int i), (.ref b)]))
    obtain ⟨_, T25, L25, X25, hQ25, st25⟩ := kCallS X24 hx hZ (argsL := [(.ref b), (.int i)]) (rest := []) (c_l1 l Z a0 hw b i (g i.toNatClampNeg) N f cs fv h0 n0 O SS Jb (by omega) hi (hl _ (by omega)).1 ⟨hv.1, (hl _ (by omega)).2⟩) hown (hw _ (List.mem_of_getElem? (i := 62) rfl)) (hw _ (List.mem_of_getElem? (i := 63) rfl)) (hw _ (List.mem_of_getElem? (i := 64) rfl)) (hw _ (List.mem_of_getElem? (i := 65) rfl)) (by decide) e24 (g := (mkF m 12 #[.val (.ref a), .val (.int i)] [(.int i), (.ref b)])) rfl (by rw [hml]; rfl) (lenOf pd_5 rfl) rfl (W := 0) (by show 2 * 0 + _ ≤ _; exact Nat.le_of_eq rfl) (hb hby d11_12) (by decide) (by decide) (by decide) (by decide)
    obtain ⟨rfl, rfl, e25⟩ := hQ25
    rw [List.append_nil] at X25
    refine GoOn.step st25 ?_
    show GoOn p e below _ (T25.setTop (mkF m 15 #[.val (.ref a), .val (.int i)] [(.int (g i.toNatClampNeg))]))
    exact GoOn.retN X25 hx hrt hlk (by simp) (hb hby d11_15) (by decide) (by decide) (by first | exact ⟨by rw [narC hv], rfl, rfl⟩ | (rw [e25]; exact ⟨by rw [narC hv], rfl, rfl⟩))
  · have hf26 : (if (1 : Int32) = 0 then (1 : Int32) else 0) = (0 : Int32) := (by decide)
    refine GoOn.step (fun t₀ k₀ => XS.ifYes X22.here hx rfl (pc0 := 4) (pc' := 16) rfl (hb hby d11_4) rfl ((if0 _ _).trans (teq hf26).1) (by decide) (by decide) k₀) ?_
    show GoOn p e below _ (T22.setTop (mkF m 16 #[.val (.ref a), .val (.int i)] []))
    refine GoOn.step (fun t₀ k₀ => XS.aloadN X22.here hx rfl (hb hby d11_16) rfl rfl k₀) ?_
    show GoOn p e below _ (T22.setTop (mkF m 17 #[.val (.ref a), .val (.int i)] [(.ref a)]))
    obtain ⟨T27, X27, e27, st27⟩ := getF X22 hx hZ hown (host := "") (Or.inl (hw _ (List.mem_of_getElem? (i := 21) rfl))) Via.refl e22 Fv (g := (mkF m 17 #[.val (.ref a), .val (.int i)] [(.ref a)])) rfl rfl (hb hby d11_17)
    refine GoOn.step st27 ?_
    show GoOn p e below _ (T27.setTop (mkF m 20 #[.val (.ref a), .val (.int i)] [(.ref b)]))
    refine GoOn.step (fun t₀ k₀ => XS.iloadN X27.here hx rfl (hb hby d11_20) rfl k₀) ?_
    show GoOn p e below _ (T27.setTop (mkF m 21 #[.val (.ref a), .val (.int i)] [(.int i), (.ref b)]))
    obtain ⟨_, T28, L28, X28, hQ28, st28⟩ := kCallS X27 hx hZ (argsL := [(.ref b), (.int i)]) (rest := []) (c_ua l Z a0 hw b i (g i.toNatClampNeg) (2 * n) f cs fv h0 n0 O SS Jb (by omega) ⟨hi.1, by omega⟩ (hl _ (by omega)).1 (hl _ (by omega)).2 hv) hown (hw _ (List.mem_of_getElem? (i := 93) rfl)) (hw _ (List.mem_of_getElem? (i := 94) rfl)) (hw _ (List.mem_of_getElem? (i := 44) rfl)) (hw _ (List.mem_of_getElem? (i := 95) rfl)) (by decide) e27 (g := (mkF m 21 #[.val (.ref a), .val (.int i)] [(.int i), (.ref b)])) rfl (by rw [hml]; rfl) (lenOf pd_5 rfl) rfl (W := 0) (by show 2 * 0 + _ ≤ _; exact Nat.le_of_eq rfl) (hb hby d11_21) (by decide) (by decide) (by decide) (by decide)
    obtain ⟨rfl, rfl, e28⟩ := hQ28
    rw [List.append_nil] at X28
    refine GoOn.step st28 ?_
    show GoOn p e below _ (T28.setTop (mkF m 24 #[.val (.ref a), .val (.int i)] [(.int (g i.toNatClampNeg))]))
    exact GoOn.retN X28 hx hrt hlk (by simp) (hb hby d11_24) (by decide) (by decide) (by first | exact ⟨by rw [narC hv], rfl, rfl⟩ | (rw [e28]; exact ⟨by rw [narC hv], rfl, rfl⟩))
def pchF (f : Nat → Value) (k : Nat) (v : Int32) : Nat → Value := fun j => if j = 2 * k + 1 then .int (hiB v) else if j = 2 * k then .int (loB v) else f j
theorem K3 {i : Nat} {P : Nat → Prop} (h0 : P 0) (h1 : P 1) (h2 : P 2) (hi : i < 3) : P i := by
  match i, hi with
  | 0, _ => exact h0
  | 1, _ => exact h1
  | 2, _ => exact h2
theorem K2 {i : Nat} {P : Nat → Prop} (h0 : P 0) (h1 : P 1) (hi : i < 2) : P i := by
  match i, hi with
  | 0, _ => exact h0
  | 1, _ => exact h1
theorem K1 {i : Nat} {P : Nat → Prop} (h0 : P 0) (hi : i < 1) : P i := by
  match i, hi with
  | 0, _ => exact h0
theorem u16_1 {g : Nat → Int32} {f : Nat → Value} (h0 : f 0 = .int (loB (g 0)) ∧ f 1 = .int (hiB (g 0))) : U16 1 g f := fun i hi => K1 (P := fun i => f (2 * i) = .int (loB (g i)) ∧ f (2 * i + 1) = .int (hiB (g i))) h0 hi
theorem u16_2 {g : Nat → Int32} {f : Nat → Value} (h0 : f 0 = .int (loB (g 0)) ∧ f 1 = .int (hiB (g 0))) (h1 : f 2 = .int (loB (g 1)) ∧ f 3 = .int (hiB (g 1))) : U16 2 g f := fun i hi => K2 (P := fun i => f (2 * i) = .int (loB (g i)) ∧ f (2 * i + 1) = .int (hiB (g i))) h0 h1 hi
theorem u16_3 {g : Nat → Int32} {f : Nat → Value} (h0 : f 0 = .int (loB (g 0)) ∧ f 1 = .int (hiB (g 0))) (h1 : f 2 = .int (loB (g 1)) ∧ f 3 = .int (hiB (g 1))) (h2 : f 4 = .int (loB (g 2)) ∧ f 5 = .int (hiB (g 2))) : U16 3 g f := fun i hi => K3 (P := fun i => f (2 * i) = .int (loB (g i)) ∧ f (2 * i + 1) = .int (hiB (g i))) h0 h1 h2 hi
theorem la1_1 {g : Nat → Int32} {f : Nat → Value} (h0 : f 0 = .int (laB (g 0)) ∧ (g 0).toInt ≤ 255) : La1 1 g f := fun i hi => K1 (P := fun i => f i = .int (laB (g i)) ∧ (g i).toInt ≤ 255) h0 hi
theorem la1_2 {g : Nat → Int32} {f : Nat → Value} (h0 : f 0 = .int (laB (g 0)) ∧ (g 0).toInt ≤ 255) (h1 : f 1 = .int (laB (g 1)) ∧ (g 1).toInt ≤ 255) : La1 2 g f := fun i hi => K2 (P := fun i => f i = .int (laB (g i)) ∧ (g i).toInt ≤ 255) h0 h1 hi
theorem la1_3 {g : Nat → Int32} {f : Nat → Value} (h0 : f 0 = .int (laB (g 0)) ∧ (g 0).toInt ≤ 255) (h1 : f 1 = .int (laB (g 1)) ∧ (g 1).toInt ≤ 255) (h2 : f 2 = .int (laB (g 2)) ∧ (g 2).toInt ≤ 255) : La1 3 g f := fun i hi => K3 (P := fun i => f i = .int (laB (g i)) ∧ (g i).toInt ≤ 255) h0 h1 h2 hi
theorem nc0 : (0 : Int32).toNatClampNeg = 0 := by decide
theorem nc1 : (1 : Int32).toNatClampNeg = 1 := by decide
theorem nc2 : (2 : Int32).toNatClampNeg = 2 := by decide
theorem le255 {v : Int32} (h : ¬ 255 < v) : v.toInt ≤ 255 := by rw [Int32.lt_iff_toInt_lt, show (255 : Int32).toInt = 255 from by decide] at h; omega
def NbQ (Z : State) (N : Nat) (h0 : Heap) : Option Value → Heap → List Loc → Prop := fun v h L => ∃ b, v = some (.ref b) ∧ L = [] ∧ Ext h0 h ∧ h0.size ≤ b ∧ Jar Z h b .byte N (fun _ => defaultValue .byte)
def PuQ (Z : State) (b : Addr) (N : Nat) (F : Nat → Value) (h0 : Heap) (n0 : Nat) : Option Value → Heap → List Loc → Prop := fun v h L => v = none ∧ Fr n0 L ∧ Keep h0 h [b] ∧ Jar Z h b .byte N F
def TbQ (Z : State) (n : Nat) (g : Nat → Int32) (h0 : Heap) (n0 : Nat) : Option Value → Heap → List Loc → Prop := fun v h L => ∃ b f, v = some (.ref b) ∧ Fr n0 L ∧ Keep h0 h [] ∧ h0.size ≤ b ∧ Jar Z h b .byte (2 * n) f ∧ U16 n g f
def C5Q (Z : State) (b : Addr) (n : Nat) (z : Int32) (g : Nat → Int32) (h0 : Heap) (n0 : Nat) : Option Value → Heap → List Loc → Prop := fun v h L => ∃ r : Int32, v = some (.int r) ∧ Fr n0 L ∧ Keep h0 h [b] ∧ ((r = z ∧ ∃ f, Jar Z h b .byte n f ∧ La1 n g f) ∨ ((0 ≤ r.toInt ∧ r.toInt < n ∧ r ≠ z) ∧ 255 < g r.toNatClampNeg))
def C3Q (Z : State) (n : Nat) (g : Nat → Int32) (h0 : Heap) (n0 : Nat) : Option Value → Heap → List Loc → Prop := fun v h L => ∃ b f N, v = some (.ref b) ∧ Fr n0 L ∧ Keep h0 h [] ∧ h0.size ≤ b ∧ Jar Z h b .byte N f ∧ ((N = n ∧ La1 n g f) ∨ (N = 2 * n ∧ U16 n g f))
def VdQ (Z : State) (a : Addr) (n : Nat) (g : Nat → Int32) (h0 : Heap) (n0 : Nat) : Option Value → Heap → List Loc → Prop := fun v h L => v = none ∧ Fr n0 L ∧ Keep h0 h [a] ∧ Str Z h a n g
theorem not_lt0 {k : Int32} (h : 0 ≤ k.toInt) : ¬ k < 0 := by rw [Int32.lt_iff_toInt_lt, k0i]; omega
theorem lt_big {k : Int32} (h : k.toInt ≤ 3) : k < (1073741823 : Int32) := by rw [Int32.lt_iff_toInt_lt, show (1073741823 : Int32).toInt = 1073741823 from by decide]; omega
theorem ef_c_nl (m : MethodId) (x0 : Int32) : entryFrame m #[(.int x0)] 1 = mkF m 0 #[.val (.int x0)] [] := by first | (simp [entryFrame, mkF, argsToLocals, Value.category]; done) | rfl
set_option maxRecDepth 65536 in
set_option maxHeartbeats 40000000 in
theorem c_nl (l : Launch) (Z : State) (a0 : Array Value) (hw : ∀ d ∈ tables_1, d.before a0 Z = true) (k : Int32) (h0 : Heap) (hk : 0 ≤ k.toInt ∧ k.toInt ≤ 3) :
    Con l Z (⟨"java/lang/StringUTF16", "newBytesLength", "(I)I"⟩ : MethodName) jdk_52_method_3_code 1 (some .int) ({ frames := 0, cells := 0, slots := 0, locals := 0 } : Room) #[(.int k)] h0 (PQ (some (.int (k <<< ((1 : Int32) &&& 31)))) h0) := by
  refine Con.intro (plainFor_of_name pn_4) ?_
  intro p e s m below meth c s₁ hx hby hml hrt hlk hZ hown hnm X0 e0
  replace hown : s.vm.findClass "java/lang/StringUTF16" = some m.cls := hown
  refine GoOn.cast (ef_c_nl m k) ?_
  show GoOn p e below _ (s₁.setTop (mkF m 0 #[.val (.int k)] []))
  refine GoOn.step (fun t₀ k₀ => XS.iloadN X0.here hx rfl (hb hby d18_0) rfl k₀) ?_
  show GoOn p e below _ (s₁.setTop (mkF m 1 #[.val (.int k)] [(.int k)]))
  have hf29 : ¬ (k < (0 : Int32)) := (not_lt0 hk.1)
  refine GoOn.step (fun t₀ k₀ => XS.ifYes X0.here hx rfl (pc0 := 1) (pc' := 12) rfl (hb hby d18_1) rfl ((if0 _ _).trans (flt hf29).2.1) (by decide) (by decide) k₀) ?_
  show GoOn p e below _ (s₁.setTop (mkF m 12 #[.val (.int k)] []))
  refine GoOn.step (fun t₀ k₀ => XS.iloadN X0.here hx rfl (hb hby d18_12) rfl k₀) ?_
  show GoOn p e below _ (s₁.setTop (mkF m 13 #[.val (.int k)] [(.int k)]))
  refine GoOn.step (fun t₀ k₀ => X0.ldcInt hx hown (mvT hZ (hw _ (List.mem_of_getElem? (i := 83) rfl))) (g := (mkF m 13 #[.val (.int k)] [(.int k)])) rfl (hb hby d18_13) t₀ k₀) ?_
  show GoOn p e below _ (s₁.setTop (mkF m 15 #[.val (.int k)] [(.int (1073741823 : Int32)), (.int k)]))
  have hf30 : k < (1073741823 : Int32) := (lt_big hk.2)
  refine GoOn.step (fun t₀ k₀ => XS.icmpYes X0.here hx rfl (pc0 := 15) (pc' := 55) rfl (hb hby d18_15) rfl (tlt hf30).1 (by decide) (by decide) k₀) ?_
  show GoOn p e below _ (s₁.setTop (mkF m 55 #[.val (.int k)] []))
  refine GoOn.step (fun t₀ k₀ => XS.iloadN X0.here hx rfl (hb hby d18_55) rfl k₀) ?_
  show GoOn p e below _ (s₁.setTop (mkF m 56 #[.val (.int k)] [(.int k)]))
  refine GoOn.step (fun t₀ k₀ => XS.iconst X0.here hx rfl (hb hby d18_56) k₀) ?_
  show GoOn p e below _ (s₁.setTop (mkF m 57 #[.val (.int k)] [(.int (1 : Int32)), (.int k)]))
  refine GoOn.step (fun t₀ k₀ => XS.ishl X0.here hx rfl (hb hby d18_57) rfl k₀) ?_
  show GoOn p e below _ (s₁.setTop (mkF m 58 #[.val (.int k)] [(.int (k <<< ((1 : Int32) &&& 31)))]))
  exact GoOn.retI X0 hx hrt hlk (hb hby d18_58) (by decide) (by decide) (by first | exact ⟨rfl, rfl, rfl⟩ | (rw [e0]; exact ⟨rfl, rfl, rfl⟩))
theorem ef_c_nf1 (m : MethodId) (x0 : Int32) : entryFrame m #[(.int x0)] 1 = mkF m 0 #[.val (.int x0)] [] := by first | (simp [entryFrame, mkF, argsToLocals, Value.category]; done) | rfl
set_option maxRecDepth 65536 in
set_option maxHeartbeats 40000000 in
theorem c_nf1 (l : Launch) (Z : State) (a0 : Array Value) (hw : ∀ d ∈ tables_1, d.before a0 Z = true)  (h0 : Heap)  :
    Con l Z (⟨"java/lang/StringUTF16", "newBytesFor", "(I)[B"⟩ : MethodName) jdk_52_method_2_code 1 (some (.array .byte)) ({ frames := 1, cells := 1, slots := 2, locals := 16 } : Room) #[(.int (1 : Int32))] h0 (NbQ Z (2 * 1) h0) := by
  refine Con.intro (plainFor_of_name pn_4) ?_
  intro p e s m below meth c s₁ hx hby hml hrt hlk hZ hown hnm X0 e0
  replace hown : s.vm.findClass "java/lang/StringUTF16" = some m.cls := hown
  refine GoOn.cast (ef_c_nf1 m (1 : Int32)) ?_
  show GoOn p e below _ (s₁.setTop (mkF m 0 #[.val (.int (1 : Int32))] []))
  refine GoOn.step (fun t₀ k₀ => XS.iloadN X0.here hx rfl (hb hby d17_0) rfl k₀) ?_
  show GoOn p e below _ (s₁.setTop (mkF m 1 #[.val (.int (1 : Int32))] [(.int (1 : Int32))]))
  obtain ⟨_, T31, L31, X31, hQ31, st31⟩ := kCallS X0 hx hZ (argsL := [(.int (1 : Int32))]) (rest := []) (c_nl l Z a0 hw (1 : Int32) h0 ⟨by decide, by decide⟩) hown (hw _ (List.mem_of_getElem? (i := 80) rfl)) (hw _ (List.mem_of_getElem? (i := 81) rfl)) (hw _ (List.mem_of_getElem? (i := 44) rfl)) (hw _ (List.mem_of_getElem? (i := 82) rfl)) (by decide) e0 (g := (mkF m 1 #[.val (.int (1 : Int32))] [(.int (1 : Int32))])) rfl (by rw [hml]; rfl) (lenOf pd_7 rfl) rfl (W := 0) (by show 2 * 0 + _ ≤ _; exact Nat.le_of_eq rfl) (hb hby d17_1) (by decide) (by decide) (by decide) (by decide)
  obtain ⟨rfl, rfl, e31⟩ := hQ31
  rw [List.append_nil] at X31
  refine GoOn.step st31 ?_
  show GoOn p e below _ (T31.setTop (mkF m 4 #[.val (.int (1 : Int32))] [(.int ((1 : Int32) <<< ((1 : Int32) &&& 31)))]))
  rw [show ((1 : Int32) <<< ((1 : Int32) &&& 31)) = (2 : Int32) from (by decide)]
  obtain ⟨T32, h32, k32, X32, e32, E32, A32, st32⟩ := newP X31 hx hZ (hw _ (List.mem_of_getElem? (i := 16) rfl)) e31 (g := (mkF m 4 #[.val (.int (1 : Int32))] [(.int (2 : Int32))])) rfl (hb hby d17_4) rfl (by decide) (cap := 2) (by decide) (by decide) (by decide) (by decide)
  obtain ⟨b, g32⟩ : ∃ z, z = h0.size := ⟨_, rfl⟩
  rw [← g32] at A32 st32
  have J_b : Jar Z h32 b .byte 2 (fun _ => defaultValue .byte) := Jar.new A32 (by decide)
  refine GoOn.step st32 ?_
  show GoOn p e below _ (T32.setTop (mkF m 6 #[.val (.int (1 : Int32))] [(.ref b)]))
  exact GoOn.retR X32 hx hrt rfl hlk rfl (hb hby d17_6) (by decide) (by decide) (by first | exact ⟨b, rfl, rfl, E32, Nat.le_of_eq g32.symm, J_b⟩ | (rw [e32]; exact ⟨b, rfl, rfl, E32, Nat.le_of_eq g32.symm, J_b⟩))
theorem ef_c_nf2 (m : MethodId) (x0 : Int32) : entryFrame m #[(.int x0)] 1 = mkF m 0 #[.val (.int x0)] [] := by first | (simp [entryFrame, mkF, argsToLocals, Value.category]; done) | rfl
set_option maxRecDepth 65536 in
set_option maxHeartbeats 40000000 in
theorem c_nf2 (l : Launch) (Z : State) (a0 : Array Value) (hw : ∀ d ∈ tables_1, d.before a0 Z = true)  (h0 : Heap)  :
    Con l Z (⟨"java/lang/StringUTF16", "newBytesFor", "(I)[B"⟩ : MethodName) jdk_52_method_2_code 1 (some (.array .byte)) ({ frames := 1, cells := 1, slots := 4, locals := 16 } : Room) #[(.int (2 : Int32))] h0 (NbQ Z (2 * 2) h0) := by
  refine Con.intro (plainFor_of_name pn_4) ?_
  intro p e s m below meth c s₁ hx hby hml hrt hlk hZ hown hnm X0 e0
  replace hown : s.vm.findClass "java/lang/StringUTF16" = some m.cls := hown
  refine GoOn.cast (ef_c_nf2 m (2 : Int32)) ?_
  show GoOn p e below _ (s₁.setTop (mkF m 0 #[.val (.int (2 : Int32))] []))
  refine GoOn.step (fun t₀ k₀ => XS.iloadN X0.here hx rfl (hb hby d17_0) rfl k₀) ?_
  show GoOn p e below _ (s₁.setTop (mkF m 1 #[.val (.int (2 : Int32))] [(.int (2 : Int32))]))
  obtain ⟨_, T33, L33, X33, hQ33, st33⟩ := kCallS X0 hx hZ (argsL := [(.int (2 : Int32))]) (rest := []) (c_nl l Z a0 hw (2 : Int32) h0 ⟨by decide, by decide⟩) hown (hw _ (List.mem_of_getElem? (i := 80) rfl)) (hw _ (List.mem_of_getElem? (i := 81) rfl)) (hw _ (List.mem_of_getElem? (i := 44) rfl)) (hw _ (List.mem_of_getElem? (i := 82) rfl)) (by decide) e0 (g := (mkF m 1 #[.val (.int (2 : Int32))] [(.int (2 : Int32))])) rfl (by rw [hml]; rfl) (lenOf pd_7 rfl) rfl (W := 0) (by show 2 * 0 + _ ≤ _; exact Nat.le_of_eq rfl) (hb hby d17_1) (by decide) (by decide) (by decide) (by decide)
  obtain ⟨rfl, rfl, e33⟩ := hQ33
  rw [List.append_nil] at X33
  refine GoOn.step st33 ?_
  show GoOn p e below _ (T33.setTop (mkF m 4 #[.val (.int (2 : Int32))] [(.int ((2 : Int32) <<< ((1 : Int32) &&& 31)))]))
  rw [show ((2 : Int32) <<< ((1 : Int32) &&& 31)) = (4 : Int32) from (by decide)]
  obtain ⟨T34, h34, k34, X34, e34, E34, A34, st34⟩ := newP X33 hx hZ (hw _ (List.mem_of_getElem? (i := 16) rfl)) e33 (g := (mkF m 4 #[.val (.int (2 : Int32))] [(.int (4 : Int32))])) rfl (hb hby d17_4) rfl (by decide) (cap := 4) (by decide) (by decide) (by decide) (by decide)
  obtain ⟨b, g34⟩ : ∃ z, z = h0.size := ⟨_, rfl⟩
  rw [← g34] at A34 st34
  have J_b : Jar Z h34 b .byte 4 (fun _ => defaultValue .byte) := Jar.new A34 (by decide)
  refine GoOn.step st34 ?_
  show GoOn p e below _ (T34.setTop (mkF m 6 #[.val (.int (2 : Int32))] [(.ref b)]))
  exact GoOn.retR X34 hx hrt rfl hlk rfl (hb hby d17_6) (by decide) (by decide) (by first | exact ⟨b, rfl, rfl, E34, Nat.le_of_eq g34.symm, J_b⟩ | (rw [e34]; exact ⟨b, rfl, rfl, E34, Nat.le_of_eq g34.symm, J_b⟩))
theorem ef_c_nf3 (m : MethodId) (x0 : Int32) : entryFrame m #[(.int x0)] 1 = mkF m 0 #[.val (.int x0)] [] := by first | (simp [entryFrame, mkF, argsToLocals, Value.category]; done) | rfl
set_option maxRecDepth 65536 in
set_option maxHeartbeats 40000000 in
theorem c_nf3 (l : Launch) (Z : State) (a0 : Array Value) (hw : ∀ d ∈ tables_1, d.before a0 Z = true)  (h0 : Heap)  :
    Con l Z (⟨"java/lang/StringUTF16", "newBytesFor", "(I)[B"⟩ : MethodName) jdk_52_method_2_code 1 (some (.array .byte)) ({ frames := 1, cells := 1, slots := 6, locals := 16 } : Room) #[(.int (3 : Int32))] h0 (NbQ Z (2 * 3) h0) := by
  refine Con.intro (plainFor_of_name pn_4) ?_
  intro p e s m below meth c s₁ hx hby hml hrt hlk hZ hown hnm X0 e0
  replace hown : s.vm.findClass "java/lang/StringUTF16" = some m.cls := hown
  refine GoOn.cast (ef_c_nf3 m (3 : Int32)) ?_
  show GoOn p e below _ (s₁.setTop (mkF m 0 #[.val (.int (3 : Int32))] []))
  refine GoOn.step (fun t₀ k₀ => XS.iloadN X0.here hx rfl (hb hby d17_0) rfl k₀) ?_
  show GoOn p e below _ (s₁.setTop (mkF m 1 #[.val (.int (3 : Int32))] [(.int (3 : Int32))]))
  obtain ⟨_, T35, L35, X35, hQ35, st35⟩ := kCallS X0 hx hZ (argsL := [(.int (3 : Int32))]) (rest := []) (c_nl l Z a0 hw (3 : Int32) h0 ⟨by decide, by decide⟩) hown (hw _ (List.mem_of_getElem? (i := 80) rfl)) (hw _ (List.mem_of_getElem? (i := 81) rfl)) (hw _ (List.mem_of_getElem? (i := 44) rfl)) (hw _ (List.mem_of_getElem? (i := 82) rfl)) (by decide) e0 (g := (mkF m 1 #[.val (.int (3 : Int32))] [(.int (3 : Int32))])) rfl (by rw [hml]; rfl) (lenOf pd_7 rfl) rfl (W := 0) (by show 2 * 0 + _ ≤ _; exact Nat.le_of_eq rfl) (hb hby d17_1) (by decide) (by decide) (by decide) (by decide)
  obtain ⟨rfl, rfl, e35⟩ := hQ35
  rw [List.append_nil] at X35
  refine GoOn.step st35 ?_
  show GoOn p e below _ (T35.setTop (mkF m 4 #[.val (.int (3 : Int32))] [(.int ((3 : Int32) <<< ((1 : Int32) &&& 31)))]))
  rw [show ((3 : Int32) <<< ((1 : Int32) &&& 31)) = (6 : Int32) from (by decide)]
  obtain ⟨T36, h36, k36, X36, e36, E36, A36, st36⟩ := newP X35 hx hZ (hw _ (List.mem_of_getElem? (i := 16) rfl)) e35 (g := (mkF m 4 #[.val (.int (3 : Int32))] [(.int (6 : Int32))])) rfl (hb hby d17_4) rfl (by decide) (cap := 6) (by decide) (by decide) (by decide) (by decide)
  obtain ⟨b, g36⟩ : ∃ z, z = h0.size := ⟨_, rfl⟩
  rw [← g36] at A36 st36
  have J_b : Jar Z h36 b .byte 6 (fun _ => defaultValue .byte) := Jar.new A36 (by decide)
  refine GoOn.step st36 ?_
  show GoOn p e below _ (T36.setTop (mkF m 6 #[.val (.int (3 : Int32))] [(.ref b)]))
  exact GoOn.retR X36 hx hrt rfl hlk rfl (hb hby d17_6) (by decide) (by decide) (by first | exact ⟨b, rfl, rfl, E36, Nat.le_of_eq g36.symm, J_b⟩ | (rw [e36]; exact ⟨b, rfl, rfl, E36, Nat.le_of_eq g36.symm, J_b⟩))
theorem ef_c_pu (m : MethodId) (x0 : Addr) (x1 : Int32) (x2 : Int32) : entryFrame m #[(.ref x0), (.int x1), (.int x2)] 3 = mkF m 0 #[.val (.ref x0), .val (.int x1), .val (.int x2)] [] := by first | (simp [entryFrame, mkF, argsToLocals, Value.category]; done) | rfl
set_option maxRecDepth 65536 in
set_option maxHeartbeats 40000000 in
theorem c_pu (l : Launch) (Z : State) (a0 : Array Value) (hw : ∀ d ∈ tables_1, d.before a0 Z = true) (b : Addr) (i v : Int32) (N : Nat) (f : Nat → Value) (cs : Int32) (fv : Value) (h0 : Heap) (n0 : Nat) (Z0 : n0 ≤ h0.size) (O : Old Z n0 h0) (SS : Stt Z cs fv) (Jb : Jar Z h0 b .byte N f) (hN : N ≤ 6) (hi : 0 ≤ i.toInt ∧ 2 * i.toInt + 1 < N) (gb : n0 ≤ b) :
    Con l Z (⟨"java/lang/StringUTF16", "putChar", "([BII)V"⟩ : MethodName) jdk_52_method_4_code 3 none ({ frames := 0, cells := 0, slots := 0, locals := 0 } : Room) #[(.ref b), (.int i), (.int v)] h0 (PuQ Z b N (pchF f i.toNatClampNeg v) h0 n0) := by
  refine Con.intro (plainFor_of_name pn_4) ?_
  intro p e s m below meth c s₁ hx hby hml hrt hlk hZ hown hnm X0 e0
  replace hown : s.vm.findClass "java/lang/StringUTF16" = some m.cls := hown
  have N0 := Fr.nil n0
  refine GoOn.cast (ef_c_pu m b i v) ?_
  show GoOn p e below _ (s₁.setTop (mkF m 0 #[.val (.ref b), .val (.int i), .val (.int v)] []))
  obtain ⟨hcs, hfv, S1, S2, S3, S4, S5⟩ := id SS
  replace S1 := S1.ext O.2
  replace S2 := S2.ext O.2
  replace S3 := S3.ext O.2
  replace S4 := S4.ext O.2
  replace S5 := S5.ext O.2
  have K0 : Keep h0 h0 [b] := Keep.refl _ _
  have hi2 : 0 ≤ i.toInt ∧ i.toInt ≤ 2 := by omega
  obtain ⟨T37, X37, e37, st37⟩ := getS2 X0 hx hZ hown (host := "") (Or.inl (hw _ (List.mem_of_getElem? (i := 87) rfl))) Via.refl e0 S3 (g := (mkF m 0 #[.val (.ref b), .val (.int i), .val (.int v)] [])) rfl (hb hby d19_0)
  refine GoOn.step st37 ?_
  show GoOn p e below _ (T37.setTop (mkF m 3 #[.val (.ref b), .val (.int i), .val (.int v)] [(.int (1 : Int32))]))
  have hf38 : ¬ ((1 : Int32) = (0 : Int32)) := (by decide)
  refine GoOn.step (fun t₀ k₀ => XS.ifYes X37.here hx rfl (pc0 := 3) (pc' := 28) rfl (hb hby d19_3) rfl ((if0 _ _).trans (feq hf38).2) (by decide) (by decide) k₀) ?_
  show GoOn p e below _ (T37.setTop (mkF m 28 #[.val (.ref b), .val (.int i), .val (.int v)] []))
  refine GoOn.step (fun t₀ k₀ => XS.iloadN X37.here hx rfl (hb hby d19_28) rfl k₀) ?_
  show GoOn p e below _ (T37.setTop (mkF m 29 #[.val (.ref b), .val (.int i), .val (.int v)] [(.int i)]))
  refine GoOn.step (fun t₀ k₀ => XS.iconst X37.here hx rfl (hb hby d19_29) k₀) ?_
  show GoOn p e below _ (T37.setTop (mkF m 30 #[.val (.ref b), .val (.int i), .val (.int v)] [(.int (1 : Int32)), (.int i)]))
  refine GoOn.step (fun t₀ k₀ => XS.ishl X37.here hx rfl (hb hby d19_30) rfl k₀) ?_
  show GoOn p e below _ (T37.setTop (mkF m 31 #[.val (.ref b), .val (.int i), .val (.int v)] [(.int (i <<< ((1 : Int32) &&& 31)))]))
  refine GoOn.step (fun t₀ k₀ => XS.istoreN X37.here hx rfl (hb hby d19_31) rfl (l' := #[.val (.ref b), .val (.int (i <<< ((1 : Int32) &&& 31))), .val (.int v)]) rfl k₀) ?_
  show GoOn p e below _ (T37.setTop (mkF m 32 #[.val (.ref b), .val (.int (i <<< ((1 : Int32) &&& 31))), .val (.int v)] []))
  refine GoOn.step (fun t₀ k₀ => XS.aloadN X37.here hx rfl (hb hby d19_32) rfl rfl k₀) ?_
  show GoOn p e below _ (T37.setTop (mkF m 33 #[.val (.ref b), .val (.int (i <<< ((1 : Int32) &&& 31))), .val (.int v)] [(.ref b)]))
  refine GoOn.step (fun t₀ k₀ => XS.iloadN X37.here hx rfl (hb hby d19_33) rfl k₀) ?_
  show GoOn p e below _ (T37.setTop (mkF m 34 #[.val (.ref b), .val (.int (i <<< ((1 : Int32) &&& 31))), .val (.int v)] [(.int (i <<< ((1 : Int32) &&& 31))), (.ref b)]))
  refine GoOn.step (fun t₀ k₀ => XS.iinc X37.here hx rfl (hb hby d19_34) rfl (l' := #[.val (.ref b), .val (.int ((i <<< ((1 : Int32) &&& 31)) + (1 : Int32))), .val (.int v)]) rfl k₀) ?_
  show GoOn p e below _ (T37.setTop (mkF m 37 #[.val (.ref b), .val (.int ((i <<< ((1 : Int32) &&& 31)) + (1 : Int32))), .val (.int v)] [(.int (i <<< ((1 : Int32) &&& 31))), (.ref b)]))
  refine GoOn.step (fun t₀ k₀ => XS.iloadN X37.here hx rfl (hb hby d19_37) rfl k₀) ?_
  show GoOn p e below _ (T37.setTop (mkF m 38 #[.val (.ref b), .val (.int ((i <<< ((1 : Int32) &&& 31)) + (1 : Int32))), .val (.int v)] [(.int v), (.int (i <<< ((1 : Int32) &&& 31))), (.ref b)]))
  obtain ⟨T39, X39, e39, st39⟩ := getS2 X37 hx hZ hown (host := "") (Or.inl (hw _ (List.mem_of_getElem? (i := 88) rfl))) Via.refl e37 S4 (g := (mkF m 38 #[.val (.ref b), .val (.int ((i <<< ((1 : Int32) &&& 31)) + (1 : Int32))), .val (.int v)] [(.int v), (.int (i <<< ((1 : Int32) &&& 31))), (.ref b)])) rfl (hb hby d19_38)
  refine GoOn.step st39 ?_
  show GoOn p e below _ (T39.setTop (mkF m 41 #[.val (.ref b), .val (.int ((i <<< ((1 : Int32) &&& 31)) + (1 : Int32))), .val (.int v)] [(.int (0 : Int32)), (.int v), (.int (i <<< ((1 : Int32) &&& 31))), (.ref b)]))
  refine GoOn.step (fun t₀ k₀ => XS.ishr X39.here hx rfl (hb hby d19_41) rfl k₀) ?_
  show GoOn p e below _ (T39.setTop (mkF m 42 #[.val (.ref b), .val (.int ((i <<< ((1 : Int32) &&& 31)) + (1 : Int32))), .val (.int v)] [(.int (v >>> ((0 : Int32) &&& 31))), (.int (i <<< ((1 : Int32) &&& 31))), (.ref b)]))
  refine GoOn.step (fun t₀ k₀ => XS.i2b X39.here hx rfl (hb hby d19_42) rfl k₀) ?_
  show GoOn p e below _ (T39.setTop (mkF m 43 #[.val (.ref b), .val (.int ((i <<< ((1 : Int32) &&& 31)) + (1 : Int32))), .val (.int v)] [(.int ((v >>> ((0 : Int32) &&& 31)).toInt8.toInt32)), (.int (i <<< ((1 : Int32) &&& 31))), (.ref b)]))
  obtain ⟨T40, h40, X40, e40, W40, st40⟩ := kStB X39 hx hZ e39 Jb (j := (i <<< ((1 : Int32) &&& 31))) ⟨by have := (shl1 hi2).1; omega, by have := (shl1 hi2).1; omega⟩ (g := (mkF m 43 #[.val (.ref b), .val (.int ((i <<< ((1 : Int32) &&& 31)) + (1 : Int32))), .val (.int v)] [(.int ((v >>> ((0 : Int32) &&& 31)).toInt8.toInt32)), (.int (i <<< ((1 : Int32) &&& 31))), (.ref b)])) rfl rfl (hb hby d19_43)
  replace N0 := Fr.snoc X40 N0 gb
  replace S1 := S1.wr W40
  replace S2 := S2.wr W40
  replace S3 := S3.wr W40
  replace S4 := S4.wr W40
  replace S5 := S5.wr W40
  replace Jb := Jb.set W40
  replace O := O.wr W40 gb
  replace Z0 := Nat.le_trans Z0 (Nat.le_of_eq W40.size.symm)
  replace K0 := K0.wr W40 (Or.inl (by simp))
  refine GoOn.step st40 ?_
  show GoOn p e below _ (T40.setTop (mkF m 44 #[.val (.ref b), .val (.int ((i <<< ((1 : Int32) &&& 31)) + (1 : Int32))), .val (.int v)] []))
  refine GoOn.step (fun t₀ k₀ => XS.aloadN X40.here hx rfl (hb hby d19_44) rfl rfl k₀) ?_
  show GoOn p e below _ (T40.setTop (mkF m 45 #[.val (.ref b), .val (.int ((i <<< ((1 : Int32) &&& 31)) + (1 : Int32))), .val (.int v)] [(.ref b)]))
  refine GoOn.step (fun t₀ k₀ => XS.iloadN X40.here hx rfl (hb hby d19_45) rfl k₀) ?_
  show GoOn p e below _ (T40.setTop (mkF m 46 #[.val (.ref b), .val (.int ((i <<< ((1 : Int32) &&& 31)) + (1 : Int32))), .val (.int v)] [(.int ((i <<< ((1 : Int32) &&& 31)) + (1 : Int32))), (.ref b)]))
  refine GoOn.step (fun t₀ k₀ => XS.iloadN X40.here hx rfl (hb hby d19_46) rfl k₀) ?_
  show GoOn p e below _ (T40.setTop (mkF m 47 #[.val (.ref b), .val (.int ((i <<< ((1 : Int32) &&& 31)) + (1 : Int32))), .val (.int v)] [(.int v), (.int ((i <<< ((1 : Int32) &&& 31)) + (1 : Int32))), (.ref b)]))
  obtain ⟨T41, X41, e41, st41⟩ := getS2 X40 hx hZ hown (host := "") (Or.inl (hw _ (List.mem_of_getElem? (i := 89) rfl))) Via.refl e40 S5 (g := (mkF m 47 #[.val (.ref b), .val (.int ((i <<< ((1 : Int32) &&& 31)) + (1 : Int32))), .val (.int v)] [(.int v), (.int ((i <<< ((1 : Int32) &&& 31)) + (1 : Int32))), (.ref b)])) rfl (hb hby d19_47)
  refine GoOn.step st41 ?_
  show GoOn p e below _ (T41.setTop (mkF m 50 #[.val (.ref b), .val (.int ((i <<< ((1 : Int32) &&& 31)) + (1 : Int32))), .val (.int v)] [(.int (8 : Int32)), (.int v), (.int ((i <<< ((1 : Int32) &&& 31)) + (1 : Int32))), (.ref b)]))
  refine GoOn.step (fun t₀ k₀ => XS.ishr X41.here hx rfl (hb hby d19_50) rfl k₀) ?_
  show GoOn p e below _ (T41.setTop (mkF m 51 #[.val (.ref b), .val (.int ((i <<< ((1 : Int32) &&& 31)) + (1 : Int32))), .val (.int v)] [(.int (v >>> ((8 : Int32) &&& 31))), (.int ((i <<< ((1 : Int32) &&& 31)) + (1 : Int32))), (.ref b)]))
  refine GoOn.step (fun t₀ k₀ => XS.i2b X41.here hx rfl (hb hby d19_51) rfl k₀) ?_
  show GoOn p e below _ (T41.setTop (mkF m 52 #[.val (.ref b), .val (.int ((i <<< ((1 : Int32) &&& 31)) + (1 : Int32))), .val (.int v)] [(.int ((v >>> ((8 : Int32) &&& 31)).toInt8.toInt32)), (.int ((i <<< ((1 : Int32) &&& 31)) + (1 : Int32))), (.ref b)]))
  obtain ⟨T42, h42, X42, e42, W42, st42⟩ := kStB X41 hx hZ e41 Jb (j := ((i <<< ((1 : Int32) &&& 31)) + (1 : Int32))) ⟨by have := (shl1 hi2).2; omega, by have := (shl1 hi2).2; omega⟩ (g := (mkF m 52 #[.val (.ref b), .val (.int ((i <<< ((1 : Int32) &&& 31)) + (1 : Int32))), .val (.int v)] [(.int ((v >>> ((8 : Int32) &&& 31)).toInt8.toInt32)), (.int ((i <<< ((1 : Int32) &&& 31)) + (1 : Int32))), (.ref b)])) rfl rfl (hb hby d19_52)
  replace N0 := Fr.snoc X42 N0 gb
  replace S1 := S1.wr W42
  replace S2 := S2.wr W42
  replace S3 := S3.wr W42
  replace S4 := S4.wr W42
  replace S5 := S5.wr W42
  replace Jb := Jb.set W42
  replace O := O.wr W42 gb
  replace Z0 := Nat.le_trans Z0 (Nat.le_of_eq W42.size.symm)
  replace K0 := K0.wr W42 (Or.inl (by simp))
  refine GoOn.step st42 ?_
  show GoOn p e below _ (T42.setTop (mkF m 53 #[.val (.ref b), .val (.int ((i <<< ((1 : Int32) &&& 31)) + (1 : Int32))), .val (.int v)] []))
  exact GoOn.ret0 X42 hx hrt hlk (hb hby d19_53) (by decide) (by decide) (by first | exact ⟨rfl, N0, K0, Jb.congr fun j hj => by simp only [pchF, (shlN hi2).1, (shlN hi2).2, fixB, hiB, loB]⟩ | (rw [e42]; exact ⟨rfl, N0, K0, Jb.congr fun j hj => by simp only [pchF, (shlN hi2).1, (shlN hi2).2, fixB, hiB, loB]⟩))
theorem ef_c_tb1 (m : MethodId) (x0 : Addr) (x1 : Int32) (x2 : Int32) : entryFrame m #[(.ref x0), (.int x1), (.int x2)] 5 = mkF m 0 #[.val (.ref x0), .val (.int x1), .val (.int x2), .unset, .unset] [] := by first | (simp [entryFrame, mkF, argsToLocals, Value.category]; done) | rfl
set_option maxRecDepth 65536 in
set_option maxHeartbeats 40000000 in
theorem c_tb1 (l : Launch) (Z : State) (a0 : Array Value) (hw : ∀ d ∈ tables_1, d.before a0 Z = true) (ca : Addr) (g : Nat → Int32) (cs : Int32) (fv : Value) (h0 : Heap) (n0 : Nat) (Z0 : n0 ≤ h0.size) (O : Old Z n0 h0) (SS : Stt Z cs fv) (Jc : Jar Z h0 ca .char 1 (fun i => .int (g i))) :
    Con l Z (⟨"java/lang/StringUTF16", "toBytes", "([CII)[B"⟩ : MethodName) jdk_52_method_14_code 5 (some (.array .byte)) ({ frames := 2, cells := 1, slots := 2, locals := 32 } : Room) #[(.ref ca), (.int (0 : Int32)), (.int (1 : Int32))] h0 (TbQ Z 1 g h0 n0) := by
  refine Con.intro (plainFor_of_name pn_4) ?_
  intro p e s m below meth c s₁ hx hby hml hrt hlk hZ hown hnm X0 e0
  replace hown : s.vm.findClass "java/lang/StringUTF16" = some m.cls := hown
  have N0 := Fr.nil n0
  refine GoOn.cast (ef_c_tb1 m ca (0 : Int32) (1 : Int32)) ?_
  show GoOn p e below _ (s₁.setTop (mkF m 0 #[.val (.ref ca), .val (.int (0 : Int32)), .val (.int (1 : Int32)), .unset, .unset] []))
  have K0 : Keep h0 h0 [] := Keep.refl _ _
  refine GoOn.step (fun t₀ k₀ => XS.iloadN X0.here hx rfl (hb hby d16_0) rfl k₀) ?_
  show GoOn p e below _ (s₁.setTop (mkF m 1 #[.val (.ref ca), .val (.int (0 : Int32)), .val (.int (1 : Int32)), .unset, .unset] [(.int (1 : Int32))]))
  obtain ⟨_, T43, L43, X43, hQ43, st43⟩ := kCallS X0 hx hZ (argsL := [(.int (1 : Int32))]) (rest := []) (c_nf1 l Z a0 hw h0) hown (hw _ (List.mem_of_getElem? (i := 77) rfl)) (hw _ (List.mem_of_getElem? (i := 78) rfl)) (hw _ (List.mem_of_getElem? (i := 44) rfl)) (hw _ (List.mem_of_getElem? (i := 79) rfl)) (by decide) e0 (g := (mkF m 1 #[.val (.ref ca), .val (.int (0 : Int32)), .val (.int (1 : Int32)), .unset, .unset] [(.int (1 : Int32))])) rfl (by rw [hml]; rfl) (lenOf pd_8 rfl) rfl (W := 0) (by show 2 * 0 + _ ≤ _; exact Nat.le_of_eq rfl) (hb hby d16_1) (by decide) (by decide) (by decide) (by decide)
  obtain ⟨b, rfl, rfl, E43, szb, Jb⟩ := hQ43
  rw [List.append_nil] at X43
  have ne_ca_b : ca ≠ b := Nat.ne_of_lt (Nat.lt_of_lt_of_le Jc.lt szb)
  have le_b : n0 ≤ b := Nat.le_trans Z0 szb
  replace Jc := Jc.ext E43
  replace O := O.ext E43
  replace Z0 := Nat.le_trans Z0 E43.1
  replace K0 := K0.ext E43
  refine GoOn.step st43 ?_
  show GoOn p e below _ (T43.setTop (mkF m 4 #[.val (.ref ca), .val (.int (0 : Int32)), .val (.int (1 : Int32)), .unset, .unset] [(.ref b)]))
  refine GoOn.step (fun t₀ k₀ => XS.astoreN X43.here hx rfl (hb hby d16_4) rfl rfl (l' := #[.val (.ref ca), .val (.int (0 : Int32)), .val (.int (1 : Int32)), .val (.ref b), .unset]) rfl k₀) ?_
  show GoOn p e below _ (T43.setTop (mkF m 5 #[.val (.ref ca), .val (.int (0 : Int32)), .val (.int (1 : Int32)), .val (.ref b), .unset] []))
  refine GoOn.step (fun t₀ k₀ => XS.iconst X43.here hx rfl (hb hby d16_5) k₀) ?_
  show GoOn p e below _ (T43.setTop (mkF m 6 #[.val (.ref ca), .val (.int (0 : Int32)), .val (.int (1 : Int32)), .val (.ref b), .unset] [(.int (0 : Int32))]))
  refine GoOn.step (fun t₀ k₀ => XS.istore X43.here hx rfl (hb hby d16_6) rfl (l' := #[.val (.ref ca), .val (.int (0 : Int32)), .val (.int (1 : Int32)), .val (.ref b), .val (.int (0 : Int32))]) rfl k₀) ?_
  show GoOn p e below _ (T43.setTop (mkF m 8 #[.val (.ref ca), .val (.int (0 : Int32)), .val (.int (1 : Int32)), .val (.ref b), .val (.int (0 : Int32))] []))
  refine GoOn.step (fun t₀ k₀ => XS.iload X43.here hx rfl (hb hby d16_8) rfl k₀) ?_
  show GoOn p e below _ (T43.setTop (mkF m 10 #[.val (.ref ca), .val (.int (0 : Int32)), .val (.int (1 : Int32)), .val (.ref b), .val (.int (0 : Int32))] [(.int (0 : Int32))]))
  refine GoOn.step (fun t₀ k₀ => XS.iloadN X43.here hx rfl (hb hby d16_10) rfl k₀) ?_
  show GoOn p e below _ (T43.setTop (mkF m 11 #[.val (.ref ca), .val (.int (0 : Int32)), .val (.int (1 : Int32)), .val (.ref b), .val (.int (0 : Int32))] [(.int (1 : Int32)), (.int (0 : Int32))]))
  have hf44 : (0 : Int32) < (1 : Int32) := (by decide)
  refine GoOn.step (fun t₀ k₀ => XS.icmpNo X43.here hx rfl (hb hby d16_11) rfl (tlt hf44).2.1 k₀) ?_
  show GoOn p e below _ (T43.setTop (mkF m 14 #[.val (.ref ca), .val (.int (0 : Int32)), .val (.int (1 : Int32)), .val (.ref b), .val (.int (0 : Int32))] []))
  refine GoOn.step (fun t₀ k₀ => XS.aloadN X43.here hx rfl (hb hby d16_14) rfl rfl k₀) ?_
  show GoOn p e below _ (T43.setTop (mkF m 15 #[.val (.ref ca), .val (.int (0 : Int32)), .val (.int (1 : Int32)), .val (.ref b), .val (.int (0 : Int32))] [(.ref b)]))
  refine GoOn.step (fun t₀ k₀ => XS.iload X43.here hx rfl (hb hby d16_15) rfl k₀) ?_
  show GoOn p e below _ (T43.setTop (mkF m 17 #[.val (.ref ca), .val (.int (0 : Int32)), .val (.int (1 : Int32)), .val (.ref b), .val (.int (0 : Int32))] [(.int (0 : Int32)), (.ref b)]))
  refine GoOn.step (fun t₀ k₀ => XS.aloadN X43.here hx rfl (hb hby d16_17) rfl rfl k₀) ?_
  show GoOn p e below _ (T43.setTop (mkF m 18 #[.val (.ref ca), .val (.int (0 : Int32)), .val (.int (1 : Int32)), .val (.ref b), .val (.int (0 : Int32))] [(.ref ca), (.int (0 : Int32)), (.ref b)]))
  refine GoOn.step (fun t₀ k₀ => XS.iloadN X43.here hx rfl (hb hby d16_18) rfl k₀) ?_
  show GoOn p e below _ (T43.setTop (mkF m 19 #[.val (.ref ca), .val (.int (0 : Int32)), .val (.int (1 : Int32)), .val (.ref b), .val (.int (0 : Int32))] [(.int (0 : Int32)), (.ref ca), (.int (0 : Int32)), (.ref b)]))
  refine GoOn.step (fun t₀ k₀ => kLdC X43 hx hZ rfl Jc (j := (0 : Int32)) (v := (.int (g 0))) ⟨by decide, by decide⟩ rfl (g := (mkF m 19 #[.val (.ref ca), .val (.int (0 : Int32)), .val (.int (1 : Int32)), .val (.ref b), .val (.int (0 : Int32))] [(.int (0 : Int32)), (.ref ca), (.int (0 : Int32)), (.ref b)])) rfl rfl (hb hby d16_19) t₀ k₀) ?_
  show GoOn p e below _ (T43.setTop (mkF m 20 #[.val (.ref ca), .val (.int (0 : Int32)), .val (.int (1 : Int32)), .val (.ref b), .val (.int (0 : Int32))] [(.int (g 0)), (.int (0 : Int32)), (.ref b)]))
  obtain ⟨_, T45, L45, X45, hQ45, st45⟩ := kCallS X43 hx hZ (argsL := [(.ref b), (.int (0 : Int32)), (.int (g 0))]) (rest := []) (c_pu l Z a0 hw b (0 : Int32) (g 0) (2 * 1) (fun _ => defaultValue .byte) cs fv T43.heap n0 Z0 O SS Jb (by decide) ⟨by decide, by decide⟩ le_b) hown (hw _ (List.mem_of_getElem? (i := 84) rfl)) (hw _ (List.mem_of_getElem? (i := 85) rfl)) (hw _ (List.mem_of_getElem? (i := 44) rfl)) (hw _ (List.mem_of_getElem? (i := 86) rfl)) (by decide) rfl (g := (mkF m 20 #[.val (.ref ca), .val (.int (0 : Int32)), .val (.int (1 : Int32)), .val (.ref b), .val (.int (0 : Int32))] [(.int (g 0)), (.int (0 : Int32)), (.ref b)])) rfl (by rw [hml]; rfl) (lenOf pd_9 rfl) rfl (W := 0) (by show 2 * 0 + _ ≤ _; exact Nat.le_of_eq rfl) (hb hby d16_20) (by decide) (by decide) (by decide) (by decide)
  obtain ⟨rfl, N45, K45, J45⟩ := hQ45
  replace N0 := Fr.app N0 N45
  replace K0 := K0.trans K45 (allS (Or.inr szb) all0)
  replace Jc := Jc.keep K45 (ninS ne_ca_b nin0)
  clear Jb
  replace O := O.keep K45 (allS le_b all0)
  replace Z0 := Nat.le_trans Z0 K45.1
  have Jb := J45
  refine GoOn.step st45 ?_
  show GoOn p e below _ (T45.setTop (mkF m 23 #[.val (.ref ca), .val (.int (0 : Int32)), .val (.int (1 : Int32)), .val (.ref b), .val (.int (0 : Int32))] []))
  refine GoOn.step (fun t₀ k₀ => XS.iinc X45.here hx rfl (hb hby d16_23) rfl (l' := #[.val (.ref ca), .val (.int ((0 : Int32) + (1 : Int32))), .val (.int (1 : Int32)), .val (.ref b), .val (.int (0 : Int32))]) rfl k₀) ?_
  show GoOn p e below _ (T45.setTop (mkF m 26 #[.val (.ref ca), .val (.int ((0 : Int32) + (1 : Int32))), .val (.int (1 : Int32)), .val (.ref b), .val (.int (0 : Int32))] []))
  refine GoOn.step (fun t₀ k₀ => XS.iinc X45.here hx rfl (hb hby d16_26) rfl (l' := #[.val (.ref ca), .val (.int ((0 : Int32) + (1 : Int32))), .val (.int (1 : Int32)), .val (.ref b), .val (.int ((0 : Int32) + (1 : Int32)))]) rfl k₀) ?_
  show GoOn p e below _ (T45.setTop (mkF m 29 #[.val (.ref ca), .val (.int ((0 : Int32) + (1 : Int32))), .val (.int (1 : Int32)), .val (.ref b), .val (.int ((0 : Int32) + (1 : Int32)))] []))
  rw [show ((0 : Int32) + (1 : Int32)) = (1 : Int32) from (by decide)]
  refine GoOn.step (fun t₀ k₀ => XS.goto X45.here hx rfl (pc0 := 29) (pc' := 8) rfl (hb hby d16_29) (by decide) (by decide) k₀) ?_
  show GoOn p e below _ (T45.setTop (mkF m 8 #[.val (.ref ca), .val (.int (1 : Int32)), .val (.int (1 : Int32)), .val (.ref b), .val (.int (1 : Int32))] []))
  refine GoOn.step (fun t₀ k₀ => XS.iload X45.here hx rfl (hb hby d16_8) rfl k₀) ?_
  show GoOn p e below _ (T45.setTop (mkF m 10 #[.val (.ref ca), .val (.int (1 : Int32)), .val (.int (1 : Int32)), .val (.ref b), .val (.int (1 : Int32))] [(.int (1 : Int32))]))
  refine GoOn.step (fun t₀ k₀ => XS.iloadN X45.here hx rfl (hb hby d16_10) rfl k₀) ?_
  show GoOn p e below _ (T45.setTop (mkF m 11 #[.val (.ref ca), .val (.int (1 : Int32)), .val (.int (1 : Int32)), .val (.ref b), .val (.int (1 : Int32))] [(.int (1 : Int32)), (.int (1 : Int32))]))
  have hf46 : ¬ ((1 : Int32) < (1 : Int32)) := (by decide)
  refine GoOn.step (fun t₀ k₀ => XS.icmpYes X45.here hx rfl (pc0 := 11) (pc' := 32) rfl (hb hby d16_11) rfl (flt hf46).2.1 (by decide) (by decide) k₀) ?_
  show GoOn p e below _ (T45.setTop (mkF m 32 #[.val (.ref ca), .val (.int (1 : Int32)), .val (.int (1 : Int32)), .val (.ref b), .val (.int (1 : Int32))] []))
  refine GoOn.step (fun t₀ k₀ => XS.aloadN X45.here hx rfl (hb hby d16_32) rfl rfl k₀) ?_
  show GoOn p e below _ (T45.setTop (mkF m 33 #[.val (.ref ca), .val (.int (1 : Int32)), .val (.int (1 : Int32)), .val (.ref b), .val (.int (1 : Int32))] [(.ref b)]))
  exact GoOn.retR X45 hx hrt rfl hlk rfl (hb hby d16_33) (by decide) (by decide) ⟨b, _, rfl, N0, K0, szb, Jb, u16_1 ⟨by simp [pchF, nc0, nc1, nc2], by simp [pchF, nc0, nc1, nc2]⟩⟩
theorem ef_c_c5_1 (m : MethodId) (x0 : Addr) (x1 : Int32) (x2 : Addr) (x3 : Int32) (x4 : Int32) : entryFrame m #[(.ref x0), (.int x1), (.ref x2), (.int x3), (.int x4)] 7 = mkF m 0 #[.val (.ref x0), .val (.int x1), .val (.ref x2), .val (.int x3), .val (.int x4), .unset, .unset] [] := by first | (simp [entryFrame, mkF, argsToLocals, Value.category]; done) | rfl
set_option maxRecDepth 65536 in
set_option maxHeartbeats 40000000 in
theorem c_c5_1 (l : Launch) (Z : State) (a0 : Array Value) (hw : ∀ d ∈ tables_1, d.before a0 Z = true) (ca b : Addr) (g : Nat → Int32) (f : Nat → Value) (h0 : Heap) (n0 : Nat) (Z0 : n0 ≤ h0.size) (Jc : Jar Z h0 ca .char 1 (fun i => .int (g i))) (Jb : Jar Z h0 b .byte 1 f) (gb : n0 ≤ b) (ncb : ca ≠ b) :
    Con l Z (⟨"java/lang/StringUTF16", "compress", "([CI[BII)I"⟩ : MethodName) jdk_52_method_21_code 7 (some .int) ({ frames := 0, cells := 0, slots := 0, locals := 0 } : Room) #[(.ref ca), (.int (0 : Int32)), (.ref b), (.int (0 : Int32)), (.int (1 : Int32))] h0 (C5Q Z b 1 (1 : Int32) g h0 n0) := by
  refine Con.intro (plainFor_of_name pn_4) ?_
  intro p e s m below meth c s₁ hx hby hml hrt hlk hZ hown hnm X0 e0
  replace hown : s.vm.findClass "java/lang/StringUTF16" = some m.cls := hown
  have N0 := Fr.nil n0
  refine GoOn.cast (ef_c_c5_1 m ca (0 : Int32) b (0 : Int32) (1 : Int32)) ?_
  show GoOn p e below _ (s₁.setTop (mkF m 0 #[.val (.ref ca), .val (.int (0 : Int32)), .val (.ref b), .val (.int (0 : Int32)), .val (.int (1 : Int32)), .unset, .unset] []))
  have K0 : Keep h0 h0 [b] := Keep.refl _ _
  refine GoOn.step (fun t₀ k₀ => XS.iconst X0.here hx rfl (hb hby d9_0) k₀) ?_
  show GoOn p e below _ (s₁.setTop (mkF m 1 #[.val (.ref ca), .val (.int (0 : Int32)), .val (.ref b), .val (.int (0 : Int32)), .val (.int (1 : Int32)), .unset, .unset] [(.int (0 : Int32))]))
  refine GoOn.step (fun t₀ k₀ => XS.istore X0.here hx rfl (hb hby d9_1) rfl (l' := #[.val (.ref ca), .val (.int (0 : Int32)), .val (.ref b), .val (.int (0 : Int32)), .val (.int (1 : Int32)), .val (.int (0 : Int32)), .unset]) rfl k₀) ?_
  show GoOn p e below _ (s₁.setTop (mkF m 3 #[.val (.ref ca), .val (.int (0 : Int32)), .val (.ref b), .val (.int (0 : Int32)), .val (.int (1 : Int32)), .val (.int (0 : Int32)), .unset] []))
  refine GoOn.step (fun t₀ k₀ => XS.iload X0.here hx rfl (hb hby d9_3) rfl k₀) ?_
  show GoOn p e below _ (s₁.setTop (mkF m 5 #[.val (.ref ca), .val (.int (0 : Int32)), .val (.ref b), .val (.int (0 : Int32)), .val (.int (1 : Int32)), .val (.int (0 : Int32)), .unset] [(.int (0 : Int32))]))
  refine GoOn.step (fun t₀ k₀ => XS.iload X0.here hx rfl (hb hby d9_5) rfl k₀) ?_
  show GoOn p e below _ (s₁.setTop (mkF m 7 #[.val (.ref ca), .val (.int (0 : Int32)), .val (.ref b), .val (.int (0 : Int32)), .val (.int (1 : Int32)), .val (.int (0 : Int32)), .unset] [(.int (1 : Int32)), (.int (0 : Int32))]))
  have hf47 : (0 : Int32) < (1 : Int32) := (by decide)
  refine GoOn.step (fun t₀ k₀ => XS.icmpNo X0.here hx rfl (hb hby d9_7) rfl (tlt hf47).2.1 k₀) ?_
  show GoOn p e below _ (s₁.setTop (mkF m 10 #[.val (.ref ca), .val (.int (0 : Int32)), .val (.ref b), .val (.int (0 : Int32)), .val (.int (1 : Int32)), .val (.int (0 : Int32)), .unset] []))
  refine GoOn.step (fun t₀ k₀ => XS.aloadN X0.here hx rfl (hb hby d9_10) rfl rfl k₀) ?_
  show GoOn p e below _ (s₁.setTop (mkF m 11 #[.val (.ref ca), .val (.int (0 : Int32)), .val (.ref b), .val (.int (0 : Int32)), .val (.int (1 : Int32)), .val (.int (0 : Int32)), .unset] [(.ref ca)]))
  refine GoOn.step (fun t₀ k₀ => XS.iloadN X0.here hx rfl (hb hby d9_11) rfl k₀) ?_
  show GoOn p e below _ (s₁.setTop (mkF m 12 #[.val (.ref ca), .val (.int (0 : Int32)), .val (.ref b), .val (.int (0 : Int32)), .val (.int (1 : Int32)), .val (.int (0 : Int32)), .unset] [(.int (0 : Int32)), (.ref ca)]))
  refine GoOn.step (fun t₀ k₀ => kLdC X0 hx hZ e0 Jc (j := (0 : Int32)) (v := (.int (g 0))) ⟨by decide, by decide⟩ rfl (g := (mkF m 12 #[.val (.ref ca), .val (.int (0 : Int32)), .val (.ref b), .val (.int (0 : Int32)), .val (.int (1 : Int32)), .val (.int (0 : Int32)), .unset] [(.int (0 : Int32)), (.ref ca)])) rfl rfl (hb hby d9_12) t₀ k₀) ?_
  show GoOn p e below _ (s₁.setTop (mkF m 13 #[.val (.ref ca), .val (.int (0 : Int32)), .val (.ref b), .val (.int (0 : Int32)), .val (.int (1 : Int32)), .val (.int (0 : Int32)), .unset] [(.int (g 0))]))
  refine GoOn.step (fun t₀ k₀ => XS.istore X0.here hx rfl (hb hby d9_13) rfl (l' := #[.val (.ref ca), .val (.int (0 : Int32)), .val (.ref b), .val (.int (0 : Int32)), .val (.int (1 : Int32)), .val (.int (0 : Int32)), .val (.int (g 0))]) rfl k₀) ?_
  show GoOn p e below _ (s₁.setTop (mkF m 15 #[.val (.ref ca), .val (.int (0 : Int32)), .val (.ref b), .val (.int (0 : Int32)), .val (.int (1 : Int32)), .val (.int (0 : Int32)), .val (.int (g 0))] []))
  refine GoOn.step (fun t₀ k₀ => XS.iload X0.here hx rfl (hb hby d9_15) rfl k₀) ?_
  show GoOn p e below _ (s₁.setTop (mkF m 17 #[.val (.ref ca), .val (.int (0 : Int32)), .val (.ref b), .val (.int (0 : Int32)), .val (.int (1 : Int32)), .val (.int (0 : Int32)), .val (.int (g 0))] [(.int (g 0))]))
  refine GoOn.step (fun t₀ k₀ => XS.sipush X0.here hx rfl (hb hby d9_17) k₀) ?_
  show GoOn p e below _ (s₁.setTop (mkF m 20 #[.val (.ref ca), .val (.int (0 : Int32)), .val (.ref b), .val (.int (0 : Int32)), .val (.int (1 : Int32)), .val (.int (0 : Int32)), .val (.int (g 0))] [(.int (255 : Int32)), (.int (g 0))]))
  by_cases q0 : (255 : Int32) < (g 0)
  · refine GoOn.step (fun t₀ k₀ => XS.icmpNo X0.here hx rfl (hb hby d9_20) rfl (tlt q0).2.2.2 k₀) ?_
    show GoOn p e below _ (s₁.setTop (mkF m 23 #[.val (.ref ca), .val (.int (0 : Int32)), .val (.ref b), .val (.int (0 : Int32)), .val (.int (1 : Int32)), .val (.int (0 : Int32)), .val (.int (g 0))] []))
    refine GoOn.step (fun t₀ k₀ => XS.iload X0.here hx rfl (hb hby d9_23) rfl k₀) ?_
    show GoOn p e below _ (s₁.setTop (mkF m 25 #[.val (.ref ca), .val (.int (0 : Int32)), .val (.ref b), .val (.int (0 : Int32)), .val (.int (1 : Int32)), .val (.int (0 : Int32)), .val (.int (g 0))] [(.int (0 : Int32))]))
    exact GoOn.retI X0 hx hrt hlk (hb hby d9_25) (by decide) (by decide) (by first | exact ⟨_, rfl, N0, K0, Or.inr ⟨⟨by decide, by decide, by decide⟩, q0⟩⟩ | (rw [e0]; exact ⟨_, rfl, N0, K0, Or.inr ⟨⟨by decide, by decide, by decide⟩, q0⟩⟩))
  · refine GoOn.step (fun t₀ k₀ => XS.icmpYes X0.here hx rfl (pc0 := 20) (pc' := 26) rfl (hb hby d9_20) rfl (flt q0).2.2.2 (by decide) (by decide) k₀) ?_
    show GoOn p e below _ (s₁.setTop (mkF m 26 #[.val (.ref ca), .val (.int (0 : Int32)), .val (.ref b), .val (.int (0 : Int32)), .val (.int (1 : Int32)), .val (.int (0 : Int32)), .val (.int (g 0))] []))
    refine GoOn.step (fun t₀ k₀ => XS.aloadN X0.here hx rfl (hb hby d9_26) rfl rfl k₀) ?_
    show GoOn p e below _ (s₁.setTop (mkF m 27 #[.val (.ref ca), .val (.int (0 : Int32)), .val (.ref b), .val (.int (0 : Int32)), .val (.int (1 : Int32)), .val (.int (0 : Int32)), .val (.int (g 0))] [(.ref b)]))
    refine GoOn.step (fun t₀ k₀ => XS.iloadN X0.here hx rfl (hb hby d9_27) rfl k₀) ?_
    show GoOn p e below _ (s₁.setTop (mkF m 28 #[.val (.ref ca), .val (.int (0 : Int32)), .val (.ref b), .val (.int (0 : Int32)), .val (.int (1 : Int32)), .val (.int (0 : Int32)), .val (.int (g 0))] [(.int (0 : Int32)), (.ref b)]))
    refine GoOn.step (fun t₀ k₀ => XS.iload X0.here hx rfl (hb hby d9_28) rfl k₀) ?_
    show GoOn p e below _ (s₁.setTop (mkF m 30 #[.val (.ref ca), .val (.int (0 : Int32)), .val (.ref b), .val (.int (0 : Int32)), .val (.int (1 : Int32)), .val (.int (0 : Int32)), .val (.int (g 0))] [(.int (g 0)), (.int (0 : Int32)), (.ref b)]))
    refine GoOn.step (fun t₀ k₀ => XS.i2b X0.here hx rfl (hb hby d9_30) rfl k₀) ?_
    show GoOn p e below _ (s₁.setTop (mkF m 31 #[.val (.ref ca), .val (.int (0 : Int32)), .val (.ref b), .val (.int (0 : Int32)), .val (.int (1 : Int32)), .val (.int (0 : Int32)), .val (.int (g 0))] [(.int ((g 0).toInt8.toInt32)), (.int (0 : Int32)), (.ref b)]))
    obtain ⟨T48, h48, X48, e48, W48, st48⟩ := kStB X0 hx hZ e0 Jb (j := (0 : Int32)) ⟨by decide, by decide⟩ (g := (mkF m 31 #[.val (.ref ca), .val (.int (0 : Int32)), .val (.ref b), .val (.int (0 : Int32)), .val (.int (1 : Int32)), .val (.int (0 : Int32)), .val (.int (g 0))] [(.int ((g 0).toInt8.toInt32)), (.int (0 : Int32)), (.ref b)])) rfl rfl (hb hby d9_31)
    replace N0 := Fr.snoc X48 N0 gb
    replace Jc := Jc.other W48 ncb
    replace Jb := Jb.set W48
    replace Z0 := Nat.le_trans Z0 (Nat.le_of_eq W48.size.symm)
    replace K0 := K0.wr W48 (Or.inl (by simp))
    refine GoOn.step st48 ?_
    show GoOn p e below _ (T48.setTop (mkF m 32 #[.val (.ref ca), .val (.int (0 : Int32)), .val (.ref b), .val (.int (0 : Int32)), .val (.int (1 : Int32)), .val (.int (0 : Int32)), .val (.int (g 0))] []))
    refine GoOn.step (fun t₀ k₀ => XS.iinc X48.here hx rfl (hb hby d9_32) rfl (l' := #[.val (.ref ca), .val (.int ((0 : Int32) + (1 : Int32))), .val (.ref b), .val (.int (0 : Int32)), .val (.int (1 : Int32)), .val (.int (0 : Int32)), .val (.int (g 0))]) rfl k₀) ?_
    show GoOn p e below _ (T48.setTop (mkF m 35 #[.val (.ref ca), .val (.int ((0 : Int32) + (1 : Int32))), .val (.ref b), .val (.int (0 : Int32)), .val (.int (1 : Int32)), .val (.int (0 : Int32)), .val (.int (g 0))] []))
    refine GoOn.step (fun t₀ k₀ => XS.iinc X48.here hx rfl (hb hby d9_35) rfl (l' := #[.val (.ref ca), .val (.int ((0 : Int32) + (1 : Int32))), .val (.ref b), .val (.int ((0 : Int32) + (1 : Int32))), .val (.int (1 : Int32)), .val (.int (0 : Int32)), .val (.int (g 0))]) rfl k₀) ?_
    show GoOn p e below _ (T48.setTop (mkF m 38 #[.val (.ref ca), .val (.int ((0 : Int32) + (1 : Int32))), .val (.ref b), .val (.int ((0 : Int32) + (1 : Int32))), .val (.int (1 : Int32)), .val (.int (0 : Int32)), .val (.int (g 0))] []))
    refine GoOn.step (fun t₀ k₀ => XS.iinc X48.here hx rfl (hb hby d9_38) rfl (l' := #[.val (.ref ca), .val (.int ((0 : Int32) + (1 : Int32))), .val (.ref b), .val (.int ((0 : Int32) + (1 : Int32))), .val (.int (1 : Int32)), .val (.int ((0 : Int32) + (1 : Int32))), .val (.int (g 0))]) rfl k₀) ?_
    show GoOn p e below _ (T48.setTop (mkF m 41 #[.val (.ref ca), .val (.int ((0 : Int32) + (1 : Int32))), .val (.ref b), .val (.int ((0 : Int32) + (1 : Int32))), .val (.int (1 : Int32)), .val (.int ((0 : Int32) + (1 : Int32))), .val (.int (g 0))] []))
    rw [show ((0 : Int32) + (1 : Int32)) = (1 : Int32) from (by decide)]
    refine GoOn.step (fun t₀ k₀ => XS.goto X48.here hx rfl (pc0 := 41) (pc' := 3) rfl (hb hby d9_41) (by decide) (by decide) k₀) ?_
    show GoOn p e below _ (T48.setTop (mkF m 3 #[.val (.ref ca), .val (.int (1 : Int32)), .val (.ref b), .val (.int (1 : Int32)), .val (.int (1 : Int32)), .val (.int (1 : Int32)), .val (.int (g 0))] []))
    refine GoOn.step (fun t₀ k₀ => XS.iload X48.here hx rfl (hb hby d9_3) rfl k₀) ?_
    show GoOn p e below _ (T48.setTop (mkF m 5 #[.val (.ref ca), .val (.int (1 : Int32)), .val (.ref b), .val (.int (1 : Int32)), .val (.int (1 : Int32)), .val (.int (1 : Int32)), .val (.int (g 0))] [(.int (1 : Int32))]))
    refine GoOn.step (fun t₀ k₀ => XS.iload X48.here hx rfl (hb hby d9_5) rfl k₀) ?_
    show GoOn p e below _ (T48.setTop (mkF m 7 #[.val (.ref ca), .val (.int (1 : Int32)), .val (.ref b), .val (.int (1 : Int32)), .val (.int (1 : Int32)), .val (.int (1 : Int32)), .val (.int (g 0))] [(.int (1 : Int32)), (.int (1 : Int32))]))
    have hf49 : ¬ ((1 : Int32) < (1 : Int32)) := (by decide)
    refine GoOn.step (fun t₀ k₀ => XS.icmpYes X48.here hx rfl (pc0 := 7) (pc' := 44) rfl (hb hby d9_7) rfl (flt hf49).2.1 (by decide) (by decide) k₀) ?_
    show GoOn p e below _ (T48.setTop (mkF m 44 #[.val (.ref ca), .val (.int (1 : Int32)), .val (.ref b), .val (.int (1 : Int32)), .val (.int (1 : Int32)), .val (.int (1 : Int32)), .val (.int (g 0))] []))
    refine GoOn.step (fun t₀ k₀ => XS.iload X48.here hx rfl (hb hby d9_44) rfl k₀) ?_
    show GoOn p e below _ (T48.setTop (mkF m 46 #[.val (.ref ca), .val (.int (1 : Int32)), .val (.ref b), .val (.int (1 : Int32)), .val (.int (1 : Int32)), .val (.int (1 : Int32)), .val (.int (g 0))] [(.int (1 : Int32))]))
    exact GoOn.retI X48 hx hrt hlk (hb hby d9_46) (by decide) (by decide) (by first | exact ⟨_, rfl, N0, K0, Or.inl ⟨rfl, _, Jb, la1_1 ⟨by simp [nc0, nc1, nc2, fixB, laB], le255 q0⟩⟩⟩ | (rw [e48]; exact ⟨_, rfl, N0, K0, Or.inl ⟨rfl, _, Jb, la1_1 ⟨by simp [nc0, nc1, nc2, fixB, laB], le255 q0⟩⟩⟩))
theorem ef_c_c3_1 (m : MethodId) (x0 : Addr) (x1 : Int32) (x2 : Int32) : entryFrame m #[(.ref x0), (.int x1), (.int x2)] 6 = mkF m 0 #[.val (.ref x0), .val (.int x1), .val (.int x2), .unset, .unset, .unset] [] := by first | (simp [entryFrame, mkF, argsToLocals, Value.category]; done) | rfl
set_option maxRecDepth 65536 in
set_option maxHeartbeats 40000000 in
theorem c_c3_1 (l : Launch) (Z : State) (a0 : Array Value) (hw : ∀ d ∈ tables_1, d.before a0 Z = true) (ca : Addr) (g : Nat → Int32) (cs : Int32) (fv : Value) (h0 : Heap) (n0 : Nat) (Z0 : n0 ≤ h0.size) (O : Old Z n0 h0) (SS : Stt Z cs fv) (Jc : Jar Z h0 ca .char 1 (fun i => .int (g i))) (Cg : Chr g) :
    Con l Z (⟨"java/lang/StringUTF16", "compress", "([CII)[B"⟩ : MethodName) jdk_52_method_16_code 6 (some (.array .byte)) ({ frames := 3, cells := 2, slots := 3, locals := 64 } : Room) #[(.ref ca), (.int (0 : Int32)), (.int (1 : Int32))] h0 (C3Q Z 1 g h0 n0) := by
  refine Con.intro (plainFor_of_name pn_4) ?_
  intro p e s m below meth c s₁ hx hby hml hrt hlk hZ hown hnm X0 e0
  replace hown : s.vm.findClass "java/lang/StringUTF16" = some m.cls := hown
  have N0 := Fr.nil n0
  refine GoOn.cast (ef_c_c3_1 m ca (0 : Int32) (1 : Int32)) ?_
  show GoOn p e below _ (s₁.setTop (mkF m 0 #[.val (.ref ca), .val (.int (0 : Int32)), .val (.int (1 : Int32)), .unset, .unset, .unset] []))
  have K0 : Keep h0 h0 [] := Keep.refl _ _
  refine GoOn.step (fun t₀ k₀ => XS.iloadN X0.here hx rfl (hb hby d8_0) rfl k₀) ?_
  show GoOn p e below _ (s₁.setTop (mkF m 1 #[.val (.ref ca), .val (.int (0 : Int32)), .val (.int (1 : Int32)), .unset, .unset, .unset] [(.int (1 : Int32))]))
  obtain ⟨T50, h50, k50, X50, e50, E50, A50, st50⟩ := newP X0 hx hZ (hw _ (List.mem_of_getElem? (i := 16) rfl)) e0 (g := (mkF m 1 #[.val (.ref ca), .val (.int (0 : Int32)), .val (.int (1 : Int32)), .unset, .unset, .unset] [(.int (1 : Int32))])) rfl (hb hby d8_1) rfl (by decide) (cap := 1) (by decide) (by decide) (by decide) (by decide)
  obtain ⟨b, g50⟩ : ∃ z, z = h0.size := ⟨_, rfl⟩
  rw [← g50] at A50 st50
  have lt_ca_b : ca < b := by rw [g50]; exact Jc.lt
  have ne_ca_b : ca ≠ b := Nat.ne_of_lt lt_ca_b
  have le_b : n0 ≤ b := by rw [g50]; exact Z0
  have sz_b : h0.size ≤ b := by rw [g50]; exact K0.1
  replace Jc := Jc.ext E50
  replace O := O.ext E50
  replace Z0 := Nat.le_trans Z0 E50.1
  replace K0 := K0.ext E50
  have J_b : Jar Z h50 b .byte 1 (fun _ => defaultValue .byte) := Jar.new A50 (by decide)
  refine GoOn.step st50 ?_
  show GoOn p e below _ (T50.setTop (mkF m 3 #[.val (.ref ca), .val (.int (0 : Int32)), .val (.int (1 : Int32)), .unset, .unset, .unset] [(.ref b)]))
  refine GoOn.step (fun t₀ k₀ => XS.astoreN X50.here hx rfl (hb hby d8_3) rfl rfl (l' := #[.val (.ref ca), .val (.int (0 : Int32)), .val (.int (1 : Int32)), .val (.ref b), .unset, .unset]) rfl k₀) ?_
  show GoOn p e below _ (T50.setTop (mkF m 4 #[.val (.ref ca), .val (.int (0 : Int32)), .val (.int (1 : Int32)), .val (.ref b), .unset, .unset] []))
  refine GoOn.step (fun t₀ k₀ => XS.aloadN X50.here hx rfl (hb hby d8_4) rfl rfl k₀) ?_
  show GoOn p e below _ (T50.setTop (mkF m 5 #[.val (.ref ca), .val (.int (0 : Int32)), .val (.int (1 : Int32)), .val (.ref b), .unset, .unset] [(.ref ca)]))
  refine GoOn.step (fun t₀ k₀ => XS.iloadN X50.here hx rfl (hb hby d8_5) rfl k₀) ?_
  show GoOn p e below _ (T50.setTop (mkF m 6 #[.val (.ref ca), .val (.int (0 : Int32)), .val (.int (1 : Int32)), .val (.ref b), .unset, .unset] [(.int (0 : Int32)), (.ref ca)]))
  refine GoOn.step (fun t₀ k₀ => XS.aloadN X50.here hx rfl (hb hby d8_6) rfl rfl k₀) ?_
  show GoOn p e below _ (T50.setTop (mkF m 7 #[.val (.ref ca), .val (.int (0 : Int32)), .val (.int (1 : Int32)), .val (.ref b), .unset, .unset] [(.ref b), (.int (0 : Int32)), (.ref ca)]))
  refine GoOn.step (fun t₀ k₀ => XS.iconst X50.here hx rfl (hb hby d8_7) k₀) ?_
  show GoOn p e below _ (T50.setTop (mkF m 8 #[.val (.ref ca), .val (.int (0 : Int32)), .val (.int (1 : Int32)), .val (.ref b), .unset, .unset] [(.int (0 : Int32)), (.ref b), (.int (0 : Int32)), (.ref ca)]))
  refine GoOn.step (fun t₀ k₀ => XS.iloadN X50.here hx rfl (hb hby d8_8) rfl k₀) ?_
  show GoOn p e below _ (T50.setTop (mkF m 9 #[.val (.ref ca), .val (.int (0 : Int32)), .val (.int (1 : Int32)), .val (.ref b), .unset, .unset] [(.int (1 : Int32)), (.int (0 : Int32)), (.ref b), (.int (0 : Int32)), (.ref ca)]))
  obtain ⟨_, T51, L51, X51, hQ51, st51⟩ := kCallS X50 hx hZ (argsL := [(.ref ca), (.int (0 : Int32)), (.ref b), (.int (0 : Int32)), (.int (1 : Int32))]) (rest := []) (c_c5_1 l Z a0 hw ca b g _ h50 n0 Z0 Jc J_b le_b ne_ca_b) hown (hw _ (List.mem_of_getElem? (i := 46) rfl)) (hw _ (List.mem_of_getElem? (i := 47) rfl)) (hw _ (List.mem_of_getElem? (i := 44) rfl)) (hw _ (List.mem_of_getElem? (i := 48) rfl)) (by decide) e50 (g := (mkF m 9 #[.val (.ref ca), .val (.int (0 : Int32)), .val (.int (1 : Int32)), .val (.ref b), .unset, .unset] [(.int (1 : Int32)), (.int (0 : Int32)), (.ref b), (.int (0 : Int32)), (.ref ca)])) rfl (by rw [hml]; rfl) (lenOf pd_10 rfl) rfl (W := 0) (by show 2 * 0 + _ ≤ _; exact Nat.le_of_eq rfl) (hb hby d8_9) (by decide) (by decide) (by decide) (by decide)
  obtain ⟨r, rfl, N51, K51, HD⟩ := hQ51
  replace N0 := Fr.app N0 N51
  replace K0 := K0.trans K51 (allS (Or.inr sz_b) all0)
  replace Jc := Jc.keep K51 (ninS ne_ca_b nin0)
  clear J_b
  replace O := O.keep K51 (allS le_b all0)
  replace Z0 := Nat.le_trans Z0 K51.1
  refine GoOn.step st51 ?_
  show GoOn p e below _ (T51.setTop (mkF m 12 #[.val (.ref ca), .val (.int (0 : Int32)), .val (.int (1 : Int32)), .val (.ref b), .unset, .unset] [(.int r)]))
  refine GoOn.step (fun t₀ k₀ => XS.istore X51.here hx rfl (hb hby d8_12) rfl (l' := #[.val (.ref ca), .val (.int (0 : Int32)), .val (.int (1 : Int32)), .val (.ref b), .val (.int r), .unset]) rfl k₀) ?_
  show GoOn p e below _ (T51.setTop (mkF m 14 #[.val (.ref ca), .val (.int (0 : Int32)), .val (.int (1 : Int32)), .val (.ref b), .val (.int r), .unset] []))
  refine GoOn.step (fun t₀ k₀ => XS.iload X51.here hx rfl (hb hby d8_14) rfl k₀) ?_
  show GoOn p e below _ (T51.setTop (mkF m 16 #[.val (.ref ca), .val (.int (0 : Int32)), .val (.int (1 : Int32)), .val (.ref b), .val (.int r), .unset] [(.int r)]))
  refine GoOn.step (fun t₀ k₀ => XS.iloadN X51.here hx rfl (hb hby d8_16) rfl k₀) ?_
  show GoOn p e below _ (T51.setTop (mkF m 17 #[.val (.ref ca), .val (.int (0 : Int32)), .val (.int (1 : Int32)), .val (.ref b), .val (.int r), .unset] [(.int (1 : Int32)), (.int r)]))
  rcases HD with ⟨rfl, f, Jb, hl⟩ | ⟨hr, hl⟩
  · have hf52 : (1 : Int32) = (1 : Int32) := rfl
    refine GoOn.step (fun t₀ k₀ => XS.icmpYes X51.here hx rfl (pc0 := 17) (pc' := 57) rfl (hb hby d8_17) rfl (teq hf52).1 (by decide) (by decide) k₀) ?_
    show GoOn p e below _ (T51.setTop (mkF m 57 #[.val (.ref ca), .val (.int (0 : Int32)), .val (.int (1 : Int32)), .val (.ref b), .val (.int (1 : Int32)), .unset] []))
    refine GoOn.step (fun t₀ k₀ => XS.aloadN X51.here hx rfl (hb hby d8_57) rfl rfl k₀) ?_
    show GoOn p e below _ (T51.setTop (mkF m 58 #[.val (.ref ca), .val (.int (0 : Int32)), .val (.int (1 : Int32)), .val (.ref b), .val (.int (1 : Int32)), .unset] [(.ref b)]))
    exact GoOn.retR X51 hx hrt rfl hlk rfl (hb hby d8_58) (by decide) (by decide) ⟨b, f, _, rfl, N0, K0, sz_b, Jb, Or.inl ⟨rfl, hl⟩⟩
  · have hf53 : ¬ (r = (1 : Int32)) := hr.2.2
    refine GoOn.step (fun t₀ k₀ => XS.icmpNo X51.here hx rfl (hb hby d8_17) rfl (feq hf53).1 k₀) ?_
    show GoOn p e below _ (T51.setTop (mkF m 20 #[.val (.ref ca), .val (.int (0 : Int32)), .val (.int (1 : Int32)), .val (.ref b), .val (.int r), .unset] []))
    refine GoOn.step (fun t₀ k₀ => XS.aloadN X51.here hx rfl (hb hby d8_20) rfl rfl k₀) ?_
    show GoOn p e below _ (T51.setTop (mkF m 21 #[.val (.ref ca), .val (.int (0 : Int32)), .val (.int (1 : Int32)), .val (.ref b), .val (.int r), .unset] [(.ref ca)]))
    refine GoOn.step (fun t₀ k₀ => XS.iloadN X51.here hx rfl (hb hby d8_21) rfl k₀) ?_
    show GoOn p e below _ (T51.setTop (mkF m 22 #[.val (.ref ca), .val (.int (0 : Int32)), .val (.int (1 : Int32)), .val (.ref b), .val (.int r), .unset] [(.int (0 : Int32)), (.ref ca)]))
    refine GoOn.step (fun t₀ k₀ => XS.iloadN X51.here hx rfl (hb hby d8_22) rfl k₀) ?_
    show GoOn p e below _ (T51.setTop (mkF m 23 #[.val (.ref ca), .val (.int (0 : Int32)), .val (.int (1 : Int32)), .val (.ref b), .val (.int r), .unset] [(.int (1 : Int32)), (.int (0 : Int32)), (.ref ca)]))
    obtain ⟨_, T54, L54, X54, hQ54, st54⟩ := kCallS X51 hx hZ (argsL := [(.ref ca), (.int (0 : Int32)), (.int (1 : Int32))]) (rest := []) (c_tb1 l Z a0 hw ca g cs fv T51.heap n0 Z0 O SS Jc) hown (hw _ (List.mem_of_getElem? (i := 74) rfl)) (hw _ (List.mem_of_getElem? (i := 75) rfl)) (hw _ (List.mem_of_getElem? (i := 44) rfl)) (hw _ (List.mem_of_getElem? (i := 76) rfl)) (by decide) rfl (g := (mkF m 23 #[.val (.ref ca), .val (.int (0 : Int32)), .val (.int (1 : Int32)), .val (.ref b), .val (.int r), .unset] [(.int (1 : Int32)), (.int (0 : Int32)), (.ref ca)])) rfl (by rw [hml]; rfl) (lenOf pd_11 rfl) rfl (W := 0) (by show 2 * 0 + _ ≤ _; exact Nat.le_of_eq rfl) (hb hby d8_23) (by decide) (by decide) (by decide) (by decide)
    obtain ⟨y, f, rfl, N54, K54, sy, J54, hu⟩ := hQ54
    replace N0 := Fr.app N0 N54
    have sz2 := Nat.le_trans K0.1 sy
    replace K0 := K0.trans K54 all0
    replace Jc := Jc.keep K54 nin0
    replace O := O.keep K54 all0
    replace Z0 := Nat.le_trans Z0 K54.1
    have Jb := J54
    refine GoOn.step st54 ?_
    show GoOn p e below _ (T54.setTop (mkF m 26 #[.val (.ref ca), .val (.int (0 : Int32)), .val (.int (1 : Int32)), .val (.ref b), .val (.int r), .unset] [(.ref y)]))
    refine GoOn.step (fun t₀ k₀ => XS.astore X54.here hx rfl (hb hby d8_26) rfl rfl (l' := #[.val (.ref ca), .val (.int (0 : Int32)), .val (.int (1 : Int32)), .val (.ref b), .val (.int r), .val (.ref y)]) rfl k₀) ?_
    show GoOn p e below _ (T54.setTop (mkF m 28 #[.val (.ref ca), .val (.int (0 : Int32)), .val (.int (1 : Int32)), .val (.ref b), .val (.int r), .val (.ref y)] []))
    refine GoOn.step (fun t₀ k₀ => XS.aload X54.here hx rfl (hb hby d8_28) rfl rfl k₀) ?_
    show GoOn p e below _ (T54.setTop (mkF m 30 #[.val (.ref ca), .val (.int (0 : Int32)), .val (.int (1 : Int32)), .val (.ref b), .val (.int r), .val (.ref y)] [(.ref y)]))
    refine GoOn.step (fun t₀ k₀ => XS.iload X54.here hx rfl (hb hby d8_30) rfl k₀) ?_
    show GoOn p e below _ (T54.setTop (mkF m 32 #[.val (.ref ca), .val (.int (0 : Int32)), .val (.int (1 : Int32)), .val (.ref b), .val (.int r), .val (.ref y)] [(.int r), (.ref y)]))
    have hru := hu r.toNatClampNeg (by have := clN hr.1; omega)
    obtain ⟨_, T55, L55, X55, hQ55, st55⟩ := kCallS X54 hx hZ (argsL := [(.ref y), (.int r)]) (rest := []) (c_gc l Z a0 hw y r (g r.toNatClampNeg) (2 * 1) f cs fv T54.heap n0 O SS Jb (by decide) ⟨hr.1, by omega⟩ hru.1 hru.2 (Cg _)) hown (hw _ (List.mem_of_getElem? (i := 90) rfl)) (hw _ (List.mem_of_getElem? (i := 91) rfl)) (hw _ (List.mem_of_getElem? (i := 44) rfl)) (hw _ (List.mem_of_getElem? (i := 92) rfl)) (by decide) rfl (g := (mkF m 32 #[.val (.ref ca), .val (.int (0 : Int32)), .val (.int (1 : Int32)), .val (.ref b), .val (.int r), .val (.ref y)] [(.int r), (.ref y)])) rfl (by rw [hml]; rfl) (lenOf pd_5 rfl) rfl (W := 0) (by show 2 * 0 + _ ≤ _; exact Nat.le_of_eq rfl) (hb hby d8_32) (by decide) (by decide) (by decide) (by decide)
    obtain ⟨rfl, rfl, e55⟩ := hQ55
    rw [List.append_nil] at X55
    refine GoOn.step st55 ?_
    show GoOn p e below _ (T55.setTop (mkF m 35 #[.val (.ref ca), .val (.int (0 : Int32)), .val (.int (1 : Int32)), .val (.ref b), .val (.int r), .val (.ref y)] [(.int (g r.toNatClampNeg))]))
    refine GoOn.step (fun t₀ k₀ => XS.sipush X55.here hx rfl (hb hby d8_35) k₀) ?_
    show GoOn p e below _ (T55.setTop (mkF m 38 #[.val (.ref ca), .val (.int (0 : Int32)), .val (.int (1 : Int32)), .val (.ref b), .val (.int r), .val (.ref y)] [(.int (255 : Int32)), (.int (g r.toNatClampNeg))]))
    have hf56 : (255 : Int32) < (g r.toNatClampNeg) := hl
    refine GoOn.step (fun t₀ k₀ => XS.icmpYes X55.here hx rfl (pc0 := 38) (pc' := 54) rfl (hb hby d8_38) rfl (tlt hf56).2.2.1 (by decide) (by decide) k₀) ?_
    show GoOn p e below _ (T55.setTop (mkF m 54 #[.val (.ref ca), .val (.int (0 : Int32)), .val (.int (1 : Int32)), .val (.ref b), .val (.int r), .val (.ref y)] []))
    refine GoOn.step (fun t₀ k₀ => XS.aload X55.here hx rfl (hb hby d8_54) rfl rfl k₀) ?_
    show GoOn p e below _ (T55.setTop (mkF m 56 #[.val (.ref ca), .val (.int (0 : Int32)), .val (.int (1 : Int32)), .val (.ref b), .val (.int r), .val (.ref y)] [(.ref y)]))
    exact GoOn.retR X55 hx hrt rfl hlk rfl (hb hby d8_56) (by decide) (by decide) (by first | exact ⟨y, f, _, rfl, N0, K0, sz2, Jb, Or.inr ⟨rfl, hu⟩⟩ | (rw [e55]; exact ⟨y, f, _, rfl, N0, K0, sz2, Jb, Or.inr ⟨rfl, hu⟩⟩))
theorem ef_c_tb2 (m : MethodId) (x0 : Addr) (x1 : Int32) (x2 : Int32) : entryFrame m #[(.ref x0), (.int x1), (.int x2)] 5 = mkF m 0 #[.val (.ref x0), .val (.int x1), .val (.int x2), .unset, .unset] [] := by first | (simp [entryFrame, mkF, argsToLocals, Value.category]; done) | rfl
set_option maxRecDepth 65536 in
set_option maxHeartbeats 40000000 in
theorem c_tb2 (l : Launch) (Z : State) (a0 : Array Value) (hw : ∀ d ∈ tables_1, d.before a0 Z = true) (ca : Addr) (g : Nat → Int32) (cs : Int32) (fv : Value) (h0 : Heap) (n0 : Nat) (Z0 : n0 ≤ h0.size) (O : Old Z n0 h0) (SS : Stt Z cs fv) (Jc : Jar Z h0 ca .char 2 (fun i => .int (g i))) :
    Con l Z (⟨"java/lang/StringUTF16", "toBytes", "([CII)[B"⟩ : MethodName) jdk_52_method_14_code 5 (some (.array .byte)) ({ frames := 2, cells := 1, slots := 4, locals := 32 } : Room) #[(.ref ca), (.int (0 : Int32)), (.int (2 : Int32))] h0 (TbQ Z 2 g h0 n0) := by
  refine Con.intro (plainFor_of_name pn_4) ?_
  intro p e s m below meth c s₁ hx hby hml hrt hlk hZ hown hnm X0 e0
  replace hown : s.vm.findClass "java/lang/StringUTF16" = some m.cls := hown
  have N0 := Fr.nil n0
  refine GoOn.cast (ef_c_tb2 m ca (0 : Int32) (2 : Int32)) ?_
  show GoOn p e below _ (s₁.setTop (mkF m 0 #[.val (.ref ca), .val (.int (0 : Int32)), .val (.int (2 : Int32)), .unset, .unset] []))
  have K0 : Keep h0 h0 [] := Keep.refl _ _
  refine GoOn.step (fun t₀ k₀ => XS.iloadN X0.here hx rfl (hb hby d16_0) rfl k₀) ?_
  show GoOn p e below _ (s₁.setTop (mkF m 1 #[.val (.ref ca), .val (.int (0 : Int32)), .val (.int (2 : Int32)), .unset, .unset] [(.int (2 : Int32))]))
  obtain ⟨_, T57, L57, X57, hQ57, st57⟩ := kCallS X0 hx hZ (argsL := [(.int (2 : Int32))]) (rest := []) (c_nf2 l Z a0 hw h0) hown (hw _ (List.mem_of_getElem? (i := 77) rfl)) (hw _ (List.mem_of_getElem? (i := 78) rfl)) (hw _ (List.mem_of_getElem? (i := 44) rfl)) (hw _ (List.mem_of_getElem? (i := 79) rfl)) (by decide) e0 (g := (mkF m 1 #[.val (.ref ca), .val (.int (0 : Int32)), .val (.int (2 : Int32)), .unset, .unset] [(.int (2 : Int32))])) rfl (by rw [hml]; rfl) (lenOf pd_8 rfl) rfl (W := 0) (by show 2 * 0 + _ ≤ _; exact Nat.le_of_eq rfl) (hb hby d16_1) (by decide) (by decide) (by decide) (by decide)
  obtain ⟨b, rfl, rfl, E57, szb, Jb⟩ := hQ57
  rw [List.append_nil] at X57
  have ne_ca_b : ca ≠ b := Nat.ne_of_lt (Nat.lt_of_lt_of_le Jc.lt szb)
  have le_b : n0 ≤ b := Nat.le_trans Z0 szb
  replace Jc := Jc.ext E57
  replace O := O.ext E57
  replace Z0 := Nat.le_trans Z0 E57.1
  replace K0 := K0.ext E57
  refine GoOn.step st57 ?_
  show GoOn p e below _ (T57.setTop (mkF m 4 #[.val (.ref ca), .val (.int (0 : Int32)), .val (.int (2 : Int32)), .unset, .unset] [(.ref b)]))
  refine GoOn.step (fun t₀ k₀ => XS.astoreN X57.here hx rfl (hb hby d16_4) rfl rfl (l' := #[.val (.ref ca), .val (.int (0 : Int32)), .val (.int (2 : Int32)), .val (.ref b), .unset]) rfl k₀) ?_
  show GoOn p e below _ (T57.setTop (mkF m 5 #[.val (.ref ca), .val (.int (0 : Int32)), .val (.int (2 : Int32)), .val (.ref b), .unset] []))
  refine GoOn.step (fun t₀ k₀ => XS.iconst X57.here hx rfl (hb hby d16_5) k₀) ?_
  show GoOn p e below _ (T57.setTop (mkF m 6 #[.val (.ref ca), .val (.int (0 : Int32)), .val (.int (2 : Int32)), .val (.ref b), .unset] [(.int (0 : Int32))]))
  refine GoOn.step (fun t₀ k₀ => XS.istore X57.here hx rfl (hb hby d16_6) rfl (l' := #[.val (.ref ca), .val (.int (0 : Int32)), .val (.int (2 : Int32)), .val (.ref b), .val (.int (0 : Int32))]) rfl k₀) ?_
  show GoOn p e below _ (T57.setTop (mkF m 8 #[.val (.ref ca), .val (.int (0 : Int32)), .val (.int (2 : Int32)), .val (.ref b), .val (.int (0 : Int32))] []))
  refine GoOn.step (fun t₀ k₀ => XS.iload X57.here hx rfl (hb hby d16_8) rfl k₀) ?_
  show GoOn p e below _ (T57.setTop (mkF m 10 #[.val (.ref ca), .val (.int (0 : Int32)), .val (.int (2 : Int32)), .val (.ref b), .val (.int (0 : Int32))] [(.int (0 : Int32))]))
  refine GoOn.step (fun t₀ k₀ => XS.iloadN X57.here hx rfl (hb hby d16_10) rfl k₀) ?_
  show GoOn p e below _ (T57.setTop (mkF m 11 #[.val (.ref ca), .val (.int (0 : Int32)), .val (.int (2 : Int32)), .val (.ref b), .val (.int (0 : Int32))] [(.int (2 : Int32)), (.int (0 : Int32))]))
  have hf58 : (0 : Int32) < (2 : Int32) := (by decide)
  refine GoOn.step (fun t₀ k₀ => XS.icmpNo X57.here hx rfl (hb hby d16_11) rfl (tlt hf58).2.1 k₀) ?_
  show GoOn p e below _ (T57.setTop (mkF m 14 #[.val (.ref ca), .val (.int (0 : Int32)), .val (.int (2 : Int32)), .val (.ref b), .val (.int (0 : Int32))] []))
  refine GoOn.step (fun t₀ k₀ => XS.aloadN X57.here hx rfl (hb hby d16_14) rfl rfl k₀) ?_
  show GoOn p e below _ (T57.setTop (mkF m 15 #[.val (.ref ca), .val (.int (0 : Int32)), .val (.int (2 : Int32)), .val (.ref b), .val (.int (0 : Int32))] [(.ref b)]))
  refine GoOn.step (fun t₀ k₀ => XS.iload X57.here hx rfl (hb hby d16_15) rfl k₀) ?_
  show GoOn p e below _ (T57.setTop (mkF m 17 #[.val (.ref ca), .val (.int (0 : Int32)), .val (.int (2 : Int32)), .val (.ref b), .val (.int (0 : Int32))] [(.int (0 : Int32)), (.ref b)]))
  refine GoOn.step (fun t₀ k₀ => XS.aloadN X57.here hx rfl (hb hby d16_17) rfl rfl k₀) ?_
  show GoOn p e below _ (T57.setTop (mkF m 18 #[.val (.ref ca), .val (.int (0 : Int32)), .val (.int (2 : Int32)), .val (.ref b), .val (.int (0 : Int32))] [(.ref ca), (.int (0 : Int32)), (.ref b)]))
  refine GoOn.step (fun t₀ k₀ => XS.iloadN X57.here hx rfl (hb hby d16_18) rfl k₀) ?_
  show GoOn p e below _ (T57.setTop (mkF m 19 #[.val (.ref ca), .val (.int (0 : Int32)), .val (.int (2 : Int32)), .val (.ref b), .val (.int (0 : Int32))] [(.int (0 : Int32)), (.ref ca), (.int (0 : Int32)), (.ref b)]))
  refine GoOn.step (fun t₀ k₀ => kLdC X57 hx hZ rfl Jc (j := (0 : Int32)) (v := (.int (g 0))) ⟨by decide, by decide⟩ rfl (g := (mkF m 19 #[.val (.ref ca), .val (.int (0 : Int32)), .val (.int (2 : Int32)), .val (.ref b), .val (.int (0 : Int32))] [(.int (0 : Int32)), (.ref ca), (.int (0 : Int32)), (.ref b)])) rfl rfl (hb hby d16_19) t₀ k₀) ?_
  show GoOn p e below _ (T57.setTop (mkF m 20 #[.val (.ref ca), .val (.int (0 : Int32)), .val (.int (2 : Int32)), .val (.ref b), .val (.int (0 : Int32))] [(.int (g 0)), (.int (0 : Int32)), (.ref b)]))
  obtain ⟨_, T59, L59, X59, hQ59, st59⟩ := kCallS X57 hx hZ (argsL := [(.ref b), (.int (0 : Int32)), (.int (g 0))]) (rest := []) (c_pu l Z a0 hw b (0 : Int32) (g 0) (2 * 2) (fun _ => defaultValue .byte) cs fv T57.heap n0 Z0 O SS Jb (by decide) ⟨by decide, by decide⟩ le_b) hown (hw _ (List.mem_of_getElem? (i := 84) rfl)) (hw _ (List.mem_of_getElem? (i := 85) rfl)) (hw _ (List.mem_of_getElem? (i := 44) rfl)) (hw _ (List.mem_of_getElem? (i := 86) rfl)) (by decide) rfl (g := (mkF m 20 #[.val (.ref ca), .val (.int (0 : Int32)), .val (.int (2 : Int32)), .val (.ref b), .val (.int (0 : Int32))] [(.int (g 0)), (.int (0 : Int32)), (.ref b)])) rfl (by rw [hml]; rfl) (lenOf pd_9 rfl) rfl (W := 0) (by show 2 * 0 + _ ≤ _; exact Nat.le_of_eq rfl) (hb hby d16_20) (by decide) (by decide) (by decide) (by decide)
  obtain ⟨rfl, N59, K59, J59⟩ := hQ59
  replace N0 := Fr.app N0 N59
  replace K0 := K0.trans K59 (allS (Or.inr szb) all0)
  replace Jc := Jc.keep K59 (ninS ne_ca_b nin0)
  clear Jb
  replace O := O.keep K59 (allS le_b all0)
  replace Z0 := Nat.le_trans Z0 K59.1
  have Jb := J59
  refine GoOn.step st59 ?_
  show GoOn p e below _ (T59.setTop (mkF m 23 #[.val (.ref ca), .val (.int (0 : Int32)), .val (.int (2 : Int32)), .val (.ref b), .val (.int (0 : Int32))] []))
  refine GoOn.step (fun t₀ k₀ => XS.iinc X59.here hx rfl (hb hby d16_23) rfl (l' := #[.val (.ref ca), .val (.int ((0 : Int32) + (1 : Int32))), .val (.int (2 : Int32)), .val (.ref b), .val (.int (0 : Int32))]) rfl k₀) ?_
  show GoOn p e below _ (T59.setTop (mkF m 26 #[.val (.ref ca), .val (.int ((0 : Int32) + (1 : Int32))), .val (.int (2 : Int32)), .val (.ref b), .val (.int (0 : Int32))] []))
  refine GoOn.step (fun t₀ k₀ => XS.iinc X59.here hx rfl (hb hby d16_26) rfl (l' := #[.val (.ref ca), .val (.int ((0 : Int32) + (1 : Int32))), .val (.int (2 : Int32)), .val (.ref b), .val (.int ((0 : Int32) + (1 : Int32)))]) rfl k₀) ?_
  show GoOn p e below _ (T59.setTop (mkF m 29 #[.val (.ref ca), .val (.int ((0 : Int32) + (1 : Int32))), .val (.int (2 : Int32)), .val (.ref b), .val (.int ((0 : Int32) + (1 : Int32)))] []))
  rw [show ((0 : Int32) + (1 : Int32)) = (1 : Int32) from (by decide)]
  refine GoOn.step (fun t₀ k₀ => XS.goto X59.here hx rfl (pc0 := 29) (pc' := 8) rfl (hb hby d16_29) (by decide) (by decide) k₀) ?_
  show GoOn p e below _ (T59.setTop (mkF m 8 #[.val (.ref ca), .val (.int (1 : Int32)), .val (.int (2 : Int32)), .val (.ref b), .val (.int (1 : Int32))] []))
  refine GoOn.step (fun t₀ k₀ => XS.iload X59.here hx rfl (hb hby d16_8) rfl k₀) ?_
  show GoOn p e below _ (T59.setTop (mkF m 10 #[.val (.ref ca), .val (.int (1 : Int32)), .val (.int (2 : Int32)), .val (.ref b), .val (.int (1 : Int32))] [(.int (1 : Int32))]))
  refine GoOn.step (fun t₀ k₀ => XS.iloadN X59.here hx rfl (hb hby d16_10) rfl k₀) ?_
  show GoOn p e below _ (T59.setTop (mkF m 11 #[.val (.ref ca), .val (.int (1 : Int32)), .val (.int (2 : Int32)), .val (.ref b), .val (.int (1 : Int32))] [(.int (2 : Int32)), (.int (1 : Int32))]))
  have hf60 : (1 : Int32) < (2 : Int32) := (by decide)
  refine GoOn.step (fun t₀ k₀ => XS.icmpNo X59.here hx rfl (hb hby d16_11) rfl (tlt hf60).2.1 k₀) ?_
  show GoOn p e below _ (T59.setTop (mkF m 14 #[.val (.ref ca), .val (.int (1 : Int32)), .val (.int (2 : Int32)), .val (.ref b), .val (.int (1 : Int32))] []))
  refine GoOn.step (fun t₀ k₀ => XS.aloadN X59.here hx rfl (hb hby d16_14) rfl rfl k₀) ?_
  show GoOn p e below _ (T59.setTop (mkF m 15 #[.val (.ref ca), .val (.int (1 : Int32)), .val (.int (2 : Int32)), .val (.ref b), .val (.int (1 : Int32))] [(.ref b)]))
  refine GoOn.step (fun t₀ k₀ => XS.iload X59.here hx rfl (hb hby d16_15) rfl k₀) ?_
  show GoOn p e below _ (T59.setTop (mkF m 17 #[.val (.ref ca), .val (.int (1 : Int32)), .val (.int (2 : Int32)), .val (.ref b), .val (.int (1 : Int32))] [(.int (1 : Int32)), (.ref b)]))
  refine GoOn.step (fun t₀ k₀ => XS.aloadN X59.here hx rfl (hb hby d16_17) rfl rfl k₀) ?_
  show GoOn p e below _ (T59.setTop (mkF m 18 #[.val (.ref ca), .val (.int (1 : Int32)), .val (.int (2 : Int32)), .val (.ref b), .val (.int (1 : Int32))] [(.ref ca), (.int (1 : Int32)), (.ref b)]))
  refine GoOn.step (fun t₀ k₀ => XS.iloadN X59.here hx rfl (hb hby d16_18) rfl k₀) ?_
  show GoOn p e below _ (T59.setTop (mkF m 19 #[.val (.ref ca), .val (.int (1 : Int32)), .val (.int (2 : Int32)), .val (.ref b), .val (.int (1 : Int32))] [(.int (1 : Int32)), (.ref ca), (.int (1 : Int32)), (.ref b)]))
  refine GoOn.step (fun t₀ k₀ => kLdC X59 hx hZ rfl Jc (j := (1 : Int32)) (v := (.int (g 1))) ⟨by decide, by decide⟩ rfl (g := (mkF m 19 #[.val (.ref ca), .val (.int (1 : Int32)), .val (.int (2 : Int32)), .val (.ref b), .val (.int (1 : Int32))] [(.int (1 : Int32)), (.ref ca), (.int (1 : Int32)), (.ref b)])) rfl rfl (hb hby d16_19) t₀ k₀) ?_
  show GoOn p e below _ (T59.setTop (mkF m 20 #[.val (.ref ca), .val (.int (1 : Int32)), .val (.int (2 : Int32)), .val (.ref b), .val (.int (1 : Int32))] [(.int (g 1)), (.int (1 : Int32)), (.ref b)]))
  obtain ⟨_, T61, L61, X61, hQ61, st61⟩ := kCallS X59 hx hZ (argsL := [(.ref b), (.int (1 : Int32)), (.int (g 1))]) (rest := []) (c_pu l Z a0 hw b (1 : Int32) (g 1) (2 * 2) (pchF (fun _ => defaultValue .byte) (0 : Int32).toNatClampNeg (g 0)) cs fv T59.heap n0 Z0 O SS Jb (by decide) ⟨by decide, by decide⟩ le_b) hown (hw _ (List.mem_of_getElem? (i := 84) rfl)) (hw _ (List.mem_of_getElem? (i := 85) rfl)) (hw _ (List.mem_of_getElem? (i := 44) rfl)) (hw _ (List.mem_of_getElem? (i := 86) rfl)) (by decide) rfl (g := (mkF m 20 #[.val (.ref ca), .val (.int (1 : Int32)), .val (.int (2 : Int32)), .val (.ref b), .val (.int (1 : Int32))] [(.int (g 1)), (.int (1 : Int32)), (.ref b)])) rfl (by rw [hml]; rfl) (lenOf pd_9 rfl) rfl (W := 0) (by show 2 * 0 + _ ≤ _; exact Nat.le_of_eq rfl) (hb hby d16_20) (by decide) (by decide) (by decide) (by decide)
  obtain ⟨rfl, N61, K61, J61⟩ := hQ61
  replace N0 := Fr.app N0 N61
  replace K0 := K0.trans K61 (allS (Or.inr szb) all0)
  replace Jc := Jc.keep K61 (ninS ne_ca_b nin0)
  clear Jb
  replace O := O.keep K61 (allS le_b all0)
  replace Z0 := Nat.le_trans Z0 K61.1
  have Jb := J61
  refine GoOn.step st61 ?_
  show GoOn p e below _ (T61.setTop (mkF m 23 #[.val (.ref ca), .val (.int (1 : Int32)), .val (.int (2 : Int32)), .val (.ref b), .val (.int (1 : Int32))] []))
  refine GoOn.step (fun t₀ k₀ => XS.iinc X61.here hx rfl (hb hby d16_23) rfl (l' := #[.val (.ref ca), .val (.int ((1 : Int32) + (1 : Int32))), .val (.int (2 : Int32)), .val (.ref b), .val (.int (1 : Int32))]) rfl k₀) ?_
  show GoOn p e below _ (T61.setTop (mkF m 26 #[.val (.ref ca), .val (.int ((1 : Int32) + (1 : Int32))), .val (.int (2 : Int32)), .val (.ref b), .val (.int (1 : Int32))] []))
  refine GoOn.step (fun t₀ k₀ => XS.iinc X61.here hx rfl (hb hby d16_26) rfl (l' := #[.val (.ref ca), .val (.int ((1 : Int32) + (1 : Int32))), .val (.int (2 : Int32)), .val (.ref b), .val (.int ((1 : Int32) + (1 : Int32)))]) rfl k₀) ?_
  show GoOn p e below _ (T61.setTop (mkF m 29 #[.val (.ref ca), .val (.int ((1 : Int32) + (1 : Int32))), .val (.int (2 : Int32)), .val (.ref b), .val (.int ((1 : Int32) + (1 : Int32)))] []))
  rw [show ((1 : Int32) + (1 : Int32)) = (2 : Int32) from (by decide)]
  refine GoOn.step (fun t₀ k₀ => XS.goto X61.here hx rfl (pc0 := 29) (pc' := 8) rfl (hb hby d16_29) (by decide) (by decide) k₀) ?_
  show GoOn p e below _ (T61.setTop (mkF m 8 #[.val (.ref ca), .val (.int (2 : Int32)), .val (.int (2 : Int32)), .val (.ref b), .val (.int (2 : Int32))] []))
  refine GoOn.step (fun t₀ k₀ => XS.iload X61.here hx rfl (hb hby d16_8) rfl k₀) ?_
  show GoOn p e below _ (T61.setTop (mkF m 10 #[.val (.ref ca), .val (.int (2 : Int32)), .val (.int (2 : Int32)), .val (.ref b), .val (.int (2 : Int32))] [(.int (2 : Int32))]))
  refine GoOn.step (fun t₀ k₀ => XS.iloadN X61.here hx rfl (hb hby d16_10) rfl k₀) ?_
  show GoOn p e below _ (T61.setTop (mkF m 11 #[.val (.ref ca), .val (.int (2 : Int32)), .val (.int (2 : Int32)), .val (.ref b), .val (.int (2 : Int32))] [(.int (2 : Int32)), (.int (2 : Int32))]))
  have hf62 : ¬ ((2 : Int32) < (2 : Int32)) := (by decide)
  refine GoOn.step (fun t₀ k₀ => XS.icmpYes X61.here hx rfl (pc0 := 11) (pc' := 32) rfl (hb hby d16_11) rfl (flt hf62).2.1 (by decide) (by decide) k₀) ?_
  show GoOn p e below _ (T61.setTop (mkF m 32 #[.val (.ref ca), .val (.int (2 : Int32)), .val (.int (2 : Int32)), .val (.ref b), .val (.int (2 : Int32))] []))
  refine GoOn.step (fun t₀ k₀ => XS.aloadN X61.here hx rfl (hb hby d16_32) rfl rfl k₀) ?_
  show GoOn p e below _ (T61.setTop (mkF m 33 #[.val (.ref ca), .val (.int (2 : Int32)), .val (.int (2 : Int32)), .val (.ref b), .val (.int (2 : Int32))] [(.ref b)]))
  exact GoOn.retR X61 hx hrt rfl hlk rfl (hb hby d16_33) (by decide) (by decide) ⟨b, _, rfl, N0, K0, szb, Jb, u16_2 ⟨by simp [pchF, nc0, nc1, nc2], by simp [pchF, nc0, nc1, nc2]⟩ ⟨by simp [pchF, nc0, nc1, nc2], by simp [pchF, nc0, nc1, nc2]⟩⟩
theorem ef_c_c5_2 (m : MethodId) (x0 : Addr) (x1 : Int32) (x2 : Addr) (x3 : Int32) (x4 : Int32) : entryFrame m #[(.ref x0), (.int x1), (.ref x2), (.int x3), (.int x4)] 7 = mkF m 0 #[.val (.ref x0), .val (.int x1), .val (.ref x2), .val (.int x3), .val (.int x4), .unset, .unset] [] := by first | (simp [entryFrame, mkF, argsToLocals, Value.category]; done) | rfl
set_option maxRecDepth 65536 in
set_option maxHeartbeats 40000000 in
theorem c_c5_2 (l : Launch) (Z : State) (a0 : Array Value) (hw : ∀ d ∈ tables_1, d.before a0 Z = true) (ca b : Addr) (g : Nat → Int32) (f : Nat → Value) (h0 : Heap) (n0 : Nat) (Z0 : n0 ≤ h0.size) (Jc : Jar Z h0 ca .char 2 (fun i => .int (g i))) (Jb : Jar Z h0 b .byte 2 f) (gb : n0 ≤ b) (ncb : ca ≠ b) :
    Con l Z (⟨"java/lang/StringUTF16", "compress", "([CI[BII)I"⟩ : MethodName) jdk_52_method_21_code 7 (some .int) ({ frames := 0, cells := 0, slots := 0, locals := 0 } : Room) #[(.ref ca), (.int (0 : Int32)), (.ref b), (.int (0 : Int32)), (.int (2 : Int32))] h0 (C5Q Z b 2 (2 : Int32) g h0 n0) := by
  refine Con.intro (plainFor_of_name pn_4) ?_
  intro p e s m below meth c s₁ hx hby hml hrt hlk hZ hown hnm X0 e0
  replace hown : s.vm.findClass "java/lang/StringUTF16" = some m.cls := hown
  have N0 := Fr.nil n0
  refine GoOn.cast (ef_c_c5_2 m ca (0 : Int32) b (0 : Int32) (2 : Int32)) ?_
  show GoOn p e below _ (s₁.setTop (mkF m 0 #[.val (.ref ca), .val (.int (0 : Int32)), .val (.ref b), .val (.int (0 : Int32)), .val (.int (2 : Int32)), .unset, .unset] []))
  have K0 : Keep h0 h0 [b] := Keep.refl _ _
  refine GoOn.step (fun t₀ k₀ => XS.iconst X0.here hx rfl (hb hby d9_0) k₀) ?_
  show GoOn p e below _ (s₁.setTop (mkF m 1 #[.val (.ref ca), .val (.int (0 : Int32)), .val (.ref b), .val (.int (0 : Int32)), .val (.int (2 : Int32)), .unset, .unset] [(.int (0 : Int32))]))
  refine GoOn.step (fun t₀ k₀ => XS.istore X0.here hx rfl (hb hby d9_1) rfl (l' := #[.val (.ref ca), .val (.int (0 : Int32)), .val (.ref b), .val (.int (0 : Int32)), .val (.int (2 : Int32)), .val (.int (0 : Int32)), .unset]) rfl k₀) ?_
  show GoOn p e below _ (s₁.setTop (mkF m 3 #[.val (.ref ca), .val (.int (0 : Int32)), .val (.ref b), .val (.int (0 : Int32)), .val (.int (2 : Int32)), .val (.int (0 : Int32)), .unset] []))
  refine GoOn.step (fun t₀ k₀ => XS.iload X0.here hx rfl (hb hby d9_3) rfl k₀) ?_
  show GoOn p e below _ (s₁.setTop (mkF m 5 #[.val (.ref ca), .val (.int (0 : Int32)), .val (.ref b), .val (.int (0 : Int32)), .val (.int (2 : Int32)), .val (.int (0 : Int32)), .unset] [(.int (0 : Int32))]))
  refine GoOn.step (fun t₀ k₀ => XS.iload X0.here hx rfl (hb hby d9_5) rfl k₀) ?_
  show GoOn p e below _ (s₁.setTop (mkF m 7 #[.val (.ref ca), .val (.int (0 : Int32)), .val (.ref b), .val (.int (0 : Int32)), .val (.int (2 : Int32)), .val (.int (0 : Int32)), .unset] [(.int (2 : Int32)), (.int (0 : Int32))]))
  have hf63 : (0 : Int32) < (2 : Int32) := (by decide)
  refine GoOn.step (fun t₀ k₀ => XS.icmpNo X0.here hx rfl (hb hby d9_7) rfl (tlt hf63).2.1 k₀) ?_
  show GoOn p e below _ (s₁.setTop (mkF m 10 #[.val (.ref ca), .val (.int (0 : Int32)), .val (.ref b), .val (.int (0 : Int32)), .val (.int (2 : Int32)), .val (.int (0 : Int32)), .unset] []))
  refine GoOn.step (fun t₀ k₀ => XS.aloadN X0.here hx rfl (hb hby d9_10) rfl rfl k₀) ?_
  show GoOn p e below _ (s₁.setTop (mkF m 11 #[.val (.ref ca), .val (.int (0 : Int32)), .val (.ref b), .val (.int (0 : Int32)), .val (.int (2 : Int32)), .val (.int (0 : Int32)), .unset] [(.ref ca)]))
  refine GoOn.step (fun t₀ k₀ => XS.iloadN X0.here hx rfl (hb hby d9_11) rfl k₀) ?_
  show GoOn p e below _ (s₁.setTop (mkF m 12 #[.val (.ref ca), .val (.int (0 : Int32)), .val (.ref b), .val (.int (0 : Int32)), .val (.int (2 : Int32)), .val (.int (0 : Int32)), .unset] [(.int (0 : Int32)), (.ref ca)]))
  refine GoOn.step (fun t₀ k₀ => kLdC X0 hx hZ e0 Jc (j := (0 : Int32)) (v := (.int (g 0))) ⟨by decide, by decide⟩ rfl (g := (mkF m 12 #[.val (.ref ca), .val (.int (0 : Int32)), .val (.ref b), .val (.int (0 : Int32)), .val (.int (2 : Int32)), .val (.int (0 : Int32)), .unset] [(.int (0 : Int32)), (.ref ca)])) rfl rfl (hb hby d9_12) t₀ k₀) ?_
  show GoOn p e below _ (s₁.setTop (mkF m 13 #[.val (.ref ca), .val (.int (0 : Int32)), .val (.ref b), .val (.int (0 : Int32)), .val (.int (2 : Int32)), .val (.int (0 : Int32)), .unset] [(.int (g 0))]))
  refine GoOn.step (fun t₀ k₀ => XS.istore X0.here hx rfl (hb hby d9_13) rfl (l' := #[.val (.ref ca), .val (.int (0 : Int32)), .val (.ref b), .val (.int (0 : Int32)), .val (.int (2 : Int32)), .val (.int (0 : Int32)), .val (.int (g 0))]) rfl k₀) ?_
  show GoOn p e below _ (s₁.setTop (mkF m 15 #[.val (.ref ca), .val (.int (0 : Int32)), .val (.ref b), .val (.int (0 : Int32)), .val (.int (2 : Int32)), .val (.int (0 : Int32)), .val (.int (g 0))] []))
  refine GoOn.step (fun t₀ k₀ => XS.iload X0.here hx rfl (hb hby d9_15) rfl k₀) ?_
  show GoOn p e below _ (s₁.setTop (mkF m 17 #[.val (.ref ca), .val (.int (0 : Int32)), .val (.ref b), .val (.int (0 : Int32)), .val (.int (2 : Int32)), .val (.int (0 : Int32)), .val (.int (g 0))] [(.int (g 0))]))
  refine GoOn.step (fun t₀ k₀ => XS.sipush X0.here hx rfl (hb hby d9_17) k₀) ?_
  show GoOn p e below _ (s₁.setTop (mkF m 20 #[.val (.ref ca), .val (.int (0 : Int32)), .val (.ref b), .val (.int (0 : Int32)), .val (.int (2 : Int32)), .val (.int (0 : Int32)), .val (.int (g 0))] [(.int (255 : Int32)), (.int (g 0))]))
  by_cases q0 : (255 : Int32) < (g 0)
  · refine GoOn.step (fun t₀ k₀ => XS.icmpNo X0.here hx rfl (hb hby d9_20) rfl (tlt q0).2.2.2 k₀) ?_
    show GoOn p e below _ (s₁.setTop (mkF m 23 #[.val (.ref ca), .val (.int (0 : Int32)), .val (.ref b), .val (.int (0 : Int32)), .val (.int (2 : Int32)), .val (.int (0 : Int32)), .val (.int (g 0))] []))
    refine GoOn.step (fun t₀ k₀ => XS.iload X0.here hx rfl (hb hby d9_23) rfl k₀) ?_
    show GoOn p e below _ (s₁.setTop (mkF m 25 #[.val (.ref ca), .val (.int (0 : Int32)), .val (.ref b), .val (.int (0 : Int32)), .val (.int (2 : Int32)), .val (.int (0 : Int32)), .val (.int (g 0))] [(.int (0 : Int32))]))
    exact GoOn.retI X0 hx hrt hlk (hb hby d9_25) (by decide) (by decide) (by first | exact ⟨_, rfl, N0, K0, Or.inr ⟨⟨by decide, by decide, by decide⟩, q0⟩⟩ | (rw [e0]; exact ⟨_, rfl, N0, K0, Or.inr ⟨⟨by decide, by decide, by decide⟩, q0⟩⟩))
  · refine GoOn.step (fun t₀ k₀ => XS.icmpYes X0.here hx rfl (pc0 := 20) (pc' := 26) rfl (hb hby d9_20) rfl (flt q0).2.2.2 (by decide) (by decide) k₀) ?_
    show GoOn p e below _ (s₁.setTop (mkF m 26 #[.val (.ref ca), .val (.int (0 : Int32)), .val (.ref b), .val (.int (0 : Int32)), .val (.int (2 : Int32)), .val (.int (0 : Int32)), .val (.int (g 0))] []))
    refine GoOn.step (fun t₀ k₀ => XS.aloadN X0.here hx rfl (hb hby d9_26) rfl rfl k₀) ?_
    show GoOn p e below _ (s₁.setTop (mkF m 27 #[.val (.ref ca), .val (.int (0 : Int32)), .val (.ref b), .val (.int (0 : Int32)), .val (.int (2 : Int32)), .val (.int (0 : Int32)), .val (.int (g 0))] [(.ref b)]))
    refine GoOn.step (fun t₀ k₀ => XS.iloadN X0.here hx rfl (hb hby d9_27) rfl k₀) ?_
    show GoOn p e below _ (s₁.setTop (mkF m 28 #[.val (.ref ca), .val (.int (0 : Int32)), .val (.ref b), .val (.int (0 : Int32)), .val (.int (2 : Int32)), .val (.int (0 : Int32)), .val (.int (g 0))] [(.int (0 : Int32)), (.ref b)]))
    refine GoOn.step (fun t₀ k₀ => XS.iload X0.here hx rfl (hb hby d9_28) rfl k₀) ?_
    show GoOn p e below _ (s₁.setTop (mkF m 30 #[.val (.ref ca), .val (.int (0 : Int32)), .val (.ref b), .val (.int (0 : Int32)), .val (.int (2 : Int32)), .val (.int (0 : Int32)), .val (.int (g 0))] [(.int (g 0)), (.int (0 : Int32)), (.ref b)]))
    refine GoOn.step (fun t₀ k₀ => XS.i2b X0.here hx rfl (hb hby d9_30) rfl k₀) ?_
    show GoOn p e below _ (s₁.setTop (mkF m 31 #[.val (.ref ca), .val (.int (0 : Int32)), .val (.ref b), .val (.int (0 : Int32)), .val (.int (2 : Int32)), .val (.int (0 : Int32)), .val (.int (g 0))] [(.int ((g 0).toInt8.toInt32)), (.int (0 : Int32)), (.ref b)]))
    obtain ⟨T64, h64, X64, e64, W64, st64⟩ := kStB X0 hx hZ e0 Jb (j := (0 : Int32)) ⟨by decide, by decide⟩ (g := (mkF m 31 #[.val (.ref ca), .val (.int (0 : Int32)), .val (.ref b), .val (.int (0 : Int32)), .val (.int (2 : Int32)), .val (.int (0 : Int32)), .val (.int (g 0))] [(.int ((g 0).toInt8.toInt32)), (.int (0 : Int32)), (.ref b)])) rfl rfl (hb hby d9_31)
    replace N0 := Fr.snoc X64 N0 gb
    replace Jc := Jc.other W64 ncb
    replace Jb := Jb.set W64
    replace Z0 := Nat.le_trans Z0 (Nat.le_of_eq W64.size.symm)
    replace K0 := K0.wr W64 (Or.inl (by simp))
    refine GoOn.step st64 ?_
    show GoOn p e below _ (T64.setTop (mkF m 32 #[.val (.ref ca), .val (.int (0 : Int32)), .val (.ref b), .val (.int (0 : Int32)), .val (.int (2 : Int32)), .val (.int (0 : Int32)), .val (.int (g 0))] []))
    refine GoOn.step (fun t₀ k₀ => XS.iinc X64.here hx rfl (hb hby d9_32) rfl (l' := #[.val (.ref ca), .val (.int ((0 : Int32) + (1 : Int32))), .val (.ref b), .val (.int (0 : Int32)), .val (.int (2 : Int32)), .val (.int (0 : Int32)), .val (.int (g 0))]) rfl k₀) ?_
    show GoOn p e below _ (T64.setTop (mkF m 35 #[.val (.ref ca), .val (.int ((0 : Int32) + (1 : Int32))), .val (.ref b), .val (.int (0 : Int32)), .val (.int (2 : Int32)), .val (.int (0 : Int32)), .val (.int (g 0))] []))
    refine GoOn.step (fun t₀ k₀ => XS.iinc X64.here hx rfl (hb hby d9_35) rfl (l' := #[.val (.ref ca), .val (.int ((0 : Int32) + (1 : Int32))), .val (.ref b), .val (.int ((0 : Int32) + (1 : Int32))), .val (.int (2 : Int32)), .val (.int (0 : Int32)), .val (.int (g 0))]) rfl k₀) ?_
    show GoOn p e below _ (T64.setTop (mkF m 38 #[.val (.ref ca), .val (.int ((0 : Int32) + (1 : Int32))), .val (.ref b), .val (.int ((0 : Int32) + (1 : Int32))), .val (.int (2 : Int32)), .val (.int (0 : Int32)), .val (.int (g 0))] []))
    refine GoOn.step (fun t₀ k₀ => XS.iinc X64.here hx rfl (hb hby d9_38) rfl (l' := #[.val (.ref ca), .val (.int ((0 : Int32) + (1 : Int32))), .val (.ref b), .val (.int ((0 : Int32) + (1 : Int32))), .val (.int (2 : Int32)), .val (.int ((0 : Int32) + (1 : Int32))), .val (.int (g 0))]) rfl k₀) ?_
    show GoOn p e below _ (T64.setTop (mkF m 41 #[.val (.ref ca), .val (.int ((0 : Int32) + (1 : Int32))), .val (.ref b), .val (.int ((0 : Int32) + (1 : Int32))), .val (.int (2 : Int32)), .val (.int ((0 : Int32) + (1 : Int32))), .val (.int (g 0))] []))
    rw [show ((0 : Int32) + (1 : Int32)) = (1 : Int32) from (by decide)]
    refine GoOn.step (fun t₀ k₀ => XS.goto X64.here hx rfl (pc0 := 41) (pc' := 3) rfl (hb hby d9_41) (by decide) (by decide) k₀) ?_
    show GoOn p e below _ (T64.setTop (mkF m 3 #[.val (.ref ca), .val (.int (1 : Int32)), .val (.ref b), .val (.int (1 : Int32)), .val (.int (2 : Int32)), .val (.int (1 : Int32)), .val (.int (g 0))] []))
    refine GoOn.step (fun t₀ k₀ => XS.iload X64.here hx rfl (hb hby d9_3) rfl k₀) ?_
    show GoOn p e below _ (T64.setTop (mkF m 5 #[.val (.ref ca), .val (.int (1 : Int32)), .val (.ref b), .val (.int (1 : Int32)), .val (.int (2 : Int32)), .val (.int (1 : Int32)), .val (.int (g 0))] [(.int (1 : Int32))]))
    refine GoOn.step (fun t₀ k₀ => XS.iload X64.here hx rfl (hb hby d9_5) rfl k₀) ?_
    show GoOn p e below _ (T64.setTop (mkF m 7 #[.val (.ref ca), .val (.int (1 : Int32)), .val (.ref b), .val (.int (1 : Int32)), .val (.int (2 : Int32)), .val (.int (1 : Int32)), .val (.int (g 0))] [(.int (2 : Int32)), (.int (1 : Int32))]))
    have hf65 : (1 : Int32) < (2 : Int32) := (by decide)
    refine GoOn.step (fun t₀ k₀ => XS.icmpNo X64.here hx rfl (hb hby d9_7) rfl (tlt hf65).2.1 k₀) ?_
    show GoOn p e below _ (T64.setTop (mkF m 10 #[.val (.ref ca), .val (.int (1 : Int32)), .val (.ref b), .val (.int (1 : Int32)), .val (.int (2 : Int32)), .val (.int (1 : Int32)), .val (.int (g 0))] []))
    refine GoOn.step (fun t₀ k₀ => XS.aloadN X64.here hx rfl (hb hby d9_10) rfl rfl k₀) ?_
    show GoOn p e below _ (T64.setTop (mkF m 11 #[.val (.ref ca), .val (.int (1 : Int32)), .val (.ref b), .val (.int (1 : Int32)), .val (.int (2 : Int32)), .val (.int (1 : Int32)), .val (.int (g 0))] [(.ref ca)]))
    refine GoOn.step (fun t₀ k₀ => XS.iloadN X64.here hx rfl (hb hby d9_11) rfl k₀) ?_
    show GoOn p e below _ (T64.setTop (mkF m 12 #[.val (.ref ca), .val (.int (1 : Int32)), .val (.ref b), .val (.int (1 : Int32)), .val (.int (2 : Int32)), .val (.int (1 : Int32)), .val (.int (g 0))] [(.int (1 : Int32)), (.ref ca)]))
    refine GoOn.step (fun t₀ k₀ => kLdC X64 hx hZ e64 Jc (j := (1 : Int32)) (v := (.int (g 1))) ⟨by decide, by decide⟩ rfl (g := (mkF m 12 #[.val (.ref ca), .val (.int (1 : Int32)), .val (.ref b), .val (.int (1 : Int32)), .val (.int (2 : Int32)), .val (.int (1 : Int32)), .val (.int (g 0))] [(.int (1 : Int32)), (.ref ca)])) rfl rfl (hb hby d9_12) t₀ k₀) ?_
    show GoOn p e below _ (T64.setTop (mkF m 13 #[.val (.ref ca), .val (.int (1 : Int32)), .val (.ref b), .val (.int (1 : Int32)), .val (.int (2 : Int32)), .val (.int (1 : Int32)), .val (.int (g 0))] [(.int (g 1))]))
    refine GoOn.step (fun t₀ k₀ => XS.istore X64.here hx rfl (hb hby d9_13) rfl (l' := #[.val (.ref ca), .val (.int (1 : Int32)), .val (.ref b), .val (.int (1 : Int32)), .val (.int (2 : Int32)), .val (.int (1 : Int32)), .val (.int (g 1))]) rfl k₀) ?_
    show GoOn p e below _ (T64.setTop (mkF m 15 #[.val (.ref ca), .val (.int (1 : Int32)), .val (.ref b), .val (.int (1 : Int32)), .val (.int (2 : Int32)), .val (.int (1 : Int32)), .val (.int (g 1))] []))
    refine GoOn.step (fun t₀ k₀ => XS.iload X64.here hx rfl (hb hby d9_15) rfl k₀) ?_
    show GoOn p e below _ (T64.setTop (mkF m 17 #[.val (.ref ca), .val (.int (1 : Int32)), .val (.ref b), .val (.int (1 : Int32)), .val (.int (2 : Int32)), .val (.int (1 : Int32)), .val (.int (g 1))] [(.int (g 1))]))
    refine GoOn.step (fun t₀ k₀ => XS.sipush X64.here hx rfl (hb hby d9_17) k₀) ?_
    show GoOn p e below _ (T64.setTop (mkF m 20 #[.val (.ref ca), .val (.int (1 : Int32)), .val (.ref b), .val (.int (1 : Int32)), .val (.int (2 : Int32)), .val (.int (1 : Int32)), .val (.int (g 1))] [(.int (255 : Int32)), (.int (g 1))]))
    by_cases q1 : (255 : Int32) < (g 1)
    · refine GoOn.step (fun t₀ k₀ => XS.icmpNo X64.here hx rfl (hb hby d9_20) rfl (tlt q1).2.2.2 k₀) ?_
      show GoOn p e below _ (T64.setTop (mkF m 23 #[.val (.ref ca), .val (.int (1 : Int32)), .val (.ref b), .val (.int (1 : Int32)), .val (.int (2 : Int32)), .val (.int (1 : Int32)), .val (.int (g 1))] []))
      refine GoOn.step (fun t₀ k₀ => XS.iload X64.here hx rfl (hb hby d9_23) rfl k₀) ?_
      show GoOn p e below _ (T64.setTop (mkF m 25 #[.val (.ref ca), .val (.int (1 : Int32)), .val (.ref b), .val (.int (1 : Int32)), .val (.int (2 : Int32)), .val (.int (1 : Int32)), .val (.int (g 1))] [(.int (1 : Int32))]))
      exact GoOn.retI X64 hx hrt hlk (hb hby d9_25) (by decide) (by decide) (by first | exact ⟨_, rfl, N0, K0, Or.inr ⟨⟨by decide, by decide, by decide⟩, q1⟩⟩ | (rw [e64]; exact ⟨_, rfl, N0, K0, Or.inr ⟨⟨by decide, by decide, by decide⟩, q1⟩⟩))
    · refine GoOn.step (fun t₀ k₀ => XS.icmpYes X64.here hx rfl (pc0 := 20) (pc' := 26) rfl (hb hby d9_20) rfl (flt q1).2.2.2 (by decide) (by decide) k₀) ?_
      show GoOn p e below _ (T64.setTop (mkF m 26 #[.val (.ref ca), .val (.int (1 : Int32)), .val (.ref b), .val (.int (1 : Int32)), .val (.int (2 : Int32)), .val (.int (1 : Int32)), .val (.int (g 1))] []))
      refine GoOn.step (fun t₀ k₀ => XS.aloadN X64.here hx rfl (hb hby d9_26) rfl rfl k₀) ?_
      show GoOn p e below _ (T64.setTop (mkF m 27 #[.val (.ref ca), .val (.int (1 : Int32)), .val (.ref b), .val (.int (1 : Int32)), .val (.int (2 : Int32)), .val (.int (1 : Int32)), .val (.int (g 1))] [(.ref b)]))
      refine GoOn.step (fun t₀ k₀ => XS.iloadN X64.here hx rfl (hb hby d9_27) rfl k₀) ?_
      show GoOn p e below _ (T64.setTop (mkF m 28 #[.val (.ref ca), .val (.int (1 : Int32)), .val (.ref b), .val (.int (1 : Int32)), .val (.int (2 : Int32)), .val (.int (1 : Int32)), .val (.int (g 1))] [(.int (1 : Int32)), (.ref b)]))
      refine GoOn.step (fun t₀ k₀ => XS.iload X64.here hx rfl (hb hby d9_28) rfl k₀) ?_
      show GoOn p e below _ (T64.setTop (mkF m 30 #[.val (.ref ca), .val (.int (1 : Int32)), .val (.ref b), .val (.int (1 : Int32)), .val (.int (2 : Int32)), .val (.int (1 : Int32)), .val (.int (g 1))] [(.int (g 1)), (.int (1 : Int32)), (.ref b)]))
      refine GoOn.step (fun t₀ k₀ => XS.i2b X64.here hx rfl (hb hby d9_30) rfl k₀) ?_
      show GoOn p e below _ (T64.setTop (mkF m 31 #[.val (.ref ca), .val (.int (1 : Int32)), .val (.ref b), .val (.int (1 : Int32)), .val (.int (2 : Int32)), .val (.int (1 : Int32)), .val (.int (g 1))] [(.int ((g 1).toInt8.toInt32)), (.int (1 : Int32)), (.ref b)]))
      obtain ⟨T66, h66, X66, e66, W66, st66⟩ := kStB X64 hx hZ e64 Jb (j := (1 : Int32)) ⟨by decide, by decide⟩ (g := (mkF m 31 #[.val (.ref ca), .val (.int (1 : Int32)), .val (.ref b), .val (.int (1 : Int32)), .val (.int (2 : Int32)), .val (.int (1 : Int32)), .val (.int (g 1))] [(.int ((g 1).toInt8.toInt32)), (.int (1 : Int32)), (.ref b)])) rfl rfl (hb hby d9_31)
      replace N0 := Fr.snoc X66 N0 gb
      replace Jc := Jc.other W66 ncb
      replace Jb := Jb.set W66
      replace Z0 := Nat.le_trans Z0 (Nat.le_of_eq W66.size.symm)
      replace K0 := K0.wr W66 (Or.inl (by simp))
      refine GoOn.step st66 ?_
      show GoOn p e below _ (T66.setTop (mkF m 32 #[.val (.ref ca), .val (.int (1 : Int32)), .val (.ref b), .val (.int (1 : Int32)), .val (.int (2 : Int32)), .val (.int (1 : Int32)), .val (.int (g 1))] []))
      refine GoOn.step (fun t₀ k₀ => XS.iinc X66.here hx rfl (hb hby d9_32) rfl (l' := #[.val (.ref ca), .val (.int ((1 : Int32) + (1 : Int32))), .val (.ref b), .val (.int (1 : Int32)), .val (.int (2 : Int32)), .val (.int (1 : Int32)), .val (.int (g 1))]) rfl k₀) ?_
      show GoOn p e below _ (T66.setTop (mkF m 35 #[.val (.ref ca), .val (.int ((1 : Int32) + (1 : Int32))), .val (.ref b), .val (.int (1 : Int32)), .val (.int (2 : Int32)), .val (.int (1 : Int32)), .val (.int (g 1))] []))
      refine GoOn.step (fun t₀ k₀ => XS.iinc X66.here hx rfl (hb hby d9_35) rfl (l' := #[.val (.ref ca), .val (.int ((1 : Int32) + (1 : Int32))), .val (.ref b), .val (.int ((1 : Int32) + (1 : Int32))), .val (.int (2 : Int32)), .val (.int (1 : Int32)), .val (.int (g 1))]) rfl k₀) ?_
      show GoOn p e below _ (T66.setTop (mkF m 38 #[.val (.ref ca), .val (.int ((1 : Int32) + (1 : Int32))), .val (.ref b), .val (.int ((1 : Int32) + (1 : Int32))), .val (.int (2 : Int32)), .val (.int (1 : Int32)), .val (.int (g 1))] []))
      refine GoOn.step (fun t₀ k₀ => XS.iinc X66.here hx rfl (hb hby d9_38) rfl (l' := #[.val (.ref ca), .val (.int ((1 : Int32) + (1 : Int32))), .val (.ref b), .val (.int ((1 : Int32) + (1 : Int32))), .val (.int (2 : Int32)), .val (.int ((1 : Int32) + (1 : Int32))), .val (.int (g 1))]) rfl k₀) ?_
      show GoOn p e below _ (T66.setTop (mkF m 41 #[.val (.ref ca), .val (.int ((1 : Int32) + (1 : Int32))), .val (.ref b), .val (.int ((1 : Int32) + (1 : Int32))), .val (.int (2 : Int32)), .val (.int ((1 : Int32) + (1 : Int32))), .val (.int (g 1))] []))
      rw [show ((1 : Int32) + (1 : Int32)) = (2 : Int32) from (by decide)]
      refine GoOn.step (fun t₀ k₀ => XS.goto X66.here hx rfl (pc0 := 41) (pc' := 3) rfl (hb hby d9_41) (by decide) (by decide) k₀) ?_
      show GoOn p e below _ (T66.setTop (mkF m 3 #[.val (.ref ca), .val (.int (2 : Int32)), .val (.ref b), .val (.int (2 : Int32)), .val (.int (2 : Int32)), .val (.int (2 : Int32)), .val (.int (g 1))] []))
      refine GoOn.step (fun t₀ k₀ => XS.iload X66.here hx rfl (hb hby d9_3) rfl k₀) ?_
      show GoOn p e below _ (T66.setTop (mkF m 5 #[.val (.ref ca), .val (.int (2 : Int32)), .val (.ref b), .val (.int (2 : Int32)), .val (.int (2 : Int32)), .val (.int (2 : Int32)), .val (.int (g 1))] [(.int (2 : Int32))]))
      refine GoOn.step (fun t₀ k₀ => XS.iload X66.here hx rfl (hb hby d9_5) rfl k₀) ?_
      show GoOn p e below _ (T66.setTop (mkF m 7 #[.val (.ref ca), .val (.int (2 : Int32)), .val (.ref b), .val (.int (2 : Int32)), .val (.int (2 : Int32)), .val (.int (2 : Int32)), .val (.int (g 1))] [(.int (2 : Int32)), (.int (2 : Int32))]))
      have hf67 : ¬ ((2 : Int32) < (2 : Int32)) := (by decide)
      refine GoOn.step (fun t₀ k₀ => XS.icmpYes X66.here hx rfl (pc0 := 7) (pc' := 44) rfl (hb hby d9_7) rfl (flt hf67).2.1 (by decide) (by decide) k₀) ?_
      show GoOn p e below _ (T66.setTop (mkF m 44 #[.val (.ref ca), .val (.int (2 : Int32)), .val (.ref b), .val (.int (2 : Int32)), .val (.int (2 : Int32)), .val (.int (2 : Int32)), .val (.int (g 1))] []))
      refine GoOn.step (fun t₀ k₀ => XS.iload X66.here hx rfl (hb hby d9_44) rfl k₀) ?_
      show GoOn p e below _ (T66.setTop (mkF m 46 #[.val (.ref ca), .val (.int (2 : Int32)), .val (.ref b), .val (.int (2 : Int32)), .val (.int (2 : Int32)), .val (.int (2 : Int32)), .val (.int (g 1))] [(.int (2 : Int32))]))
      exact GoOn.retI X66 hx hrt hlk (hb hby d9_46) (by decide) (by decide) (by first | exact ⟨_, rfl, N0, K0, Or.inl ⟨rfl, _, Jb, la1_2 ⟨by simp [nc0, nc1, nc2, fixB, laB], le255 q0⟩ ⟨by simp [nc0, nc1, nc2, fixB, laB], le255 q1⟩⟩⟩ | (rw [e66]; exact ⟨_, rfl, N0, K0, Or.inl ⟨rfl, _, Jb, la1_2 ⟨by simp [nc0, nc1, nc2, fixB, laB], le255 q0⟩ ⟨by simp [nc0, nc1, nc2, fixB, laB], le255 q1⟩⟩⟩))
theorem ef_c_c3_2 (m : MethodId) (x0 : Addr) (x1 : Int32) (x2 : Int32) : entryFrame m #[(.ref x0), (.int x1), (.int x2)] 6 = mkF m 0 #[.val (.ref x0), .val (.int x1), .val (.int x2), .unset, .unset, .unset] [] := by first | (simp [entryFrame, mkF, argsToLocals, Value.category]; done) | rfl
set_option maxRecDepth 65536 in
set_option maxHeartbeats 40000000 in
theorem c_c3_2 (l : Launch) (Z : State) (a0 : Array Value) (hw : ∀ d ∈ tables_1, d.before a0 Z = true) (ca : Addr) (g : Nat → Int32) (cs : Int32) (fv : Value) (h0 : Heap) (n0 : Nat) (Z0 : n0 ≤ h0.size) (O : Old Z n0 h0) (SS : Stt Z cs fv) (Jc : Jar Z h0 ca .char 2 (fun i => .int (g i))) (Cg : Chr g) :
    Con l Z (⟨"java/lang/StringUTF16", "compress", "([CII)[B"⟩ : MethodName) jdk_52_method_16_code 6 (some (.array .byte)) ({ frames := 3, cells := 2, slots := 6, locals := 64 } : Room) #[(.ref ca), (.int (0 : Int32)), (.int (2 : Int32))] h0 (C3Q Z 2 g h0 n0) := by
  refine Con.intro (plainFor_of_name pn_4) ?_
  intro p e s m below meth c s₁ hx hby hml hrt hlk hZ hown hnm X0 e0
  replace hown : s.vm.findClass "java/lang/StringUTF16" = some m.cls := hown
  have N0 := Fr.nil n0
  refine GoOn.cast (ef_c_c3_2 m ca (0 : Int32) (2 : Int32)) ?_
  show GoOn p e below _ (s₁.setTop (mkF m 0 #[.val (.ref ca), .val (.int (0 : Int32)), .val (.int (2 : Int32)), .unset, .unset, .unset] []))
  have K0 : Keep h0 h0 [] := Keep.refl _ _
  refine GoOn.step (fun t₀ k₀ => XS.iloadN X0.here hx rfl (hb hby d8_0) rfl k₀) ?_
  show GoOn p e below _ (s₁.setTop (mkF m 1 #[.val (.ref ca), .val (.int (0 : Int32)), .val (.int (2 : Int32)), .unset, .unset, .unset] [(.int (2 : Int32))]))
  obtain ⟨T68, h68, k68, X68, e68, E68, A68, st68⟩ := newP X0 hx hZ (hw _ (List.mem_of_getElem? (i := 16) rfl)) e0 (g := (mkF m 1 #[.val (.ref ca), .val (.int (0 : Int32)), .val (.int (2 : Int32)), .unset, .unset, .unset] [(.int (2 : Int32))])) rfl (hb hby d8_1) rfl (by decide) (cap := 2) (by decide) (by decide) (by decide) (by decide)
  obtain ⟨b, g68⟩ : ∃ z, z = h0.size := ⟨_, rfl⟩
  rw [← g68] at A68 st68
  have lt_ca_b : ca < b := by rw [g68]; exact Jc.lt
  have ne_ca_b : ca ≠ b := Nat.ne_of_lt lt_ca_b
  have le_b : n0 ≤ b := by rw [g68]; exact Z0
  have sz_b : h0.size ≤ b := by rw [g68]; exact K0.1
  replace Jc := Jc.ext E68
  replace O := O.ext E68
  replace Z0 := Nat.le_trans Z0 E68.1
  replace K0 := K0.ext E68
  have J_b : Jar Z h68 b .byte 2 (fun _ => defaultValue .byte) := Jar.new A68 (by decide)
  refine GoOn.step st68 ?_
  show GoOn p e below _ (T68.setTop (mkF m 3 #[.val (.ref ca), .val (.int (0 : Int32)), .val (.int (2 : Int32)), .unset, .unset, .unset] [(.ref b)]))
  refine GoOn.step (fun t₀ k₀ => XS.astoreN X68.here hx rfl (hb hby d8_3) rfl rfl (l' := #[.val (.ref ca), .val (.int (0 : Int32)), .val (.int (2 : Int32)), .val (.ref b), .unset, .unset]) rfl k₀) ?_
  show GoOn p e below _ (T68.setTop (mkF m 4 #[.val (.ref ca), .val (.int (0 : Int32)), .val (.int (2 : Int32)), .val (.ref b), .unset, .unset] []))
  refine GoOn.step (fun t₀ k₀ => XS.aloadN X68.here hx rfl (hb hby d8_4) rfl rfl k₀) ?_
  show GoOn p e below _ (T68.setTop (mkF m 5 #[.val (.ref ca), .val (.int (0 : Int32)), .val (.int (2 : Int32)), .val (.ref b), .unset, .unset] [(.ref ca)]))
  refine GoOn.step (fun t₀ k₀ => XS.iloadN X68.here hx rfl (hb hby d8_5) rfl k₀) ?_
  show GoOn p e below _ (T68.setTop (mkF m 6 #[.val (.ref ca), .val (.int (0 : Int32)), .val (.int (2 : Int32)), .val (.ref b), .unset, .unset] [(.int (0 : Int32)), (.ref ca)]))
  refine GoOn.step (fun t₀ k₀ => XS.aloadN X68.here hx rfl (hb hby d8_6) rfl rfl k₀) ?_
  show GoOn p e below _ (T68.setTop (mkF m 7 #[.val (.ref ca), .val (.int (0 : Int32)), .val (.int (2 : Int32)), .val (.ref b), .unset, .unset] [(.ref b), (.int (0 : Int32)), (.ref ca)]))
  refine GoOn.step (fun t₀ k₀ => XS.iconst X68.here hx rfl (hb hby d8_7) k₀) ?_
  show GoOn p e below _ (T68.setTop (mkF m 8 #[.val (.ref ca), .val (.int (0 : Int32)), .val (.int (2 : Int32)), .val (.ref b), .unset, .unset] [(.int (0 : Int32)), (.ref b), (.int (0 : Int32)), (.ref ca)]))
  refine GoOn.step (fun t₀ k₀ => XS.iloadN X68.here hx rfl (hb hby d8_8) rfl k₀) ?_
  show GoOn p e below _ (T68.setTop (mkF m 9 #[.val (.ref ca), .val (.int (0 : Int32)), .val (.int (2 : Int32)), .val (.ref b), .unset, .unset] [(.int (2 : Int32)), (.int (0 : Int32)), (.ref b), (.int (0 : Int32)), (.ref ca)]))
  obtain ⟨_, T69, L69, X69, hQ69, st69⟩ := kCallS X68 hx hZ (argsL := [(.ref ca), (.int (0 : Int32)), (.ref b), (.int (0 : Int32)), (.int (2 : Int32))]) (rest := []) (c_c5_2 l Z a0 hw ca b g _ h68 n0 Z0 Jc J_b le_b ne_ca_b) hown (hw _ (List.mem_of_getElem? (i := 46) rfl)) (hw _ (List.mem_of_getElem? (i := 47) rfl)) (hw _ (List.mem_of_getElem? (i := 44) rfl)) (hw _ (List.mem_of_getElem? (i := 48) rfl)) (by decide) e68 (g := (mkF m 9 #[.val (.ref ca), .val (.int (0 : Int32)), .val (.int (2 : Int32)), .val (.ref b), .unset, .unset] [(.int (2 : Int32)), (.int (0 : Int32)), (.ref b), (.int (0 : Int32)), (.ref ca)])) rfl (by rw [hml]; rfl) (lenOf pd_10 rfl) rfl (W := 0) (by show 2 * 0 + _ ≤ _; exact Nat.le_of_eq rfl) (hb hby d8_9) (by decide) (by decide) (by decide) (by decide)
  obtain ⟨r, rfl, N69, K69, HD⟩ := hQ69
  replace N0 := Fr.app N0 N69
  replace K0 := K0.trans K69 (allS (Or.inr sz_b) all0)
  replace Jc := Jc.keep K69 (ninS ne_ca_b nin0)
  clear J_b
  replace O := O.keep K69 (allS le_b all0)
  replace Z0 := Nat.le_trans Z0 K69.1
  refine GoOn.step st69 ?_
  show GoOn p e below _ (T69.setTop (mkF m 12 #[.val (.ref ca), .val (.int (0 : Int32)), .val (.int (2 : Int32)), .val (.ref b), .unset, .unset] [(.int r)]))
  refine GoOn.step (fun t₀ k₀ => XS.istore X69.here hx rfl (hb hby d8_12) rfl (l' := #[.val (.ref ca), .val (.int (0 : Int32)), .val (.int (2 : Int32)), .val (.ref b), .val (.int r), .unset]) rfl k₀) ?_
  show GoOn p e below _ (T69.setTop (mkF m 14 #[.val (.ref ca), .val (.int (0 : Int32)), .val (.int (2 : Int32)), .val (.ref b), .val (.int r), .unset] []))
  refine GoOn.step (fun t₀ k₀ => XS.iload X69.here hx rfl (hb hby d8_14) rfl k₀) ?_
  show GoOn p e below _ (T69.setTop (mkF m 16 #[.val (.ref ca), .val (.int (0 : Int32)), .val (.int (2 : Int32)), .val (.ref b), .val (.int r), .unset] [(.int r)]))
  refine GoOn.step (fun t₀ k₀ => XS.iloadN X69.here hx rfl (hb hby d8_16) rfl k₀) ?_
  show GoOn p e below _ (T69.setTop (mkF m 17 #[.val (.ref ca), .val (.int (0 : Int32)), .val (.int (2 : Int32)), .val (.ref b), .val (.int r), .unset] [(.int (2 : Int32)), (.int r)]))
  rcases HD with ⟨rfl, f, Jb, hl⟩ | ⟨hr, hl⟩
  · have hf70 : (2 : Int32) = (2 : Int32) := rfl
    refine GoOn.step (fun t₀ k₀ => XS.icmpYes X69.here hx rfl (pc0 := 17) (pc' := 57) rfl (hb hby d8_17) rfl (teq hf70).1 (by decide) (by decide) k₀) ?_
    show GoOn p e below _ (T69.setTop (mkF m 57 #[.val (.ref ca), .val (.int (0 : Int32)), .val (.int (2 : Int32)), .val (.ref b), .val (.int (2 : Int32)), .unset] []))
    refine GoOn.step (fun t₀ k₀ => XS.aloadN X69.here hx rfl (hb hby d8_57) rfl rfl k₀) ?_
    show GoOn p e below _ (T69.setTop (mkF m 58 #[.val (.ref ca), .val (.int (0 : Int32)), .val (.int (2 : Int32)), .val (.ref b), .val (.int (2 : Int32)), .unset] [(.ref b)]))
    exact GoOn.retR X69 hx hrt rfl hlk rfl (hb hby d8_58) (by decide) (by decide) ⟨b, f, _, rfl, N0, K0, sz_b, Jb, Or.inl ⟨rfl, hl⟩⟩
  · have hf71 : ¬ (r = (2 : Int32)) := hr.2.2
    refine GoOn.step (fun t₀ k₀ => XS.icmpNo X69.here hx rfl (hb hby d8_17) rfl (feq hf71).1 k₀) ?_
    show GoOn p e below _ (T69.setTop (mkF m 20 #[.val (.ref ca), .val (.int (0 : Int32)), .val (.int (2 : Int32)), .val (.ref b), .val (.int r), .unset] []))
    refine GoOn.step (fun t₀ k₀ => XS.aloadN X69.here hx rfl (hb hby d8_20) rfl rfl k₀) ?_
    show GoOn p e below _ (T69.setTop (mkF m 21 #[.val (.ref ca), .val (.int (0 : Int32)), .val (.int (2 : Int32)), .val (.ref b), .val (.int r), .unset] [(.ref ca)]))
    refine GoOn.step (fun t₀ k₀ => XS.iloadN X69.here hx rfl (hb hby d8_21) rfl k₀) ?_
    show GoOn p e below _ (T69.setTop (mkF m 22 #[.val (.ref ca), .val (.int (0 : Int32)), .val (.int (2 : Int32)), .val (.ref b), .val (.int r), .unset] [(.int (0 : Int32)), (.ref ca)]))
    refine GoOn.step (fun t₀ k₀ => XS.iloadN X69.here hx rfl (hb hby d8_22) rfl k₀) ?_
    show GoOn p e below _ (T69.setTop (mkF m 23 #[.val (.ref ca), .val (.int (0 : Int32)), .val (.int (2 : Int32)), .val (.ref b), .val (.int r), .unset] [(.int (2 : Int32)), (.int (0 : Int32)), (.ref ca)]))
    obtain ⟨_, T72, L72, X72, hQ72, st72⟩ := kCallS X69 hx hZ (argsL := [(.ref ca), (.int (0 : Int32)), (.int (2 : Int32))]) (rest := []) (c_tb2 l Z a0 hw ca g cs fv T69.heap n0 Z0 O SS Jc) hown (hw _ (List.mem_of_getElem? (i := 74) rfl)) (hw _ (List.mem_of_getElem? (i := 75) rfl)) (hw _ (List.mem_of_getElem? (i := 44) rfl)) (hw _ (List.mem_of_getElem? (i := 76) rfl)) (by decide) rfl (g := (mkF m 23 #[.val (.ref ca), .val (.int (0 : Int32)), .val (.int (2 : Int32)), .val (.ref b), .val (.int r), .unset] [(.int (2 : Int32)), (.int (0 : Int32)), (.ref ca)])) rfl (by rw [hml]; rfl) (lenOf pd_11 rfl) rfl (W := 0) (by show 2 * 0 + _ ≤ _; exact Nat.le_of_eq rfl) (hb hby d8_23) (by decide) (by decide) (by decide) (by decide)
    obtain ⟨y, f, rfl, N72, K72, sy, J72, hu⟩ := hQ72
    replace N0 := Fr.app N0 N72
    have sz2 := Nat.le_trans K0.1 sy
    replace K0 := K0.trans K72 all0
    replace Jc := Jc.keep K72 nin0
    replace O := O.keep K72 all0
    replace Z0 := Nat.le_trans Z0 K72.1
    have Jb := J72
    refine GoOn.step st72 ?_
    show GoOn p e below _ (T72.setTop (mkF m 26 #[.val (.ref ca), .val (.int (0 : Int32)), .val (.int (2 : Int32)), .val (.ref b), .val (.int r), .unset] [(.ref y)]))
    refine GoOn.step (fun t₀ k₀ => XS.astore X72.here hx rfl (hb hby d8_26) rfl rfl (l' := #[.val (.ref ca), .val (.int (0 : Int32)), .val (.int (2 : Int32)), .val (.ref b), .val (.int r), .val (.ref y)]) rfl k₀) ?_
    show GoOn p e below _ (T72.setTop (mkF m 28 #[.val (.ref ca), .val (.int (0 : Int32)), .val (.int (2 : Int32)), .val (.ref b), .val (.int r), .val (.ref y)] []))
    refine GoOn.step (fun t₀ k₀ => XS.aload X72.here hx rfl (hb hby d8_28) rfl rfl k₀) ?_
    show GoOn p e below _ (T72.setTop (mkF m 30 #[.val (.ref ca), .val (.int (0 : Int32)), .val (.int (2 : Int32)), .val (.ref b), .val (.int r), .val (.ref y)] [(.ref y)]))
    refine GoOn.step (fun t₀ k₀ => XS.iload X72.here hx rfl (hb hby d8_30) rfl k₀) ?_
    show GoOn p e below _ (T72.setTop (mkF m 32 #[.val (.ref ca), .val (.int (0 : Int32)), .val (.int (2 : Int32)), .val (.ref b), .val (.int r), .val (.ref y)] [(.int r), (.ref y)]))
    have hru := hu r.toNatClampNeg (by have := clN hr.1; omega)
    obtain ⟨_, T73, L73, X73, hQ73, st73⟩ := kCallS X72 hx hZ (argsL := [(.ref y), (.int r)]) (rest := []) (c_gc l Z a0 hw y r (g r.toNatClampNeg) (2 * 2) f cs fv T72.heap n0 O SS Jb (by decide) ⟨hr.1, by omega⟩ hru.1 hru.2 (Cg _)) hown (hw _ (List.mem_of_getElem? (i := 90) rfl)) (hw _ (List.mem_of_getElem? (i := 91) rfl)) (hw _ (List.mem_of_getElem? (i := 44) rfl)) (hw _ (List.mem_of_getElem? (i := 92) rfl)) (by decide) rfl (g := (mkF m 32 #[.val (.ref ca), .val (.int (0 : Int32)), .val (.int (2 : Int32)), .val (.ref b), .val (.int r), .val (.ref y)] [(.int r), (.ref y)])) rfl (by rw [hml]; rfl) (lenOf pd_5 rfl) rfl (W := 0) (by show 2 * 0 + _ ≤ _; exact Nat.le_of_eq rfl) (hb hby d8_32) (by decide) (by decide) (by decide) (by decide)
    obtain ⟨rfl, rfl, e73⟩ := hQ73
    rw [List.append_nil] at X73
    refine GoOn.step st73 ?_
    show GoOn p e below _ (T73.setTop (mkF m 35 #[.val (.ref ca), .val (.int (0 : Int32)), .val (.int (2 : Int32)), .val (.ref b), .val (.int r), .val (.ref y)] [(.int (g r.toNatClampNeg))]))
    refine GoOn.step (fun t₀ k₀ => XS.sipush X73.here hx rfl (hb hby d8_35) k₀) ?_
    show GoOn p e below _ (T73.setTop (mkF m 38 #[.val (.ref ca), .val (.int (0 : Int32)), .val (.int (2 : Int32)), .val (.ref b), .val (.int r), .val (.ref y)] [(.int (255 : Int32)), (.int (g r.toNatClampNeg))]))
    have hf74 : (255 : Int32) < (g r.toNatClampNeg) := hl
    refine GoOn.step (fun t₀ k₀ => XS.icmpYes X73.here hx rfl (pc0 := 38) (pc' := 54) rfl (hb hby d8_38) rfl (tlt hf74).2.2.1 (by decide) (by decide) k₀) ?_
    show GoOn p e below _ (T73.setTop (mkF m 54 #[.val (.ref ca), .val (.int (0 : Int32)), .val (.int (2 : Int32)), .val (.ref b), .val (.int r), .val (.ref y)] []))
    refine GoOn.step (fun t₀ k₀ => XS.aload X73.here hx rfl (hb hby d8_54) rfl rfl k₀) ?_
    show GoOn p e below _ (T73.setTop (mkF m 56 #[.val (.ref ca), .val (.int (0 : Int32)), .val (.int (2 : Int32)), .val (.ref b), .val (.int r), .val (.ref y)] [(.ref y)]))
    exact GoOn.retR X73 hx hrt rfl hlk rfl (hb hby d8_56) (by decide) (by decide) (by first | exact ⟨y, f, _, rfl, N0, K0, sz2, Jb, Or.inr ⟨rfl, hu⟩⟩ | (rw [e73]; exact ⟨y, f, _, rfl, N0, K0, sz2, Jb, Or.inr ⟨rfl, hu⟩⟩))
theorem ef_c_tb3 (m : MethodId) (x0 : Addr) (x1 : Int32) (x2 : Int32) : entryFrame m #[(.ref x0), (.int x1), (.int x2)] 5 = mkF m 0 #[.val (.ref x0), .val (.int x1), .val (.int x2), .unset, .unset] [] := by first | (simp [entryFrame, mkF, argsToLocals, Value.category]; done) | rfl
set_option maxRecDepth 65536 in
set_option maxHeartbeats 40000000 in
theorem c_tb3 (l : Launch) (Z : State) (a0 : Array Value) (hw : ∀ d ∈ tables_1, d.before a0 Z = true) (ca : Addr) (g : Nat → Int32) (cs : Int32) (fv : Value) (h0 : Heap) (n0 : Nat) (Z0 : n0 ≤ h0.size) (O : Old Z n0 h0) (SS : Stt Z cs fv) (Jc : Jar Z h0 ca .char 3 (fun i => .int (g i))) :
    Con l Z (⟨"java/lang/StringUTF16", "toBytes", "([CII)[B"⟩ : MethodName) jdk_52_method_14_code 5 (some (.array .byte)) ({ frames := 2, cells := 1, slots := 6, locals := 32 } : Room) #[(.ref ca), (.int (0 : Int32)), (.int (3 : Int32))] h0 (TbQ Z 3 g h0 n0) := by
  refine Con.intro (plainFor_of_name pn_4) ?_
  intro p e s m below meth c s₁ hx hby hml hrt hlk hZ hown hnm X0 e0
  replace hown : s.vm.findClass "java/lang/StringUTF16" = some m.cls := hown
  have N0 := Fr.nil n0
  refine GoOn.cast (ef_c_tb3 m ca (0 : Int32) (3 : Int32)) ?_
  show GoOn p e below _ (s₁.setTop (mkF m 0 #[.val (.ref ca), .val (.int (0 : Int32)), .val (.int (3 : Int32)), .unset, .unset] []))
  have K0 : Keep h0 h0 [] := Keep.refl _ _
  refine GoOn.step (fun t₀ k₀ => XS.iloadN X0.here hx rfl (hb hby d16_0) rfl k₀) ?_
  show GoOn p e below _ (s₁.setTop (mkF m 1 #[.val (.ref ca), .val (.int (0 : Int32)), .val (.int (3 : Int32)), .unset, .unset] [(.int (3 : Int32))]))
  obtain ⟨_, T75, L75, X75, hQ75, st75⟩ := kCallS X0 hx hZ (argsL := [(.int (3 : Int32))]) (rest := []) (c_nf3 l Z a0 hw h0) hown (hw _ (List.mem_of_getElem? (i := 77) rfl)) (hw _ (List.mem_of_getElem? (i := 78) rfl)) (hw _ (List.mem_of_getElem? (i := 44) rfl)) (hw _ (List.mem_of_getElem? (i := 79) rfl)) (by decide) e0 (g := (mkF m 1 #[.val (.ref ca), .val (.int (0 : Int32)), .val (.int (3 : Int32)), .unset, .unset] [(.int (3 : Int32))])) rfl (by rw [hml]; rfl) (lenOf pd_8 rfl) rfl (W := 0) (by show 2 * 0 + _ ≤ _; exact Nat.le_of_eq rfl) (hb hby d16_1) (by decide) (by decide) (by decide) (by decide)
  obtain ⟨b, rfl, rfl, E75, szb, Jb⟩ := hQ75
  rw [List.append_nil] at X75
  have ne_ca_b : ca ≠ b := Nat.ne_of_lt (Nat.lt_of_lt_of_le Jc.lt szb)
  have le_b : n0 ≤ b := Nat.le_trans Z0 szb
  replace Jc := Jc.ext E75
  replace O := O.ext E75
  replace Z0 := Nat.le_trans Z0 E75.1
  replace K0 := K0.ext E75
  refine GoOn.step st75 ?_
  show GoOn p e below _ (T75.setTop (mkF m 4 #[.val (.ref ca), .val (.int (0 : Int32)), .val (.int (3 : Int32)), .unset, .unset] [(.ref b)]))
  refine GoOn.step (fun t₀ k₀ => XS.astoreN X75.here hx rfl (hb hby d16_4) rfl rfl (l' := #[.val (.ref ca), .val (.int (0 : Int32)), .val (.int (3 : Int32)), .val (.ref b), .unset]) rfl k₀) ?_
  show GoOn p e below _ (T75.setTop (mkF m 5 #[.val (.ref ca), .val (.int (0 : Int32)), .val (.int (3 : Int32)), .val (.ref b), .unset] []))
  refine GoOn.step (fun t₀ k₀ => XS.iconst X75.here hx rfl (hb hby d16_5) k₀) ?_
  show GoOn p e below _ (T75.setTop (mkF m 6 #[.val (.ref ca), .val (.int (0 : Int32)), .val (.int (3 : Int32)), .val (.ref b), .unset] [(.int (0 : Int32))]))
  refine GoOn.step (fun t₀ k₀ => XS.istore X75.here hx rfl (hb hby d16_6) rfl (l' := #[.val (.ref ca), .val (.int (0 : Int32)), .val (.int (3 : Int32)), .val (.ref b), .val (.int (0 : Int32))]) rfl k₀) ?_
  show GoOn p e below _ (T75.setTop (mkF m 8 #[.val (.ref ca), .val (.int (0 : Int32)), .val (.int (3 : Int32)), .val (.ref b), .val (.int (0 : Int32))] []))
  refine GoOn.step (fun t₀ k₀ => XS.iload X75.here hx rfl (hb hby d16_8) rfl k₀) ?_
  show GoOn p e below _ (T75.setTop (mkF m 10 #[.val (.ref ca), .val (.int (0 : Int32)), .val (.int (3 : Int32)), .val (.ref b), .val (.int (0 : Int32))] [(.int (0 : Int32))]))
  refine GoOn.step (fun t₀ k₀ => XS.iloadN X75.here hx rfl (hb hby d16_10) rfl k₀) ?_
  show GoOn p e below _ (T75.setTop (mkF m 11 #[.val (.ref ca), .val (.int (0 : Int32)), .val (.int (3 : Int32)), .val (.ref b), .val (.int (0 : Int32))] [(.int (3 : Int32)), (.int (0 : Int32))]))
  have hf76 : (0 : Int32) < (3 : Int32) := (by decide)
  refine GoOn.step (fun t₀ k₀ => XS.icmpNo X75.here hx rfl (hb hby d16_11) rfl (tlt hf76).2.1 k₀) ?_
  show GoOn p e below _ (T75.setTop (mkF m 14 #[.val (.ref ca), .val (.int (0 : Int32)), .val (.int (3 : Int32)), .val (.ref b), .val (.int (0 : Int32))] []))
  refine GoOn.step (fun t₀ k₀ => XS.aloadN X75.here hx rfl (hb hby d16_14) rfl rfl k₀) ?_
  show GoOn p e below _ (T75.setTop (mkF m 15 #[.val (.ref ca), .val (.int (0 : Int32)), .val (.int (3 : Int32)), .val (.ref b), .val (.int (0 : Int32))] [(.ref b)]))
  refine GoOn.step (fun t₀ k₀ => XS.iload X75.here hx rfl (hb hby d16_15) rfl k₀) ?_
  show GoOn p e below _ (T75.setTop (mkF m 17 #[.val (.ref ca), .val (.int (0 : Int32)), .val (.int (3 : Int32)), .val (.ref b), .val (.int (0 : Int32))] [(.int (0 : Int32)), (.ref b)]))
  refine GoOn.step (fun t₀ k₀ => XS.aloadN X75.here hx rfl (hb hby d16_17) rfl rfl k₀) ?_
  show GoOn p e below _ (T75.setTop (mkF m 18 #[.val (.ref ca), .val (.int (0 : Int32)), .val (.int (3 : Int32)), .val (.ref b), .val (.int (0 : Int32))] [(.ref ca), (.int (0 : Int32)), (.ref b)]))
  refine GoOn.step (fun t₀ k₀ => XS.iloadN X75.here hx rfl (hb hby d16_18) rfl k₀) ?_
  show GoOn p e below _ (T75.setTop (mkF m 19 #[.val (.ref ca), .val (.int (0 : Int32)), .val (.int (3 : Int32)), .val (.ref b), .val (.int (0 : Int32))] [(.int (0 : Int32)), (.ref ca), (.int (0 : Int32)), (.ref b)]))
  refine GoOn.step (fun t₀ k₀ => kLdC X75 hx hZ rfl Jc (j := (0 : Int32)) (v := (.int (g 0))) ⟨by decide, by decide⟩ rfl (g := (mkF m 19 #[.val (.ref ca), .val (.int (0 : Int32)), .val (.int (3 : Int32)), .val (.ref b), .val (.int (0 : Int32))] [(.int (0 : Int32)), (.ref ca), (.int (0 : Int32)), (.ref b)])) rfl rfl (hb hby d16_19) t₀ k₀) ?_
  show GoOn p e below _ (T75.setTop (mkF m 20 #[.val (.ref ca), .val (.int (0 : Int32)), .val (.int (3 : Int32)), .val (.ref b), .val (.int (0 : Int32))] [(.int (g 0)), (.int (0 : Int32)), (.ref b)]))
  obtain ⟨_, T77, L77, X77, hQ77, st77⟩ := kCallS X75 hx hZ (argsL := [(.ref b), (.int (0 : Int32)), (.int (g 0))]) (rest := []) (c_pu l Z a0 hw b (0 : Int32) (g 0) (2 * 3) (fun _ => defaultValue .byte) cs fv T75.heap n0 Z0 O SS Jb (by decide) ⟨by decide, by decide⟩ le_b) hown (hw _ (List.mem_of_getElem? (i := 84) rfl)) (hw _ (List.mem_of_getElem? (i := 85) rfl)) (hw _ (List.mem_of_getElem? (i := 44) rfl)) (hw _ (List.mem_of_getElem? (i := 86) rfl)) (by decide) rfl (g := (mkF m 20 #[.val (.ref ca), .val (.int (0 : Int32)), .val (.int (3 : Int32)), .val (.ref b), .val (.int (0 : Int32))] [(.int (g 0)), (.int (0 : Int32)), (.ref b)])) rfl (by rw [hml]; rfl) (lenOf pd_9 rfl) rfl (W := 0) (by show 2 * 0 + _ ≤ _; exact Nat.le_of_eq rfl) (hb hby d16_20) (by decide) (by decide) (by decide) (by decide)
  obtain ⟨rfl, N77, K77, J77⟩ := hQ77
  replace N0 := Fr.app N0 N77
  replace K0 := K0.trans K77 (allS (Or.inr szb) all0)
  replace Jc := Jc.keep K77 (ninS ne_ca_b nin0)
  clear Jb
  replace O := O.keep K77 (allS le_b all0)
  replace Z0 := Nat.le_trans Z0 K77.1
  have Jb := J77
  refine GoOn.step st77 ?_
  show GoOn p e below _ (T77.setTop (mkF m 23 #[.val (.ref ca), .val (.int (0 : Int32)), .val (.int (3 : Int32)), .val (.ref b), .val (.int (0 : Int32))] []))
  refine GoOn.step (fun t₀ k₀ => XS.iinc X77.here hx rfl (hb hby d16_23) rfl (l' := #[.val (.ref ca), .val (.int ((0 : Int32) + (1 : Int32))), .val (.int (3 : Int32)), .val (.ref b), .val (.int (0 : Int32))]) rfl k₀) ?_
  show GoOn p e below _ (T77.setTop (mkF m 26 #[.val (.ref ca), .val (.int ((0 : Int32) + (1 : Int32))), .val (.int (3 : Int32)), .val (.ref b), .val (.int (0 : Int32))] []))
  refine GoOn.step (fun t₀ k₀ => XS.iinc X77.here hx rfl (hb hby d16_26) rfl (l' := #[.val (.ref ca), .val (.int ((0 : Int32) + (1 : Int32))), .val (.int (3 : Int32)), .val (.ref b), .val (.int ((0 : Int32) + (1 : Int32)))]) rfl k₀) ?_
  show GoOn p e below _ (T77.setTop (mkF m 29 #[.val (.ref ca), .val (.int ((0 : Int32) + (1 : Int32))), .val (.int (3 : Int32)), .val (.ref b), .val (.int ((0 : Int32) + (1 : Int32)))] []))
  rw [show ((0 : Int32) + (1 : Int32)) = (1 : Int32) from (by decide)]
  refine GoOn.step (fun t₀ k₀ => XS.goto X77.here hx rfl (pc0 := 29) (pc' := 8) rfl (hb hby d16_29) (by decide) (by decide) k₀) ?_
  show GoOn p e below _ (T77.setTop (mkF m 8 #[.val (.ref ca), .val (.int (1 : Int32)), .val (.int (3 : Int32)), .val (.ref b), .val (.int (1 : Int32))] []))
  refine GoOn.step (fun t₀ k₀ => XS.iload X77.here hx rfl (hb hby d16_8) rfl k₀) ?_
  show GoOn p e below _ (T77.setTop (mkF m 10 #[.val (.ref ca), .val (.int (1 : Int32)), .val (.int (3 : Int32)), .val (.ref b), .val (.int (1 : Int32))] [(.int (1 : Int32))]))
  refine GoOn.step (fun t₀ k₀ => XS.iloadN X77.here hx rfl (hb hby d16_10) rfl k₀) ?_
  show GoOn p e below _ (T77.setTop (mkF m 11 #[.val (.ref ca), .val (.int (1 : Int32)), .val (.int (3 : Int32)), .val (.ref b), .val (.int (1 : Int32))] [(.int (3 : Int32)), (.int (1 : Int32))]))
  have hf78 : (1 : Int32) < (3 : Int32) := (by decide)
  refine GoOn.step (fun t₀ k₀ => XS.icmpNo X77.here hx rfl (hb hby d16_11) rfl (tlt hf78).2.1 k₀) ?_
  show GoOn p e below _ (T77.setTop (mkF m 14 #[.val (.ref ca), .val (.int (1 : Int32)), .val (.int (3 : Int32)), .val (.ref b), .val (.int (1 : Int32))] []))
  refine GoOn.step (fun t₀ k₀ => XS.aloadN X77.here hx rfl (hb hby d16_14) rfl rfl k₀) ?_
  show GoOn p e below _ (T77.setTop (mkF m 15 #[.val (.ref ca), .val (.int (1 : Int32)), .val (.int (3 : Int32)), .val (.ref b), .val (.int (1 : Int32))] [(.ref b)]))
  refine GoOn.step (fun t₀ k₀ => XS.iload X77.here hx rfl (hb hby d16_15) rfl k₀) ?_
  show GoOn p e below _ (T77.setTop (mkF m 17 #[.val (.ref ca), .val (.int (1 : Int32)), .val (.int (3 : Int32)), .val (.ref b), .val (.int (1 : Int32))] [(.int (1 : Int32)), (.ref b)]))
  refine GoOn.step (fun t₀ k₀ => XS.aloadN X77.here hx rfl (hb hby d16_17) rfl rfl k₀) ?_
  show GoOn p e below _ (T77.setTop (mkF m 18 #[.val (.ref ca), .val (.int (1 : Int32)), .val (.int (3 : Int32)), .val (.ref b), .val (.int (1 : Int32))] [(.ref ca), (.int (1 : Int32)), (.ref b)]))
  refine GoOn.step (fun t₀ k₀ => XS.iloadN X77.here hx rfl (hb hby d16_18) rfl k₀) ?_
  show GoOn p e below _ (T77.setTop (mkF m 19 #[.val (.ref ca), .val (.int (1 : Int32)), .val (.int (3 : Int32)), .val (.ref b), .val (.int (1 : Int32))] [(.int (1 : Int32)), (.ref ca), (.int (1 : Int32)), (.ref b)]))
  refine GoOn.step (fun t₀ k₀ => kLdC X77 hx hZ rfl Jc (j := (1 : Int32)) (v := (.int (g 1))) ⟨by decide, by decide⟩ rfl (g := (mkF m 19 #[.val (.ref ca), .val (.int (1 : Int32)), .val (.int (3 : Int32)), .val (.ref b), .val (.int (1 : Int32))] [(.int (1 : Int32)), (.ref ca), (.int (1 : Int32)), (.ref b)])) rfl rfl (hb hby d16_19) t₀ k₀) ?_
  show GoOn p e below _ (T77.setTop (mkF m 20 #[.val (.ref ca), .val (.int (1 : Int32)), .val (.int (3 : Int32)), .val (.ref b), .val (.int (1 : Int32))] [(.int (g 1)), (.int (1 : Int32)), (.ref b)]))
  obtain ⟨_, T79, L79, X79, hQ79, st79⟩ := kCallS X77 hx hZ (argsL := [(.ref b), (.int (1 : Int32)), (.int (g 1))]) (rest := []) (c_pu l Z a0 hw b (1 : Int32) (g 1) (2 * 3) (pchF (fun _ => defaultValue .byte) (0 : Int32).toNatClampNeg (g 0)) cs fv T77.heap n0 Z0 O SS Jb (by decide) ⟨by decide, by decide⟩ le_b) hown (hw _ (List.mem_of_getElem? (i := 84) rfl)) (hw _ (List.mem_of_getElem? (i := 85) rfl)) (hw _ (List.mem_of_getElem? (i := 44) rfl)) (hw _ (List.mem_of_getElem? (i := 86) rfl)) (by decide) rfl (g := (mkF m 20 #[.val (.ref ca), .val (.int (1 : Int32)), .val (.int (3 : Int32)), .val (.ref b), .val (.int (1 : Int32))] [(.int (g 1)), (.int (1 : Int32)), (.ref b)])) rfl (by rw [hml]; rfl) (lenOf pd_9 rfl) rfl (W := 0) (by show 2 * 0 + _ ≤ _; exact Nat.le_of_eq rfl) (hb hby d16_20) (by decide) (by decide) (by decide) (by decide)
  obtain ⟨rfl, N79, K79, J79⟩ := hQ79
  replace N0 := Fr.app N0 N79
  replace K0 := K0.trans K79 (allS (Or.inr szb) all0)
  replace Jc := Jc.keep K79 (ninS ne_ca_b nin0)
  clear Jb
  replace O := O.keep K79 (allS le_b all0)
  replace Z0 := Nat.le_trans Z0 K79.1
  have Jb := J79
  refine GoOn.step st79 ?_
  show GoOn p e below _ (T79.setTop (mkF m 23 #[.val (.ref ca), .val (.int (1 : Int32)), .val (.int (3 : Int32)), .val (.ref b), .val (.int (1 : Int32))] []))
  refine GoOn.step (fun t₀ k₀ => XS.iinc X79.here hx rfl (hb hby d16_23) rfl (l' := #[.val (.ref ca), .val (.int ((1 : Int32) + (1 : Int32))), .val (.int (3 : Int32)), .val (.ref b), .val (.int (1 : Int32))]) rfl k₀) ?_
  show GoOn p e below _ (T79.setTop (mkF m 26 #[.val (.ref ca), .val (.int ((1 : Int32) + (1 : Int32))), .val (.int (3 : Int32)), .val (.ref b), .val (.int (1 : Int32))] []))
  refine GoOn.step (fun t₀ k₀ => XS.iinc X79.here hx rfl (hb hby d16_26) rfl (l' := #[.val (.ref ca), .val (.int ((1 : Int32) + (1 : Int32))), .val (.int (3 : Int32)), .val (.ref b), .val (.int ((1 : Int32) + (1 : Int32)))]) rfl k₀) ?_
  show GoOn p e below _ (T79.setTop (mkF m 29 #[.val (.ref ca), .val (.int ((1 : Int32) + (1 : Int32))), .val (.int (3 : Int32)), .val (.ref b), .val (.int ((1 : Int32) + (1 : Int32)))] []))
  rw [show ((1 : Int32) + (1 : Int32)) = (2 : Int32) from (by decide)]
  refine GoOn.step (fun t₀ k₀ => XS.goto X79.here hx rfl (pc0 := 29) (pc' := 8) rfl (hb hby d16_29) (by decide) (by decide) k₀) ?_
  show GoOn p e below _ (T79.setTop (mkF m 8 #[.val (.ref ca), .val (.int (2 : Int32)), .val (.int (3 : Int32)), .val (.ref b), .val (.int (2 : Int32))] []))
  refine GoOn.step (fun t₀ k₀ => XS.iload X79.here hx rfl (hb hby d16_8) rfl k₀) ?_
  show GoOn p e below _ (T79.setTop (mkF m 10 #[.val (.ref ca), .val (.int (2 : Int32)), .val (.int (3 : Int32)), .val (.ref b), .val (.int (2 : Int32))] [(.int (2 : Int32))]))
  refine GoOn.step (fun t₀ k₀ => XS.iloadN X79.here hx rfl (hb hby d16_10) rfl k₀) ?_
  show GoOn p e below _ (T79.setTop (mkF m 11 #[.val (.ref ca), .val (.int (2 : Int32)), .val (.int (3 : Int32)), .val (.ref b), .val (.int (2 : Int32))] [(.int (3 : Int32)), (.int (2 : Int32))]))
  have hf80 : (2 : Int32) < (3 : Int32) := (by decide)
  refine GoOn.step (fun t₀ k₀ => XS.icmpNo X79.here hx rfl (hb hby d16_11) rfl (tlt hf80).2.1 k₀) ?_
  show GoOn p e below _ (T79.setTop (mkF m 14 #[.val (.ref ca), .val (.int (2 : Int32)), .val (.int (3 : Int32)), .val (.ref b), .val (.int (2 : Int32))] []))
  refine GoOn.step (fun t₀ k₀ => XS.aloadN X79.here hx rfl (hb hby d16_14) rfl rfl k₀) ?_
  show GoOn p e below _ (T79.setTop (mkF m 15 #[.val (.ref ca), .val (.int (2 : Int32)), .val (.int (3 : Int32)), .val (.ref b), .val (.int (2 : Int32))] [(.ref b)]))
  refine GoOn.step (fun t₀ k₀ => XS.iload X79.here hx rfl (hb hby d16_15) rfl k₀) ?_
  show GoOn p e below _ (T79.setTop (mkF m 17 #[.val (.ref ca), .val (.int (2 : Int32)), .val (.int (3 : Int32)), .val (.ref b), .val (.int (2 : Int32))] [(.int (2 : Int32)), (.ref b)]))
  refine GoOn.step (fun t₀ k₀ => XS.aloadN X79.here hx rfl (hb hby d16_17) rfl rfl k₀) ?_
  show GoOn p e below _ (T79.setTop (mkF m 18 #[.val (.ref ca), .val (.int (2 : Int32)), .val (.int (3 : Int32)), .val (.ref b), .val (.int (2 : Int32))] [(.ref ca), (.int (2 : Int32)), (.ref b)]))
  refine GoOn.step (fun t₀ k₀ => XS.iloadN X79.here hx rfl (hb hby d16_18) rfl k₀) ?_
  show GoOn p e below _ (T79.setTop (mkF m 19 #[.val (.ref ca), .val (.int (2 : Int32)), .val (.int (3 : Int32)), .val (.ref b), .val (.int (2 : Int32))] [(.int (2 : Int32)), (.ref ca), (.int (2 : Int32)), (.ref b)]))
  refine GoOn.step (fun t₀ k₀ => kLdC X79 hx hZ rfl Jc (j := (2 : Int32)) (v := (.int (g 2))) ⟨by decide, by decide⟩ rfl (g := (mkF m 19 #[.val (.ref ca), .val (.int (2 : Int32)), .val (.int (3 : Int32)), .val (.ref b), .val (.int (2 : Int32))] [(.int (2 : Int32)), (.ref ca), (.int (2 : Int32)), (.ref b)])) rfl rfl (hb hby d16_19) t₀ k₀) ?_
  show GoOn p e below _ (T79.setTop (mkF m 20 #[.val (.ref ca), .val (.int (2 : Int32)), .val (.int (3 : Int32)), .val (.ref b), .val (.int (2 : Int32))] [(.int (g 2)), (.int (2 : Int32)), (.ref b)]))
  obtain ⟨_, T81, L81, X81, hQ81, st81⟩ := kCallS X79 hx hZ (argsL := [(.ref b), (.int (2 : Int32)), (.int (g 2))]) (rest := []) (c_pu l Z a0 hw b (2 : Int32) (g 2) (2 * 3) (pchF (pchF (fun _ => defaultValue .byte) (0 : Int32).toNatClampNeg (g 0)) (1 : Int32).toNatClampNeg (g 1)) cs fv T79.heap n0 Z0 O SS Jb (by decide) ⟨by decide, by decide⟩ le_b) hown (hw _ (List.mem_of_getElem? (i := 84) rfl)) (hw _ (List.mem_of_getElem? (i := 85) rfl)) (hw _ (List.mem_of_getElem? (i := 44) rfl)) (hw _ (List.mem_of_getElem? (i := 86) rfl)) (by decide) rfl (g := (mkF m 20 #[.val (.ref ca), .val (.int (2 : Int32)), .val (.int (3 : Int32)), .val (.ref b), .val (.int (2 : Int32))] [(.int (g 2)), (.int (2 : Int32)), (.ref b)])) rfl (by rw [hml]; rfl) (lenOf pd_9 rfl) rfl (W := 0) (by show 2 * 0 + _ ≤ _; exact Nat.le_of_eq rfl) (hb hby d16_20) (by decide) (by decide) (by decide) (by decide)
  obtain ⟨rfl, N81, K81, J81⟩ := hQ81
  replace N0 := Fr.app N0 N81
  replace K0 := K0.trans K81 (allS (Or.inr szb) all0)
  replace Jc := Jc.keep K81 (ninS ne_ca_b nin0)
  clear Jb
  replace O := O.keep K81 (allS le_b all0)
  replace Z0 := Nat.le_trans Z0 K81.1
  have Jb := J81
  refine GoOn.step st81 ?_
  show GoOn p e below _ (T81.setTop (mkF m 23 #[.val (.ref ca), .val (.int (2 : Int32)), .val (.int (3 : Int32)), .val (.ref b), .val (.int (2 : Int32))] []))
  refine GoOn.step (fun t₀ k₀ => XS.iinc X81.here hx rfl (hb hby d16_23) rfl (l' := #[.val (.ref ca), .val (.int ((2 : Int32) + (1 : Int32))), .val (.int (3 : Int32)), .val (.ref b), .val (.int (2 : Int32))]) rfl k₀) ?_
  show GoOn p e below _ (T81.setTop (mkF m 26 #[.val (.ref ca), .val (.int ((2 : Int32) + (1 : Int32))), .val (.int (3 : Int32)), .val (.ref b), .val (.int (2 : Int32))] []))
  refine GoOn.step (fun t₀ k₀ => XS.iinc X81.here hx rfl (hb hby d16_26) rfl (l' := #[.val (.ref ca), .val (.int ((2 : Int32) + (1 : Int32))), .val (.int (3 : Int32)), .val (.ref b), .val (.int ((2 : Int32) + (1 : Int32)))]) rfl k₀) ?_
  show GoOn p e below _ (T81.setTop (mkF m 29 #[.val (.ref ca), .val (.int ((2 : Int32) + (1 : Int32))), .val (.int (3 : Int32)), .val (.ref b), .val (.int ((2 : Int32) + (1 : Int32)))] []))
  rw [show ((2 : Int32) + (1 : Int32)) = (3 : Int32) from (by decide)]
  refine GoOn.step (fun t₀ k₀ => XS.goto X81.here hx rfl (pc0 := 29) (pc' := 8) rfl (hb hby d16_29) (by decide) (by decide) k₀) ?_
  show GoOn p e below _ (T81.setTop (mkF m 8 #[.val (.ref ca), .val (.int (3 : Int32)), .val (.int (3 : Int32)), .val (.ref b), .val (.int (3 : Int32))] []))
  refine GoOn.step (fun t₀ k₀ => XS.iload X81.here hx rfl (hb hby d16_8) rfl k₀) ?_
  show GoOn p e below _ (T81.setTop (mkF m 10 #[.val (.ref ca), .val (.int (3 : Int32)), .val (.int (3 : Int32)), .val (.ref b), .val (.int (3 : Int32))] [(.int (3 : Int32))]))
  refine GoOn.step (fun t₀ k₀ => XS.iloadN X81.here hx rfl (hb hby d16_10) rfl k₀) ?_
  show GoOn p e below _ (T81.setTop (mkF m 11 #[.val (.ref ca), .val (.int (3 : Int32)), .val (.int (3 : Int32)), .val (.ref b), .val (.int (3 : Int32))] [(.int (3 : Int32)), (.int (3 : Int32))]))
  have hf82 : ¬ ((3 : Int32) < (3 : Int32)) := (by decide)
  refine GoOn.step (fun t₀ k₀ => XS.icmpYes X81.here hx rfl (pc0 := 11) (pc' := 32) rfl (hb hby d16_11) rfl (flt hf82).2.1 (by decide) (by decide) k₀) ?_
  show GoOn p e below _ (T81.setTop (mkF m 32 #[.val (.ref ca), .val (.int (3 : Int32)), .val (.int (3 : Int32)), .val (.ref b), .val (.int (3 : Int32))] []))
  refine GoOn.step (fun t₀ k₀ => XS.aloadN X81.here hx rfl (hb hby d16_32) rfl rfl k₀) ?_
  show GoOn p e below _ (T81.setTop (mkF m 33 #[.val (.ref ca), .val (.int (3 : Int32)), .val (.int (3 : Int32)), .val (.ref b), .val (.int (3 : Int32))] [(.ref b)]))
  exact GoOn.retR X81 hx hrt rfl hlk rfl (hb hby d16_33) (by decide) (by decide) ⟨b, _, rfl, N0, K0, szb, Jb, u16_3 ⟨by simp [pchF, nc0, nc1, nc2], by simp [pchF, nc0, nc1, nc2]⟩ ⟨by simp [pchF, nc0, nc1, nc2], by simp [pchF, nc0, nc1, nc2]⟩ ⟨by simp [pchF, nc0, nc1, nc2], by simp [pchF, nc0, nc1, nc2]⟩⟩
theorem ef_c_c5_3 (m : MethodId) (x0 : Addr) (x1 : Int32) (x2 : Addr) (x3 : Int32) (x4 : Int32) : entryFrame m #[(.ref x0), (.int x1), (.ref x2), (.int x3), (.int x4)] 7 = mkF m 0 #[.val (.ref x0), .val (.int x1), .val (.ref x2), .val (.int x3), .val (.int x4), .unset, .unset] [] := by first | (simp [entryFrame, mkF, argsToLocals, Value.category]; done) | rfl
set_option maxRecDepth 65536 in
set_option maxHeartbeats 40000000 in
theorem c_c5_3 (l : Launch) (Z : State) (a0 : Array Value) (hw : ∀ d ∈ tables_1, d.before a0 Z = true) (ca b : Addr) (g : Nat → Int32) (f : Nat → Value) (h0 : Heap) (n0 : Nat) (Z0 : n0 ≤ h0.size) (Jc : Jar Z h0 ca .char 3 (fun i => .int (g i))) (Jb : Jar Z h0 b .byte 3 f) (gb : n0 ≤ b) (ncb : ca ≠ b) :
    Con l Z (⟨"java/lang/StringUTF16", "compress", "([CI[BII)I"⟩ : MethodName) jdk_52_method_21_code 7 (some .int) ({ frames := 0, cells := 0, slots := 0, locals := 0 } : Room) #[(.ref ca), (.int (0 : Int32)), (.ref b), (.int (0 : Int32)), (.int (3 : Int32))] h0 (C5Q Z b 3 (3 : Int32) g h0 n0) := by
  refine Con.intro (plainFor_of_name pn_4) ?_
  intro p e s m below meth c s₁ hx hby hml hrt hlk hZ hown hnm X0 e0
  replace hown : s.vm.findClass "java/lang/StringUTF16" = some m.cls := hown
  have N0 := Fr.nil n0
  refine GoOn.cast (ef_c_c5_3 m ca (0 : Int32) b (0 : Int32) (3 : Int32)) ?_
  show GoOn p e below _ (s₁.setTop (mkF m 0 #[.val (.ref ca), .val (.int (0 : Int32)), .val (.ref b), .val (.int (0 : Int32)), .val (.int (3 : Int32)), .unset, .unset] []))
  have K0 : Keep h0 h0 [b] := Keep.refl _ _
  refine GoOn.step (fun t₀ k₀ => XS.iconst X0.here hx rfl (hb hby d9_0) k₀) ?_
  show GoOn p e below _ (s₁.setTop (mkF m 1 #[.val (.ref ca), .val (.int (0 : Int32)), .val (.ref b), .val (.int (0 : Int32)), .val (.int (3 : Int32)), .unset, .unset] [(.int (0 : Int32))]))
  refine GoOn.step (fun t₀ k₀ => XS.istore X0.here hx rfl (hb hby d9_1) rfl (l' := #[.val (.ref ca), .val (.int (0 : Int32)), .val (.ref b), .val (.int (0 : Int32)), .val (.int (3 : Int32)), .val (.int (0 : Int32)), .unset]) rfl k₀) ?_
  show GoOn p e below _ (s₁.setTop (mkF m 3 #[.val (.ref ca), .val (.int (0 : Int32)), .val (.ref b), .val (.int (0 : Int32)), .val (.int (3 : Int32)), .val (.int (0 : Int32)), .unset] []))
  refine GoOn.step (fun t₀ k₀ => XS.iload X0.here hx rfl (hb hby d9_3) rfl k₀) ?_
  show GoOn p e below _ (s₁.setTop (mkF m 5 #[.val (.ref ca), .val (.int (0 : Int32)), .val (.ref b), .val (.int (0 : Int32)), .val (.int (3 : Int32)), .val (.int (0 : Int32)), .unset] [(.int (0 : Int32))]))
  refine GoOn.step (fun t₀ k₀ => XS.iload X0.here hx rfl (hb hby d9_5) rfl k₀) ?_
  show GoOn p e below _ (s₁.setTop (mkF m 7 #[.val (.ref ca), .val (.int (0 : Int32)), .val (.ref b), .val (.int (0 : Int32)), .val (.int (3 : Int32)), .val (.int (0 : Int32)), .unset] [(.int (3 : Int32)), (.int (0 : Int32))]))
  have hf83 : (0 : Int32) < (3 : Int32) := (by decide)
  refine GoOn.step (fun t₀ k₀ => XS.icmpNo X0.here hx rfl (hb hby d9_7) rfl (tlt hf83).2.1 k₀) ?_
  show GoOn p e below _ (s₁.setTop (mkF m 10 #[.val (.ref ca), .val (.int (0 : Int32)), .val (.ref b), .val (.int (0 : Int32)), .val (.int (3 : Int32)), .val (.int (0 : Int32)), .unset] []))
  refine GoOn.step (fun t₀ k₀ => XS.aloadN X0.here hx rfl (hb hby d9_10) rfl rfl k₀) ?_
  show GoOn p e below _ (s₁.setTop (mkF m 11 #[.val (.ref ca), .val (.int (0 : Int32)), .val (.ref b), .val (.int (0 : Int32)), .val (.int (3 : Int32)), .val (.int (0 : Int32)), .unset] [(.ref ca)]))
  refine GoOn.step (fun t₀ k₀ => XS.iloadN X0.here hx rfl (hb hby d9_11) rfl k₀) ?_
  show GoOn p e below _ (s₁.setTop (mkF m 12 #[.val (.ref ca), .val (.int (0 : Int32)), .val (.ref b), .val (.int (0 : Int32)), .val (.int (3 : Int32)), .val (.int (0 : Int32)), .unset] [(.int (0 : Int32)), (.ref ca)]))
  refine GoOn.step (fun t₀ k₀ => kLdC X0 hx hZ e0 Jc (j := (0 : Int32)) (v := (.int (g 0))) ⟨by decide, by decide⟩ rfl (g := (mkF m 12 #[.val (.ref ca), .val (.int (0 : Int32)), .val (.ref b), .val (.int (0 : Int32)), .val (.int (3 : Int32)), .val (.int (0 : Int32)), .unset] [(.int (0 : Int32)), (.ref ca)])) rfl rfl (hb hby d9_12) t₀ k₀) ?_
  show GoOn p e below _ (s₁.setTop (mkF m 13 #[.val (.ref ca), .val (.int (0 : Int32)), .val (.ref b), .val (.int (0 : Int32)), .val (.int (3 : Int32)), .val (.int (0 : Int32)), .unset] [(.int (g 0))]))
  refine GoOn.step (fun t₀ k₀ => XS.istore X0.here hx rfl (hb hby d9_13) rfl (l' := #[.val (.ref ca), .val (.int (0 : Int32)), .val (.ref b), .val (.int (0 : Int32)), .val (.int (3 : Int32)), .val (.int (0 : Int32)), .val (.int (g 0))]) rfl k₀) ?_
  show GoOn p e below _ (s₁.setTop (mkF m 15 #[.val (.ref ca), .val (.int (0 : Int32)), .val (.ref b), .val (.int (0 : Int32)), .val (.int (3 : Int32)), .val (.int (0 : Int32)), .val (.int (g 0))] []))
  refine GoOn.step (fun t₀ k₀ => XS.iload X0.here hx rfl (hb hby d9_15) rfl k₀) ?_
  show GoOn p e below _ (s₁.setTop (mkF m 17 #[.val (.ref ca), .val (.int (0 : Int32)), .val (.ref b), .val (.int (0 : Int32)), .val (.int (3 : Int32)), .val (.int (0 : Int32)), .val (.int (g 0))] [(.int (g 0))]))
  refine GoOn.step (fun t₀ k₀ => XS.sipush X0.here hx rfl (hb hby d9_17) k₀) ?_
  show GoOn p e below _ (s₁.setTop (mkF m 20 #[.val (.ref ca), .val (.int (0 : Int32)), .val (.ref b), .val (.int (0 : Int32)), .val (.int (3 : Int32)), .val (.int (0 : Int32)), .val (.int (g 0))] [(.int (255 : Int32)), (.int (g 0))]))
  by_cases q0 : (255 : Int32) < (g 0)
  · refine GoOn.step (fun t₀ k₀ => XS.icmpNo X0.here hx rfl (hb hby d9_20) rfl (tlt q0).2.2.2 k₀) ?_
    show GoOn p e below _ (s₁.setTop (mkF m 23 #[.val (.ref ca), .val (.int (0 : Int32)), .val (.ref b), .val (.int (0 : Int32)), .val (.int (3 : Int32)), .val (.int (0 : Int32)), .val (.int (g 0))] []))
    refine GoOn.step (fun t₀ k₀ => XS.iload X0.here hx rfl (hb hby d9_23) rfl k₀) ?_
    show GoOn p e below _ (s₁.setTop (mkF m 25 #[.val (.ref ca), .val (.int (0 : Int32)), .val (.ref b), .val (.int (0 : Int32)), .val (.int (3 : Int32)), .val (.int (0 : Int32)), .val (.int (g 0))] [(.int (0 : Int32))]))
    exact GoOn.retI X0 hx hrt hlk (hb hby d9_25) (by decide) (by decide) (by first | exact ⟨_, rfl, N0, K0, Or.inr ⟨⟨by decide, by decide, by decide⟩, q0⟩⟩ | (rw [e0]; exact ⟨_, rfl, N0, K0, Or.inr ⟨⟨by decide, by decide, by decide⟩, q0⟩⟩))
  · refine GoOn.step (fun t₀ k₀ => XS.icmpYes X0.here hx rfl (pc0 := 20) (pc' := 26) rfl (hb hby d9_20) rfl (flt q0).2.2.2 (by decide) (by decide) k₀) ?_
    show GoOn p e below _ (s₁.setTop (mkF m 26 #[.val (.ref ca), .val (.int (0 : Int32)), .val (.ref b), .val (.int (0 : Int32)), .val (.int (3 : Int32)), .val (.int (0 : Int32)), .val (.int (g 0))] []))
    refine GoOn.step (fun t₀ k₀ => XS.aloadN X0.here hx rfl (hb hby d9_26) rfl rfl k₀) ?_
    show GoOn p e below _ (s₁.setTop (mkF m 27 #[.val (.ref ca), .val (.int (0 : Int32)), .val (.ref b), .val (.int (0 : Int32)), .val (.int (3 : Int32)), .val (.int (0 : Int32)), .val (.int (g 0))] [(.ref b)]))
    refine GoOn.step (fun t₀ k₀ => XS.iloadN X0.here hx rfl (hb hby d9_27) rfl k₀) ?_
    show GoOn p e below _ (s₁.setTop (mkF m 28 #[.val (.ref ca), .val (.int (0 : Int32)), .val (.ref b), .val (.int (0 : Int32)), .val (.int (3 : Int32)), .val (.int (0 : Int32)), .val (.int (g 0))] [(.int (0 : Int32)), (.ref b)]))
    refine GoOn.step (fun t₀ k₀ => XS.iload X0.here hx rfl (hb hby d9_28) rfl k₀) ?_
    show GoOn p e below _ (s₁.setTop (mkF m 30 #[.val (.ref ca), .val (.int (0 : Int32)), .val (.ref b), .val (.int (0 : Int32)), .val (.int (3 : Int32)), .val (.int (0 : Int32)), .val (.int (g 0))] [(.int (g 0)), (.int (0 : Int32)), (.ref b)]))
    refine GoOn.step (fun t₀ k₀ => XS.i2b X0.here hx rfl (hb hby d9_30) rfl k₀) ?_
    show GoOn p e below _ (s₁.setTop (mkF m 31 #[.val (.ref ca), .val (.int (0 : Int32)), .val (.ref b), .val (.int (0 : Int32)), .val (.int (3 : Int32)), .val (.int (0 : Int32)), .val (.int (g 0))] [(.int ((g 0).toInt8.toInt32)), (.int (0 : Int32)), (.ref b)]))
    obtain ⟨T84, h84, X84, e84, W84, st84⟩ := kStB X0 hx hZ e0 Jb (j := (0 : Int32)) ⟨by decide, by decide⟩ (g := (mkF m 31 #[.val (.ref ca), .val (.int (0 : Int32)), .val (.ref b), .val (.int (0 : Int32)), .val (.int (3 : Int32)), .val (.int (0 : Int32)), .val (.int (g 0))] [(.int ((g 0).toInt8.toInt32)), (.int (0 : Int32)), (.ref b)])) rfl rfl (hb hby d9_31)
    replace N0 := Fr.snoc X84 N0 gb
    replace Jc := Jc.other W84 ncb
    replace Jb := Jb.set W84
    replace Z0 := Nat.le_trans Z0 (Nat.le_of_eq W84.size.symm)
    replace K0 := K0.wr W84 (Or.inl (by simp))
    refine GoOn.step st84 ?_
    show GoOn p e below _ (T84.setTop (mkF m 32 #[.val (.ref ca), .val (.int (0 : Int32)), .val (.ref b), .val (.int (0 : Int32)), .val (.int (3 : Int32)), .val (.int (0 : Int32)), .val (.int (g 0))] []))
    refine GoOn.step (fun t₀ k₀ => XS.iinc X84.here hx rfl (hb hby d9_32) rfl (l' := #[.val (.ref ca), .val (.int ((0 : Int32) + (1 : Int32))), .val (.ref b), .val (.int (0 : Int32)), .val (.int (3 : Int32)), .val (.int (0 : Int32)), .val (.int (g 0))]) rfl k₀) ?_
    show GoOn p e below _ (T84.setTop (mkF m 35 #[.val (.ref ca), .val (.int ((0 : Int32) + (1 : Int32))), .val (.ref b), .val (.int (0 : Int32)), .val (.int (3 : Int32)), .val (.int (0 : Int32)), .val (.int (g 0))] []))
    refine GoOn.step (fun t₀ k₀ => XS.iinc X84.here hx rfl (hb hby d9_35) rfl (l' := #[.val (.ref ca), .val (.int ((0 : Int32) + (1 : Int32))), .val (.ref b), .val (.int ((0 : Int32) + (1 : Int32))), .val (.int (3 : Int32)), .val (.int (0 : Int32)), .val (.int (g 0))]) rfl k₀) ?_
    show GoOn p e below _ (T84.setTop (mkF m 38 #[.val (.ref ca), .val (.int ((0 : Int32) + (1 : Int32))), .val (.ref b), .val (.int ((0 : Int32) + (1 : Int32))), .val (.int (3 : Int32)), .val (.int (0 : Int32)), .val (.int (g 0))] []))
    refine GoOn.step (fun t₀ k₀ => XS.iinc X84.here hx rfl (hb hby d9_38) rfl (l' := #[.val (.ref ca), .val (.int ((0 : Int32) + (1 : Int32))), .val (.ref b), .val (.int ((0 : Int32) + (1 : Int32))), .val (.int (3 : Int32)), .val (.int ((0 : Int32) + (1 : Int32))), .val (.int (g 0))]) rfl k₀) ?_
    show GoOn p e below _ (T84.setTop (mkF m 41 #[.val (.ref ca), .val (.int ((0 : Int32) + (1 : Int32))), .val (.ref b), .val (.int ((0 : Int32) + (1 : Int32))), .val (.int (3 : Int32)), .val (.int ((0 : Int32) + (1 : Int32))), .val (.int (g 0))] []))
    rw [show ((0 : Int32) + (1 : Int32)) = (1 : Int32) from (by decide)]
    refine GoOn.step (fun t₀ k₀ => XS.goto X84.here hx rfl (pc0 := 41) (pc' := 3) rfl (hb hby d9_41) (by decide) (by decide) k₀) ?_
    show GoOn p e below _ (T84.setTop (mkF m 3 #[.val (.ref ca), .val (.int (1 : Int32)), .val (.ref b), .val (.int (1 : Int32)), .val (.int (3 : Int32)), .val (.int (1 : Int32)), .val (.int (g 0))] []))
    refine GoOn.step (fun t₀ k₀ => XS.iload X84.here hx rfl (hb hby d9_3) rfl k₀) ?_
    show GoOn p e below _ (T84.setTop (mkF m 5 #[.val (.ref ca), .val (.int (1 : Int32)), .val (.ref b), .val (.int (1 : Int32)), .val (.int (3 : Int32)), .val (.int (1 : Int32)), .val (.int (g 0))] [(.int (1 : Int32))]))
    refine GoOn.step (fun t₀ k₀ => XS.iload X84.here hx rfl (hb hby d9_5) rfl k₀) ?_
    show GoOn p e below _ (T84.setTop (mkF m 7 #[.val (.ref ca), .val (.int (1 : Int32)), .val (.ref b), .val (.int (1 : Int32)), .val (.int (3 : Int32)), .val (.int (1 : Int32)), .val (.int (g 0))] [(.int (3 : Int32)), (.int (1 : Int32))]))
    have hf85 : (1 : Int32) < (3 : Int32) := (by decide)
    refine GoOn.step (fun t₀ k₀ => XS.icmpNo X84.here hx rfl (hb hby d9_7) rfl (tlt hf85).2.1 k₀) ?_
    show GoOn p e below _ (T84.setTop (mkF m 10 #[.val (.ref ca), .val (.int (1 : Int32)), .val (.ref b), .val (.int (1 : Int32)), .val (.int (3 : Int32)), .val (.int (1 : Int32)), .val (.int (g 0))] []))
    refine GoOn.step (fun t₀ k₀ => XS.aloadN X84.here hx rfl (hb hby d9_10) rfl rfl k₀) ?_
    show GoOn p e below _ (T84.setTop (mkF m 11 #[.val (.ref ca), .val (.int (1 : Int32)), .val (.ref b), .val (.int (1 : Int32)), .val (.int (3 : Int32)), .val (.int (1 : Int32)), .val (.int (g 0))] [(.ref ca)]))
    refine GoOn.step (fun t₀ k₀ => XS.iloadN X84.here hx rfl (hb hby d9_11) rfl k₀) ?_
    show GoOn p e below _ (T84.setTop (mkF m 12 #[.val (.ref ca), .val (.int (1 : Int32)), .val (.ref b), .val (.int (1 : Int32)), .val (.int (3 : Int32)), .val (.int (1 : Int32)), .val (.int (g 0))] [(.int (1 : Int32)), (.ref ca)]))
    refine GoOn.step (fun t₀ k₀ => kLdC X84 hx hZ e84 Jc (j := (1 : Int32)) (v := (.int (g 1))) ⟨by decide, by decide⟩ rfl (g := (mkF m 12 #[.val (.ref ca), .val (.int (1 : Int32)), .val (.ref b), .val (.int (1 : Int32)), .val (.int (3 : Int32)), .val (.int (1 : Int32)), .val (.int (g 0))] [(.int (1 : Int32)), (.ref ca)])) rfl rfl (hb hby d9_12) t₀ k₀) ?_
    show GoOn p e below _ (T84.setTop (mkF m 13 #[.val (.ref ca), .val (.int (1 : Int32)), .val (.ref b), .val (.int (1 : Int32)), .val (.int (3 : Int32)), .val (.int (1 : Int32)), .val (.int (g 0))] [(.int (g 1))]))
    refine GoOn.step (fun t₀ k₀ => XS.istore X84.here hx rfl (hb hby d9_13) rfl (l' := #[.val (.ref ca), .val (.int (1 : Int32)), .val (.ref b), .val (.int (1 : Int32)), .val (.int (3 : Int32)), .val (.int (1 : Int32)), .val (.int (g 1))]) rfl k₀) ?_
    show GoOn p e below _ (T84.setTop (mkF m 15 #[.val (.ref ca), .val (.int (1 : Int32)), .val (.ref b), .val (.int (1 : Int32)), .val (.int (3 : Int32)), .val (.int (1 : Int32)), .val (.int (g 1))] []))
    refine GoOn.step (fun t₀ k₀ => XS.iload X84.here hx rfl (hb hby d9_15) rfl k₀) ?_
    show GoOn p e below _ (T84.setTop (mkF m 17 #[.val (.ref ca), .val (.int (1 : Int32)), .val (.ref b), .val (.int (1 : Int32)), .val (.int (3 : Int32)), .val (.int (1 : Int32)), .val (.int (g 1))] [(.int (g 1))]))
    refine GoOn.step (fun t₀ k₀ => XS.sipush X84.here hx rfl (hb hby d9_17) k₀) ?_
    show GoOn p e below _ (T84.setTop (mkF m 20 #[.val (.ref ca), .val (.int (1 : Int32)), .val (.ref b), .val (.int (1 : Int32)), .val (.int (3 : Int32)), .val (.int (1 : Int32)), .val (.int (g 1))] [(.int (255 : Int32)), (.int (g 1))]))
    by_cases q1 : (255 : Int32) < (g 1)
    · refine GoOn.step (fun t₀ k₀ => XS.icmpNo X84.here hx rfl (hb hby d9_20) rfl (tlt q1).2.2.2 k₀) ?_
      show GoOn p e below _ (T84.setTop (mkF m 23 #[.val (.ref ca), .val (.int (1 : Int32)), .val (.ref b), .val (.int (1 : Int32)), .val (.int (3 : Int32)), .val (.int (1 : Int32)), .val (.int (g 1))] []))
      refine GoOn.step (fun t₀ k₀ => XS.iload X84.here hx rfl (hb hby d9_23) rfl k₀) ?_
      show GoOn p e below _ (T84.setTop (mkF m 25 #[.val (.ref ca), .val (.int (1 : Int32)), .val (.ref b), .val (.int (1 : Int32)), .val (.int (3 : Int32)), .val (.int (1 : Int32)), .val (.int (g 1))] [(.int (1 : Int32))]))
      exact GoOn.retI X84 hx hrt hlk (hb hby d9_25) (by decide) (by decide) (by first | exact ⟨_, rfl, N0, K0, Or.inr ⟨⟨by decide, by decide, by decide⟩, q1⟩⟩ | (rw [e84]; exact ⟨_, rfl, N0, K0, Or.inr ⟨⟨by decide, by decide, by decide⟩, q1⟩⟩))
    · refine GoOn.step (fun t₀ k₀ => XS.icmpYes X84.here hx rfl (pc0 := 20) (pc' := 26) rfl (hb hby d9_20) rfl (flt q1).2.2.2 (by decide) (by decide) k₀) ?_
      show GoOn p e below _ (T84.setTop (mkF m 26 #[.val (.ref ca), .val (.int (1 : Int32)), .val (.ref b), .val (.int (1 : Int32)), .val (.int (3 : Int32)), .val (.int (1 : Int32)), .val (.int (g 1))] []))
      refine GoOn.step (fun t₀ k₀ => XS.aloadN X84.here hx rfl (hb hby d9_26) rfl rfl k₀) ?_
      show GoOn p e below _ (T84.setTop (mkF m 27 #[.val (.ref ca), .val (.int (1 : Int32)), .val (.ref b), .val (.int (1 : Int32)), .val (.int (3 : Int32)), .val (.int (1 : Int32)), .val (.int (g 1))] [(.ref b)]))
      refine GoOn.step (fun t₀ k₀ => XS.iloadN X84.here hx rfl (hb hby d9_27) rfl k₀) ?_
      show GoOn p e below _ (T84.setTop (mkF m 28 #[.val (.ref ca), .val (.int (1 : Int32)), .val (.ref b), .val (.int (1 : Int32)), .val (.int (3 : Int32)), .val (.int (1 : Int32)), .val (.int (g 1))] [(.int (1 : Int32)), (.ref b)]))
      refine GoOn.step (fun t₀ k₀ => XS.iload X84.here hx rfl (hb hby d9_28) rfl k₀) ?_
      show GoOn p e below _ (T84.setTop (mkF m 30 #[.val (.ref ca), .val (.int (1 : Int32)), .val (.ref b), .val (.int (1 : Int32)), .val (.int (3 : Int32)), .val (.int (1 : Int32)), .val (.int (g 1))] [(.int (g 1)), (.int (1 : Int32)), (.ref b)]))
      refine GoOn.step (fun t₀ k₀ => XS.i2b X84.here hx rfl (hb hby d9_30) rfl k₀) ?_
      show GoOn p e below _ (T84.setTop (mkF m 31 #[.val (.ref ca), .val (.int (1 : Int32)), .val (.ref b), .val (.int (1 : Int32)), .val (.int (3 : Int32)), .val (.int (1 : Int32)), .val (.int (g 1))] [(.int ((g 1).toInt8.toInt32)), (.int (1 : Int32)), (.ref b)]))
      obtain ⟨T86, h86, X86, e86, W86, st86⟩ := kStB X84 hx hZ e84 Jb (j := (1 : Int32)) ⟨by decide, by decide⟩ (g := (mkF m 31 #[.val (.ref ca), .val (.int (1 : Int32)), .val (.ref b), .val (.int (1 : Int32)), .val (.int (3 : Int32)), .val (.int (1 : Int32)), .val (.int (g 1))] [(.int ((g 1).toInt8.toInt32)), (.int (1 : Int32)), (.ref b)])) rfl rfl (hb hby d9_31)
      replace N0 := Fr.snoc X86 N0 gb
      replace Jc := Jc.other W86 ncb
      replace Jb := Jb.set W86
      replace Z0 := Nat.le_trans Z0 (Nat.le_of_eq W86.size.symm)
      replace K0 := K0.wr W86 (Or.inl (by simp))
      refine GoOn.step st86 ?_
      show GoOn p e below _ (T86.setTop (mkF m 32 #[.val (.ref ca), .val (.int (1 : Int32)), .val (.ref b), .val (.int (1 : Int32)), .val (.int (3 : Int32)), .val (.int (1 : Int32)), .val (.int (g 1))] []))
      refine GoOn.step (fun t₀ k₀ => XS.iinc X86.here hx rfl (hb hby d9_32) rfl (l' := #[.val (.ref ca), .val (.int ((1 : Int32) + (1 : Int32))), .val (.ref b), .val (.int (1 : Int32)), .val (.int (3 : Int32)), .val (.int (1 : Int32)), .val (.int (g 1))]) rfl k₀) ?_
      show GoOn p e below _ (T86.setTop (mkF m 35 #[.val (.ref ca), .val (.int ((1 : Int32) + (1 : Int32))), .val (.ref b), .val (.int (1 : Int32)), .val (.int (3 : Int32)), .val (.int (1 : Int32)), .val (.int (g 1))] []))
      refine GoOn.step (fun t₀ k₀ => XS.iinc X86.here hx rfl (hb hby d9_35) rfl (l' := #[.val (.ref ca), .val (.int ((1 : Int32) + (1 : Int32))), .val (.ref b), .val (.int ((1 : Int32) + (1 : Int32))), .val (.int (3 : Int32)), .val (.int (1 : Int32)), .val (.int (g 1))]) rfl k₀) ?_
      show GoOn p e below _ (T86.setTop (mkF m 38 #[.val (.ref ca), .val (.int ((1 : Int32) + (1 : Int32))), .val (.ref b), .val (.int ((1 : Int32) + (1 : Int32))), .val (.int (3 : Int32)), .val (.int (1 : Int32)), .val (.int (g 1))] []))
      refine GoOn.step (fun t₀ k₀ => XS.iinc X86.here hx rfl (hb hby d9_38) rfl (l' := #[.val (.ref ca), .val (.int ((1 : Int32) + (1 : Int32))), .val (.ref b), .val (.int ((1 : Int32) + (1 : Int32))), .val (.int (3 : Int32)), .val (.int ((1 : Int32) + (1 : Int32))), .val (.int (g 1))]) rfl k₀) ?_
      show GoOn p e below _ (T86.setTop (mkF m 41 #[.val (.ref ca), .val (.int ((1 : Int32) + (1 : Int32))), .val (.ref b), .val (.int ((1 : Int32) + (1 : Int32))), .val (.int (3 : Int32)), .val (.int ((1 : Int32) + (1 : Int32))), .val (.int (g 1))] []))
      rw [show ((1 : Int32) + (1 : Int32)) = (2 : Int32) from (by decide)]
      refine GoOn.step (fun t₀ k₀ => XS.goto X86.here hx rfl (pc0 := 41) (pc' := 3) rfl (hb hby d9_41) (by decide) (by decide) k₀) ?_
      show GoOn p e below _ (T86.setTop (mkF m 3 #[.val (.ref ca), .val (.int (2 : Int32)), .val (.ref b), .val (.int (2 : Int32)), .val (.int (3 : Int32)), .val (.int (2 : Int32)), .val (.int (g 1))] []))
      refine GoOn.step (fun t₀ k₀ => XS.iload X86.here hx rfl (hb hby d9_3) rfl k₀) ?_
      show GoOn p e below _ (T86.setTop (mkF m 5 #[.val (.ref ca), .val (.int (2 : Int32)), .val (.ref b), .val (.int (2 : Int32)), .val (.int (3 : Int32)), .val (.int (2 : Int32)), .val (.int (g 1))] [(.int (2 : Int32))]))
      refine GoOn.step (fun t₀ k₀ => XS.iload X86.here hx rfl (hb hby d9_5) rfl k₀) ?_
      show GoOn p e below _ (T86.setTop (mkF m 7 #[.val (.ref ca), .val (.int (2 : Int32)), .val (.ref b), .val (.int (2 : Int32)), .val (.int (3 : Int32)), .val (.int (2 : Int32)), .val (.int (g 1))] [(.int (3 : Int32)), (.int (2 : Int32))]))
      have hf87 : (2 : Int32) < (3 : Int32) := (by decide)
      refine GoOn.step (fun t₀ k₀ => XS.icmpNo X86.here hx rfl (hb hby d9_7) rfl (tlt hf87).2.1 k₀) ?_
      show GoOn p e below _ (T86.setTop (mkF m 10 #[.val (.ref ca), .val (.int (2 : Int32)), .val (.ref b), .val (.int (2 : Int32)), .val (.int (3 : Int32)), .val (.int (2 : Int32)), .val (.int (g 1))] []))
      refine GoOn.step (fun t₀ k₀ => XS.aloadN X86.here hx rfl (hb hby d9_10) rfl rfl k₀) ?_
      show GoOn p e below _ (T86.setTop (mkF m 11 #[.val (.ref ca), .val (.int (2 : Int32)), .val (.ref b), .val (.int (2 : Int32)), .val (.int (3 : Int32)), .val (.int (2 : Int32)), .val (.int (g 1))] [(.ref ca)]))
      refine GoOn.step (fun t₀ k₀ => XS.iloadN X86.here hx rfl (hb hby d9_11) rfl k₀) ?_
      show GoOn p e below _ (T86.setTop (mkF m 12 #[.val (.ref ca), .val (.int (2 : Int32)), .val (.ref b), .val (.int (2 : Int32)), .val (.int (3 : Int32)), .val (.int (2 : Int32)), .val (.int (g 1))] [(.int (2 : Int32)), (.ref ca)]))
      refine GoOn.step (fun t₀ k₀ => kLdC X86 hx hZ e86 Jc (j := (2 : Int32)) (v := (.int (g 2))) ⟨by decide, by decide⟩ rfl (g := (mkF m 12 #[.val (.ref ca), .val (.int (2 : Int32)), .val (.ref b), .val (.int (2 : Int32)), .val (.int (3 : Int32)), .val (.int (2 : Int32)), .val (.int (g 1))] [(.int (2 : Int32)), (.ref ca)])) rfl rfl (hb hby d9_12) t₀ k₀) ?_
      show GoOn p e below _ (T86.setTop (mkF m 13 #[.val (.ref ca), .val (.int (2 : Int32)), .val (.ref b), .val (.int (2 : Int32)), .val (.int (3 : Int32)), .val (.int (2 : Int32)), .val (.int (g 1))] [(.int (g 2))]))
      refine GoOn.step (fun t₀ k₀ => XS.istore X86.here hx rfl (hb hby d9_13) rfl (l' := #[.val (.ref ca), .val (.int (2 : Int32)), .val (.ref b), .val (.int (2 : Int32)), .val (.int (3 : Int32)), .val (.int (2 : Int32)), .val (.int (g 2))]) rfl k₀) ?_
      show GoOn p e below _ (T86.setTop (mkF m 15 #[.val (.ref ca), .val (.int (2 : Int32)), .val (.ref b), .val (.int (2 : Int32)), .val (.int (3 : Int32)), .val (.int (2 : Int32)), .val (.int (g 2))] []))
      refine GoOn.step (fun t₀ k₀ => XS.iload X86.here hx rfl (hb hby d9_15) rfl k₀) ?_
      show GoOn p e below _ (T86.setTop (mkF m 17 #[.val (.ref ca), .val (.int (2 : Int32)), .val (.ref b), .val (.int (2 : Int32)), .val (.int (3 : Int32)), .val (.int (2 : Int32)), .val (.int (g 2))] [(.int (g 2))]))
      refine GoOn.step (fun t₀ k₀ => XS.sipush X86.here hx rfl (hb hby d9_17) k₀) ?_
      show GoOn p e below _ (T86.setTop (mkF m 20 #[.val (.ref ca), .val (.int (2 : Int32)), .val (.ref b), .val (.int (2 : Int32)), .val (.int (3 : Int32)), .val (.int (2 : Int32)), .val (.int (g 2))] [(.int (255 : Int32)), (.int (g 2))]))
      by_cases q2 : (255 : Int32) < (g 2)
      · refine GoOn.step (fun t₀ k₀ => XS.icmpNo X86.here hx rfl (hb hby d9_20) rfl (tlt q2).2.2.2 k₀) ?_
        show GoOn p e below _ (T86.setTop (mkF m 23 #[.val (.ref ca), .val (.int (2 : Int32)), .val (.ref b), .val (.int (2 : Int32)), .val (.int (3 : Int32)), .val (.int (2 : Int32)), .val (.int (g 2))] []))
        refine GoOn.step (fun t₀ k₀ => XS.iload X86.here hx rfl (hb hby d9_23) rfl k₀) ?_
        show GoOn p e below _ (T86.setTop (mkF m 25 #[.val (.ref ca), .val (.int (2 : Int32)), .val (.ref b), .val (.int (2 : Int32)), .val (.int (3 : Int32)), .val (.int (2 : Int32)), .val (.int (g 2))] [(.int (2 : Int32))]))
        exact GoOn.retI X86 hx hrt hlk (hb hby d9_25) (by decide) (by decide) (by first | exact ⟨_, rfl, N0, K0, Or.inr ⟨⟨by decide, by decide, by decide⟩, q2⟩⟩ | (rw [e86]; exact ⟨_, rfl, N0, K0, Or.inr ⟨⟨by decide, by decide, by decide⟩, q2⟩⟩))
      · refine GoOn.step (fun t₀ k₀ => XS.icmpYes X86.here hx rfl (pc0 := 20) (pc' := 26) rfl (hb hby d9_20) rfl (flt q2).2.2.2 (by decide) (by decide) k₀) ?_
        show GoOn p e below _ (T86.setTop (mkF m 26 #[.val (.ref ca), .val (.int (2 : Int32)), .val (.ref b), .val (.int (2 : Int32)), .val (.int (3 : Int32)), .val (.int (2 : Int32)), .val (.int (g 2))] []))
        refine GoOn.step (fun t₀ k₀ => XS.aloadN X86.here hx rfl (hb hby d9_26) rfl rfl k₀) ?_
        show GoOn p e below _ (T86.setTop (mkF m 27 #[.val (.ref ca), .val (.int (2 : Int32)), .val (.ref b), .val (.int (2 : Int32)), .val (.int (3 : Int32)), .val (.int (2 : Int32)), .val (.int (g 2))] [(.ref b)]))
        refine GoOn.step (fun t₀ k₀ => XS.iloadN X86.here hx rfl (hb hby d9_27) rfl k₀) ?_
        show GoOn p e below _ (T86.setTop (mkF m 28 #[.val (.ref ca), .val (.int (2 : Int32)), .val (.ref b), .val (.int (2 : Int32)), .val (.int (3 : Int32)), .val (.int (2 : Int32)), .val (.int (g 2))] [(.int (2 : Int32)), (.ref b)]))
        refine GoOn.step (fun t₀ k₀ => XS.iload X86.here hx rfl (hb hby d9_28) rfl k₀) ?_
        show GoOn p e below _ (T86.setTop (mkF m 30 #[.val (.ref ca), .val (.int (2 : Int32)), .val (.ref b), .val (.int (2 : Int32)), .val (.int (3 : Int32)), .val (.int (2 : Int32)), .val (.int (g 2))] [(.int (g 2)), (.int (2 : Int32)), (.ref b)]))
        refine GoOn.step (fun t₀ k₀ => XS.i2b X86.here hx rfl (hb hby d9_30) rfl k₀) ?_
        show GoOn p e below _ (T86.setTop (mkF m 31 #[.val (.ref ca), .val (.int (2 : Int32)), .val (.ref b), .val (.int (2 : Int32)), .val (.int (3 : Int32)), .val (.int (2 : Int32)), .val (.int (g 2))] [(.int ((g 2).toInt8.toInt32)), (.int (2 : Int32)), (.ref b)]))
        obtain ⟨T88, h88, X88, e88, W88, st88⟩ := kStB X86 hx hZ e86 Jb (j := (2 : Int32)) ⟨by decide, by decide⟩ (g := (mkF m 31 #[.val (.ref ca), .val (.int (2 : Int32)), .val (.ref b), .val (.int (2 : Int32)), .val (.int (3 : Int32)), .val (.int (2 : Int32)), .val (.int (g 2))] [(.int ((g 2).toInt8.toInt32)), (.int (2 : Int32)), (.ref b)])) rfl rfl (hb hby d9_31)
        replace N0 := Fr.snoc X88 N0 gb
        replace Jc := Jc.other W88 ncb
        replace Jb := Jb.set W88
        replace Z0 := Nat.le_trans Z0 (Nat.le_of_eq W88.size.symm)
        replace K0 := K0.wr W88 (Or.inl (by simp))
        refine GoOn.step st88 ?_
        show GoOn p e below _ (T88.setTop (mkF m 32 #[.val (.ref ca), .val (.int (2 : Int32)), .val (.ref b), .val (.int (2 : Int32)), .val (.int (3 : Int32)), .val (.int (2 : Int32)), .val (.int (g 2))] []))
        refine GoOn.step (fun t₀ k₀ => XS.iinc X88.here hx rfl (hb hby d9_32) rfl (l' := #[.val (.ref ca), .val (.int ((2 : Int32) + (1 : Int32))), .val (.ref b), .val (.int (2 : Int32)), .val (.int (3 : Int32)), .val (.int (2 : Int32)), .val (.int (g 2))]) rfl k₀) ?_
        show GoOn p e below _ (T88.setTop (mkF m 35 #[.val (.ref ca), .val (.int ((2 : Int32) + (1 : Int32))), .val (.ref b), .val (.int (2 : Int32)), .val (.int (3 : Int32)), .val (.int (2 : Int32)), .val (.int (g 2))] []))
        refine GoOn.step (fun t₀ k₀ => XS.iinc X88.here hx rfl (hb hby d9_35) rfl (l' := #[.val (.ref ca), .val (.int ((2 : Int32) + (1 : Int32))), .val (.ref b), .val (.int ((2 : Int32) + (1 : Int32))), .val (.int (3 : Int32)), .val (.int (2 : Int32)), .val (.int (g 2))]) rfl k₀) ?_
        show GoOn p e below _ (T88.setTop (mkF m 38 #[.val (.ref ca), .val (.int ((2 : Int32) + (1 : Int32))), .val (.ref b), .val (.int ((2 : Int32) + (1 : Int32))), .val (.int (3 : Int32)), .val (.int (2 : Int32)), .val (.int (g 2))] []))
        refine GoOn.step (fun t₀ k₀ => XS.iinc X88.here hx rfl (hb hby d9_38) rfl (l' := #[.val (.ref ca), .val (.int ((2 : Int32) + (1 : Int32))), .val (.ref b), .val (.int ((2 : Int32) + (1 : Int32))), .val (.int (3 : Int32)), .val (.int ((2 : Int32) + (1 : Int32))), .val (.int (g 2))]) rfl k₀) ?_
        show GoOn p e below _ (T88.setTop (mkF m 41 #[.val (.ref ca), .val (.int ((2 : Int32) + (1 : Int32))), .val (.ref b), .val (.int ((2 : Int32) + (1 : Int32))), .val (.int (3 : Int32)), .val (.int ((2 : Int32) + (1 : Int32))), .val (.int (g 2))] []))
        rw [show ((2 : Int32) + (1 : Int32)) = (3 : Int32) from (by decide)]
        refine GoOn.step (fun t₀ k₀ => XS.goto X88.here hx rfl (pc0 := 41) (pc' := 3) rfl (hb hby d9_41) (by decide) (by decide) k₀) ?_
        show GoOn p e below _ (T88.setTop (mkF m 3 #[.val (.ref ca), .val (.int (3 : Int32)), .val (.ref b), .val (.int (3 : Int32)), .val (.int (3 : Int32)), .val (.int (3 : Int32)), .val (.int (g 2))] []))
        refine GoOn.step (fun t₀ k₀ => XS.iload X88.here hx rfl (hb hby d9_3) rfl k₀) ?_
        show GoOn p e below _ (T88.setTop (mkF m 5 #[.val (.ref ca), .val (.int (3 : Int32)), .val (.ref b), .val (.int (3 : Int32)), .val (.int (3 : Int32)), .val (.int (3 : Int32)), .val (.int (g 2))] [(.int (3 : Int32))]))
        refine GoOn.step (fun t₀ k₀ => XS.iload X88.here hx rfl (hb hby d9_5) rfl k₀) ?_
        show GoOn p e below _ (T88.setTop (mkF m 7 #[.val (.ref ca), .val (.int (3 : Int32)), .val (.ref b), .val (.int (3 : Int32)), .val (.int (3 : Int32)), .val (.int (3 : Int32)), .val (.int (g 2))] [(.int (3 : Int32)), (.int (3 : Int32))]))
        have hf89 : ¬ ((3 : Int32) < (3 : Int32)) := (by decide)
        refine GoOn.step (fun t₀ k₀ => XS.icmpYes X88.here hx rfl (pc0 := 7) (pc' := 44) rfl (hb hby d9_7) rfl (flt hf89).2.1 (by decide) (by decide) k₀) ?_
        show GoOn p e below _ (T88.setTop (mkF m 44 #[.val (.ref ca), .val (.int (3 : Int32)), .val (.ref b), .val (.int (3 : Int32)), .val (.int (3 : Int32)), .val (.int (3 : Int32)), .val (.int (g 2))] []))
        refine GoOn.step (fun t₀ k₀ => XS.iload X88.here hx rfl (hb hby d9_44) rfl k₀) ?_
        show GoOn p e below _ (T88.setTop (mkF m 46 #[.val (.ref ca), .val (.int (3 : Int32)), .val (.ref b), .val (.int (3 : Int32)), .val (.int (3 : Int32)), .val (.int (3 : Int32)), .val (.int (g 2))] [(.int (3 : Int32))]))
        exact GoOn.retI X88 hx hrt hlk (hb hby d9_46) (by decide) (by decide) (by first | exact ⟨_, rfl, N0, K0, Or.inl ⟨rfl, _, Jb, la1_3 ⟨by simp [nc0, nc1, nc2, fixB, laB], le255 q0⟩ ⟨by simp [nc0, nc1, nc2, fixB, laB], le255 q1⟩ ⟨by simp [nc0, nc1, nc2, fixB, laB], le255 q2⟩⟩⟩ | (rw [e88]; exact ⟨_, rfl, N0, K0, Or.inl ⟨rfl, _, Jb, la1_3 ⟨by simp [nc0, nc1, nc2, fixB, laB], le255 q0⟩ ⟨by simp [nc0, nc1, nc2, fixB, laB], le255 q1⟩ ⟨by simp [nc0, nc1, nc2, fixB, laB], le255 q2⟩⟩⟩))
theorem ef_c_c3_3 (m : MethodId) (x0 : Addr) (x1 : Int32) (x2 : Int32) : entryFrame m #[(.ref x0), (.int x1), (.int x2)] 6 = mkF m 0 #[.val (.ref x0), .val (.int x1), .val (.int x2), .unset, .unset, .unset] [] := by first | (simp [entryFrame, mkF, argsToLocals, Value.category]; done) | rfl
set_option maxRecDepth 65536 in
set_option maxHeartbeats 40000000 in
theorem c_c3_3 (l : Launch) (Z : State) (a0 : Array Value) (hw : ∀ d ∈ tables_1, d.before a0 Z = true) (ca : Addr) (g : Nat → Int32) (cs : Int32) (fv : Value) (h0 : Heap) (n0 : Nat) (Z0 : n0 ≤ h0.size) (O : Old Z n0 h0) (SS : Stt Z cs fv) (Jc : Jar Z h0 ca .char 3 (fun i => .int (g i))) (Cg : Chr g) :
    Con l Z (⟨"java/lang/StringUTF16", "compress", "([CII)[B"⟩ : MethodName) jdk_52_method_16_code 6 (some (.array .byte)) ({ frames := 3, cells := 2, slots := 9, locals := 64 } : Room) #[(.ref ca), (.int (0 : Int32)), (.int (3 : Int32))] h0 (C3Q Z 3 g h0 n0) := by
  refine Con.intro (plainFor_of_name pn_4) ?_
  intro p e s m below meth c s₁ hx hby hml hrt hlk hZ hown hnm X0 e0
  replace hown : s.vm.findClass "java/lang/StringUTF16" = some m.cls := hown
  have N0 := Fr.nil n0
  refine GoOn.cast (ef_c_c3_3 m ca (0 : Int32) (3 : Int32)) ?_
  show GoOn p e below _ (s₁.setTop (mkF m 0 #[.val (.ref ca), .val (.int (0 : Int32)), .val (.int (3 : Int32)), .unset, .unset, .unset] []))
  have K0 : Keep h0 h0 [] := Keep.refl _ _
  refine GoOn.step (fun t₀ k₀ => XS.iloadN X0.here hx rfl (hb hby d8_0) rfl k₀) ?_
  show GoOn p e below _ (s₁.setTop (mkF m 1 #[.val (.ref ca), .val (.int (0 : Int32)), .val (.int (3 : Int32)), .unset, .unset, .unset] [(.int (3 : Int32))]))
  obtain ⟨T90, h90, k90, X90, e90, E90, A90, st90⟩ := newP X0 hx hZ (hw _ (List.mem_of_getElem? (i := 16) rfl)) e0 (g := (mkF m 1 #[.val (.ref ca), .val (.int (0 : Int32)), .val (.int (3 : Int32)), .unset, .unset, .unset] [(.int (3 : Int32))])) rfl (hb hby d8_1) rfl (by decide) (cap := 3) (by decide) (by decide) (by decide) (by decide)
  obtain ⟨b, g90⟩ : ∃ z, z = h0.size := ⟨_, rfl⟩
  rw [← g90] at A90 st90
  have lt_ca_b : ca < b := by rw [g90]; exact Jc.lt
  have ne_ca_b : ca ≠ b := Nat.ne_of_lt lt_ca_b
  have le_b : n0 ≤ b := by rw [g90]; exact Z0
  have sz_b : h0.size ≤ b := by rw [g90]; exact K0.1
  replace Jc := Jc.ext E90
  replace O := O.ext E90
  replace Z0 := Nat.le_trans Z0 E90.1
  replace K0 := K0.ext E90
  have J_b : Jar Z h90 b .byte 3 (fun _ => defaultValue .byte) := Jar.new A90 (by decide)
  refine GoOn.step st90 ?_
  show GoOn p e below _ (T90.setTop (mkF m 3 #[.val (.ref ca), .val (.int (0 : Int32)), .val (.int (3 : Int32)), .unset, .unset, .unset] [(.ref b)]))
  refine GoOn.step (fun t₀ k₀ => XS.astoreN X90.here hx rfl (hb hby d8_3) rfl rfl (l' := #[.val (.ref ca), .val (.int (0 : Int32)), .val (.int (3 : Int32)), .val (.ref b), .unset, .unset]) rfl k₀) ?_
  show GoOn p e below _ (T90.setTop (mkF m 4 #[.val (.ref ca), .val (.int (0 : Int32)), .val (.int (3 : Int32)), .val (.ref b), .unset, .unset] []))
  refine GoOn.step (fun t₀ k₀ => XS.aloadN X90.here hx rfl (hb hby d8_4) rfl rfl k₀) ?_
  show GoOn p e below _ (T90.setTop (mkF m 5 #[.val (.ref ca), .val (.int (0 : Int32)), .val (.int (3 : Int32)), .val (.ref b), .unset, .unset] [(.ref ca)]))
  refine GoOn.step (fun t₀ k₀ => XS.iloadN X90.here hx rfl (hb hby d8_5) rfl k₀) ?_
  show GoOn p e below _ (T90.setTop (mkF m 6 #[.val (.ref ca), .val (.int (0 : Int32)), .val (.int (3 : Int32)), .val (.ref b), .unset, .unset] [(.int (0 : Int32)), (.ref ca)]))
  refine GoOn.step (fun t₀ k₀ => XS.aloadN X90.here hx rfl (hb hby d8_6) rfl rfl k₀) ?_
  show GoOn p e below _ (T90.setTop (mkF m 7 #[.val (.ref ca), .val (.int (0 : Int32)), .val (.int (3 : Int32)), .val (.ref b), .unset, .unset] [(.ref b), (.int (0 : Int32)), (.ref ca)]))
  refine GoOn.step (fun t₀ k₀ => XS.iconst X90.here hx rfl (hb hby d8_7) k₀) ?_
  show GoOn p e below _ (T90.setTop (mkF m 8 #[.val (.ref ca), .val (.int (0 : Int32)), .val (.int (3 : Int32)), .val (.ref b), .unset, .unset] [(.int (0 : Int32)), (.ref b), (.int (0 : Int32)), (.ref ca)]))
  refine GoOn.step (fun t₀ k₀ => XS.iloadN X90.here hx rfl (hb hby d8_8) rfl k₀) ?_
  show GoOn p e below _ (T90.setTop (mkF m 9 #[.val (.ref ca), .val (.int (0 : Int32)), .val (.int (3 : Int32)), .val (.ref b), .unset, .unset] [(.int (3 : Int32)), (.int (0 : Int32)), (.ref b), (.int (0 : Int32)), (.ref ca)]))
  obtain ⟨_, T91, L91, X91, hQ91, st91⟩ := kCallS X90 hx hZ (argsL := [(.ref ca), (.int (0 : Int32)), (.ref b), (.int (0 : Int32)), (.int (3 : Int32))]) (rest := []) (c_c5_3 l Z a0 hw ca b g _ h90 n0 Z0 Jc J_b le_b ne_ca_b) hown (hw _ (List.mem_of_getElem? (i := 46) rfl)) (hw _ (List.mem_of_getElem? (i := 47) rfl)) (hw _ (List.mem_of_getElem? (i := 44) rfl)) (hw _ (List.mem_of_getElem? (i := 48) rfl)) (by decide) e90 (g := (mkF m 9 #[.val (.ref ca), .val (.int (0 : Int32)), .val (.int (3 : Int32)), .val (.ref b), .unset, .unset] [(.int (3 : Int32)), (.int (0 : Int32)), (.ref b), (.int (0 : Int32)), (.ref ca)])) rfl (by rw [hml]; rfl) (lenOf pd_10 rfl) rfl (W := 0) (by show 2 * 0 + _ ≤ _; exact Nat.le_of_eq rfl) (hb hby d8_9) (by decide) (by decide) (by decide) (by decide)
  obtain ⟨r, rfl, N91, K91, HD⟩ := hQ91
  replace N0 := Fr.app N0 N91
  replace K0 := K0.trans K91 (allS (Or.inr sz_b) all0)
  replace Jc := Jc.keep K91 (ninS ne_ca_b nin0)
  clear J_b
  replace O := O.keep K91 (allS le_b all0)
  replace Z0 := Nat.le_trans Z0 K91.1
  refine GoOn.step st91 ?_
  show GoOn p e below _ (T91.setTop (mkF m 12 #[.val (.ref ca), .val (.int (0 : Int32)), .val (.int (3 : Int32)), .val (.ref b), .unset, .unset] [(.int r)]))
  refine GoOn.step (fun t₀ k₀ => XS.istore X91.here hx rfl (hb hby d8_12) rfl (l' := #[.val (.ref ca), .val (.int (0 : Int32)), .val (.int (3 : Int32)), .val (.ref b), .val (.int r), .unset]) rfl k₀) ?_
  show GoOn p e below _ (T91.setTop (mkF m 14 #[.val (.ref ca), .val (.int (0 : Int32)), .val (.int (3 : Int32)), .val (.ref b), .val (.int r), .unset] []))
  refine GoOn.step (fun t₀ k₀ => XS.iload X91.here hx rfl (hb hby d8_14) rfl k₀) ?_
  show GoOn p e below _ (T91.setTop (mkF m 16 #[.val (.ref ca), .val (.int (0 : Int32)), .val (.int (3 : Int32)), .val (.ref b), .val (.int r), .unset] [(.int r)]))
  refine GoOn.step (fun t₀ k₀ => XS.iloadN X91.here hx rfl (hb hby d8_16) rfl k₀) ?_
  show GoOn p e below _ (T91.setTop (mkF m 17 #[.val (.ref ca), .val (.int (0 : Int32)), .val (.int (3 : Int32)), .val (.ref b), .val (.int r), .unset] [(.int (3 : Int32)), (.int r)]))
  rcases HD with ⟨rfl, f, Jb, hl⟩ | ⟨hr, hl⟩
  · have hf92 : (3 : Int32) = (3 : Int32) := rfl
    refine GoOn.step (fun t₀ k₀ => XS.icmpYes X91.here hx rfl (pc0 := 17) (pc' := 57) rfl (hb hby d8_17) rfl (teq hf92).1 (by decide) (by decide) k₀) ?_
    show GoOn p e below _ (T91.setTop (mkF m 57 #[.val (.ref ca), .val (.int (0 : Int32)), .val (.int (3 : Int32)), .val (.ref b), .val (.int (3 : Int32)), .unset] []))
    refine GoOn.step (fun t₀ k₀ => XS.aloadN X91.here hx rfl (hb hby d8_57) rfl rfl k₀) ?_
    show GoOn p e below _ (T91.setTop (mkF m 58 #[.val (.ref ca), .val (.int (0 : Int32)), .val (.int (3 : Int32)), .val (.ref b), .val (.int (3 : Int32)), .unset] [(.ref b)]))
    exact GoOn.retR X91 hx hrt rfl hlk rfl (hb hby d8_58) (by decide) (by decide) ⟨b, f, _, rfl, N0, K0, sz_b, Jb, Or.inl ⟨rfl, hl⟩⟩
  · have hf93 : ¬ (r = (3 : Int32)) := hr.2.2
    refine GoOn.step (fun t₀ k₀ => XS.icmpNo X91.here hx rfl (hb hby d8_17) rfl (feq hf93).1 k₀) ?_
    show GoOn p e below _ (T91.setTop (mkF m 20 #[.val (.ref ca), .val (.int (0 : Int32)), .val (.int (3 : Int32)), .val (.ref b), .val (.int r), .unset] []))
    refine GoOn.step (fun t₀ k₀ => XS.aloadN X91.here hx rfl (hb hby d8_20) rfl rfl k₀) ?_
    show GoOn p e below _ (T91.setTop (mkF m 21 #[.val (.ref ca), .val (.int (0 : Int32)), .val (.int (3 : Int32)), .val (.ref b), .val (.int r), .unset] [(.ref ca)]))
    refine GoOn.step (fun t₀ k₀ => XS.iloadN X91.here hx rfl (hb hby d8_21) rfl k₀) ?_
    show GoOn p e below _ (T91.setTop (mkF m 22 #[.val (.ref ca), .val (.int (0 : Int32)), .val (.int (3 : Int32)), .val (.ref b), .val (.int r), .unset] [(.int (0 : Int32)), (.ref ca)]))
    refine GoOn.step (fun t₀ k₀ => XS.iloadN X91.here hx rfl (hb hby d8_22) rfl k₀) ?_
    show GoOn p e below _ (T91.setTop (mkF m 23 #[.val (.ref ca), .val (.int (0 : Int32)), .val (.int (3 : Int32)), .val (.ref b), .val (.int r), .unset] [(.int (3 : Int32)), (.int (0 : Int32)), (.ref ca)]))
    obtain ⟨_, T94, L94, X94, hQ94, st94⟩ := kCallS X91 hx hZ (argsL := [(.ref ca), (.int (0 : Int32)), (.int (3 : Int32))]) (rest := []) (c_tb3 l Z a0 hw ca g cs fv T91.heap n0 Z0 O SS Jc) hown (hw _ (List.mem_of_getElem? (i := 74) rfl)) (hw _ (List.mem_of_getElem? (i := 75) rfl)) (hw _ (List.mem_of_getElem? (i := 44) rfl)) (hw _ (List.mem_of_getElem? (i := 76) rfl)) (by decide) rfl (g := (mkF m 23 #[.val (.ref ca), .val (.int (0 : Int32)), .val (.int (3 : Int32)), .val (.ref b), .val (.int r), .unset] [(.int (3 : Int32)), (.int (0 : Int32)), (.ref ca)])) rfl (by rw [hml]; rfl) (lenOf pd_11 rfl) rfl (W := 0) (by show 2 * 0 + _ ≤ _; exact Nat.le_of_eq rfl) (hb hby d8_23) (by decide) (by decide) (by decide) (by decide)
    obtain ⟨y, f, rfl, N94, K94, sy, J94, hu⟩ := hQ94
    replace N0 := Fr.app N0 N94
    have sz2 := Nat.le_trans K0.1 sy
    replace K0 := K0.trans K94 all0
    replace Jc := Jc.keep K94 nin0
    replace O := O.keep K94 all0
    replace Z0 := Nat.le_trans Z0 K94.1
    have Jb := J94
    refine GoOn.step st94 ?_
    show GoOn p e below _ (T94.setTop (mkF m 26 #[.val (.ref ca), .val (.int (0 : Int32)), .val (.int (3 : Int32)), .val (.ref b), .val (.int r), .unset] [(.ref y)]))
    refine GoOn.step (fun t₀ k₀ => XS.astore X94.here hx rfl (hb hby d8_26) rfl rfl (l' := #[.val (.ref ca), .val (.int (0 : Int32)), .val (.int (3 : Int32)), .val (.ref b), .val (.int r), .val (.ref y)]) rfl k₀) ?_
    show GoOn p e below _ (T94.setTop (mkF m 28 #[.val (.ref ca), .val (.int (0 : Int32)), .val (.int (3 : Int32)), .val (.ref b), .val (.int r), .val (.ref y)] []))
    refine GoOn.step (fun t₀ k₀ => XS.aload X94.here hx rfl (hb hby d8_28) rfl rfl k₀) ?_
    show GoOn p e below _ (T94.setTop (mkF m 30 #[.val (.ref ca), .val (.int (0 : Int32)), .val (.int (3 : Int32)), .val (.ref b), .val (.int r), .val (.ref y)] [(.ref y)]))
    refine GoOn.step (fun t₀ k₀ => XS.iload X94.here hx rfl (hb hby d8_30) rfl k₀) ?_
    show GoOn p e below _ (T94.setTop (mkF m 32 #[.val (.ref ca), .val (.int (0 : Int32)), .val (.int (3 : Int32)), .val (.ref b), .val (.int r), .val (.ref y)] [(.int r), (.ref y)]))
    have hru := hu r.toNatClampNeg (by have := clN hr.1; omega)
    obtain ⟨_, T95, L95, X95, hQ95, st95⟩ := kCallS X94 hx hZ (argsL := [(.ref y), (.int r)]) (rest := []) (c_gc l Z a0 hw y r (g r.toNatClampNeg) (2 * 3) f cs fv T94.heap n0 O SS Jb (by decide) ⟨hr.1, by omega⟩ hru.1 hru.2 (Cg _)) hown (hw _ (List.mem_of_getElem? (i := 90) rfl)) (hw _ (List.mem_of_getElem? (i := 91) rfl)) (hw _ (List.mem_of_getElem? (i := 44) rfl)) (hw _ (List.mem_of_getElem? (i := 92) rfl)) (by decide) rfl (g := (mkF m 32 #[.val (.ref ca), .val (.int (0 : Int32)), .val (.int (3 : Int32)), .val (.ref b), .val (.int r), .val (.ref y)] [(.int r), (.ref y)])) rfl (by rw [hml]; rfl) (lenOf pd_5 rfl) rfl (W := 0) (by show 2 * 0 + _ ≤ _; exact Nat.le_of_eq rfl) (hb hby d8_32) (by decide) (by decide) (by decide) (by decide)
    obtain ⟨rfl, rfl, e95⟩ := hQ95
    rw [List.append_nil] at X95
    refine GoOn.step st95 ?_
    show GoOn p e below _ (T95.setTop (mkF m 35 #[.val (.ref ca), .val (.int (0 : Int32)), .val (.int (3 : Int32)), .val (.ref b), .val (.int r), .val (.ref y)] [(.int (g r.toNatClampNeg))]))
    refine GoOn.step (fun t₀ k₀ => XS.sipush X95.here hx rfl (hb hby d8_35) k₀) ?_
    show GoOn p e below _ (T95.setTop (mkF m 38 #[.val (.ref ca), .val (.int (0 : Int32)), .val (.int (3 : Int32)), .val (.ref b), .val (.int r), .val (.ref y)] [(.int (255 : Int32)), (.int (g r.toNatClampNeg))]))
    have hf96 : (255 : Int32) < (g r.toNatClampNeg) := hl
    refine GoOn.step (fun t₀ k₀ => XS.icmpYes X95.here hx rfl (pc0 := 38) (pc' := 54) rfl (hb hby d8_38) rfl (tlt hf96).2.2.1 (by decide) (by decide) k₀) ?_
    show GoOn p e below _ (T95.setTop (mkF m 54 #[.val (.ref ca), .val (.int (0 : Int32)), .val (.int (3 : Int32)), .val (.ref b), .val (.int r), .val (.ref y)] []))
    refine GoOn.step (fun t₀ k₀ => XS.aload X95.here hx rfl (hb hby d8_54) rfl rfl k₀) ?_
    show GoOn p e below _ (T95.setTop (mkF m 56 #[.val (.ref ca), .val (.int (0 : Int32)), .val (.int (3 : Int32)), .val (.ref b), .val (.int r), .val (.ref y)] [(.ref y)]))
    exact GoOn.retR X95 hx hrt rfl hlk rfl (hb hby d8_56) (by decide) (by decide) (by first | exact ⟨y, f, _, rfl, N0, K0, sz2, Jb, Or.inr ⟨rfl, hu⟩⟩ | (rw [e95]; exact ⟨y, f, _, rfl, N0, K0, sz2, Jb, Or.inr ⟨rfl, hu⟩⟩))
theorem ef_c_cf (m : MethodId) (x0 : Addr) (x1 : Int32) : entryFrame m #[(.ref x0), (.int x1)] 2 = mkF m 0 #[.val (.ref x0), .val (.int x1)] [] := by first | (simp [entryFrame, mkF, argsToLocals, Value.category]; done) | rfl
set_option maxRecDepth 65536 in
set_option maxHeartbeats 40000000 in
theorem c_cf (l : Launch) (Z : State) (a0 : Array Value) (hw : ∀ d ∈ tables_1, d.before a0 Z = true) (b : Addr) (N : Nat) (f : Nat → Value) (k : Int32) (h0 : Heap) (Jb : Jar Z h0 b .byte N f) :
    Con l Z (⟨"java/lang/StringUTF16", "coderFromArrayLen", "([BI)B"⟩ : MethodName) jdk_52_method_15_code 2 (some .byte) ({ frames := 0, cells := 0, slots := 0, locals := 0 } : Room) #[(.ref b), (.int k)] h0 (PQ (some (.int ((((k - N.toInt32).toUInt32 >>> ((31 : Int32) &&& 31).toUInt32).toInt32).toInt8.toInt32))) h0) := by
  refine Con.intro (plainFor_of_name pn_4) ?_
  intro p e s m below meth c s₁ hx hby hml hrt hlk hZ hown hnm X0 e0
  replace hown : s.vm.findClass "java/lang/StringUTF16" = some m.cls := hown
  refine GoOn.cast (ef_c_cf m b k) ?_
  show GoOn p e below _ (s₁.setTop (mkF m 0 #[.val (.ref b), .val (.int k)] []))
  refine GoOn.step (fun t₀ k₀ => XS.iloadN X0.here hx rfl (hb hby d10_0) rfl k₀) ?_
  show GoOn p e below _ (s₁.setTop (mkF m 1 #[.val (.ref b), .val (.int k)] [(.int k)]))
  refine GoOn.step (fun t₀ k₀ => XS.aloadN X0.here hx rfl (hb hby d10_1) rfl rfl k₀) ?_
  show GoOn p e below _ (s₁.setTop (mkF m 2 #[.val (.ref b), .val (.int k)] [(.ref b), (.int k)]))
  refine GoOn.step (fun t₀ k₀ => kLen X0 hx hZ e0 Jb (z := N.toInt32) rfl (g := (mkF m 2 #[.val (.ref b), .val (.int k)] [(.ref b), (.int k)])) rfl rfl (hb hby d10_2) t₀ k₀) ?_
  show GoOn p e below _ (s₁.setTop (mkF m 3 #[.val (.ref b), .val (.int k)] [(.int N.toInt32), (.int k)]))
  refine GoOn.step (fun t₀ k₀ => XS.isub X0.here hx rfl (hb hby d10_3) rfl k₀) ?_
  show GoOn p e below _ (s₁.setTop (mkF m 4 #[.val (.ref b), .val (.int k)] [(.int (k - N.toInt32))]))
  refine GoOn.step (fun t₀ k₀ => XS.bipush X0.here hx rfl (hb hby d10_4) k₀) ?_
  show GoOn p e below _ (s₁.setTop (mkF m 6 #[.val (.ref b), .val (.int k)] [(.int (31 : Int32)), (.int (k - N.toInt32))]))
  refine GoOn.step (fun t₀ k₀ => XS.iushr X0.here hx rfl (hb hby d10_6) rfl k₀) ?_
  show GoOn p e below _ (s₁.setTop (mkF m 7 #[.val (.ref b), .val (.int k)] [(.int (((k - N.toInt32).toUInt32 >>> ((31 : Int32) &&& 31).toUInt32).toInt32))]))
  refine GoOn.step (fun t₀ k₀ => XS.i2b X0.here hx rfl (hb hby d10_7) rfl k₀) ?_
  show GoOn p e below _ (s₁.setTop (mkF m 8 #[.val (.ref b), .val (.int k)] [(.int ((((k - N.toInt32).toUInt32 >>> ((31 : Int32) &&& 31).toUInt32).toInt32).toInt8.toInt32))]))
  exact GoOn.retN X0 hx hrt hlk (by simp) (hb hby d10_8) (by decide) (by decide) (by first | exact ⟨congrArg (fun z => some (Value.int z)) (fixB _), rfl, rfl⟩ | (rw [e0]; exact ⟨congrArg (fun z => some (Value.int z)) (fixB _), rfl, rfl⟩))
theorem ef_c_vd1 (m : MethodId) (x0 : Addr) (x1 : Addr) (x2 : Int32) (x3 : Int32) : entryFrame m #[(.ref x0), (.ref x1), (.int x2), (.int x3), .null] 6 = mkF m 0 #[.val (.ref x0), .val (.ref x1), .val (.int x2), .val (.int x3), .val .null, .unset] [] := by first | (simp [entryFrame, mkF, argsToLocals, Value.category]; done) | rfl
set_option maxRecDepth 65536 in
set_option maxHeartbeats 40000000 in
theorem c_vd1 (l : Launch) (Z : State) (a0 : Array Value) (hw : ∀ d ∈ tables_1, d.before a0 Z = true) (a ca : Addr) (g : Nat → Int32) (cs : Int32) (fv : Value) (h0 : Heap) (n0 : Nat) (Z0 : n0 ≤ h0.size) (O : Old Z n0 h0) (SS : Stt Z cs fv) (Ex : Exa Z h0 a "java/lang/String") (Fv : Fld Z h0 a "java/lang/String" "value" "[B" .null) (Fc : Fld Z h0 a "java/lang/String" "coder" "B" (.int (0 : Int32))) (ga : n0 ≤ a) (Jc : Jar Z h0 ca .char 1 (fun i => .int (g i))) (Cg : Chr g) :
    Con l Z (⟨"java/lang/String", "<init>", "([CIILjava/lang/Void;)V"⟩ : MethodName) jdk_42_method_149_code 6 none ({ frames := 4, cells := 2, slots := 3, locals := 90 } : Room) #[(.ref a), (.ref ca), (.int (0 : Int32)), (.int (1 : Int32)), .null] h0 (VdQ Z a 1 g h0 n0) := by
  refine Con.intro (plainFor_of_name pn_1) ?_
  intro p e s m below meth c s₁ hx hby hml hrt hlk hZ hown hnm X0 e0
  replace hown : s.vm.findClass "java/lang/String" = some m.cls := hown
  have N0 := Fr.nil n0
  refine GoOn.cast (ef_c_vd1 m a ca (0 : Int32) (1 : Int32)) ?_
  show GoOn p e below _ (s₁.setTop (mkF m 0 #[.val (.ref a), .val (.ref ca), .val (.int (0 : Int32)), .val (.int (1 : Int32)), .val .null, .unset] []))
  have K0 : Keep h0 h0 [a] := Keep.refl _ _
  obtain ⟨hcs, hfv, S1, S2, S3, S4, S5⟩ := id SS
  replace S1 := S1.ext O.2
  replace S2 := S2.ext O.2
  replace S3 := S3.ext O.2
  replace S4 := S4.ext O.2
  replace S5 := S5.ext O.2
  refine GoOn.step (fun t₀ k₀ => XS.aloadN X0.here hx rfl (hb hby d2_0) rfl rfl k₀) ?_
  show GoOn p e below _ (s₁.setTop (mkF m 1 #[.val (.ref a), .val (.ref ca), .val (.int (0 : Int32)), .val (.int (1 : Int32)), .val .null, .unset] [(.ref a)]))
  obtain ⟨T97, X97, e97, st97⟩ := initO X0 hx hZ hown (hw _ (List.mem_of_getElem? (i := 12) rfl)) (hw _ (List.mem_of_getElem? (i := 13) rfl)) (hw _ (List.mem_of_getElem? (i := 14) rfl)) e0 (g := (mkF m 1 #[.val (.ref a), .val (.ref ca), .val (.int (0 : Int32)), .val (.int (1 : Int32)), .val .null, .unset] [(.ref a)])) rfl (by rw [hml]; rfl) rfl (hb hby d2_1) (by decide) (W := 0) (by show 2 * 0 + _ ≤ _; exact Nat.le_of_eq rfl) (by decide)
  refine GoOn.step st97 ?_
  show GoOn p e below _ (T97.setTop (mkF m 4 #[.val (.ref a), .val (.ref ca), .val (.int (0 : Int32)), .val (.int (1 : Int32)), .val .null, .unset] []))
  refine GoOn.step (fun t₀ k₀ => XS.iloadN X97.here hx rfl (hb hby d2_4) rfl k₀) ?_
  show GoOn p e below _ (T97.setTop (mkF m 5 #[.val (.ref a), .val (.ref ca), .val (.int (0 : Int32)), .val (.int (1 : Int32)), .val .null, .unset] [(.int (1 : Int32))]))
  have hf98 : ¬ ((1 : Int32) = (0 : Int32)) := (by decide)
  refine GoOn.step (fun t₀ k₀ => XS.ifYes X97.here hx rfl (pc0 := 5) (pc' := 27) rfl (hb hby d2_5) rfl ((if0 _ _).trans (feq hf98).2) (by decide) (by decide) k₀) ?_
  show GoOn p e below _ (T97.setTop (mkF m 27 #[.val (.ref a), .val (.ref ca), .val (.int (0 : Int32)), .val (.int (1 : Int32)), .val .null, .unset] []))
  obtain ⟨T99, X99, e99, st99⟩ := getS2 X97 hx hZ hown (host := "") (Or.inl (hw _ (List.mem_of_getElem? (i := 37) rfl))) Via.refl e97 S1 (g := (mkF m 27 #[.val (.ref a), .val (.ref ca), .val (.int (0 : Int32)), .val (.int (1 : Int32)), .val .null, .unset] [])) rfl (hb hby d2_27)
  refine GoOn.step st99 ?_
  show GoOn p e below _ (T99.setTop (mkF m 30 #[.val (.ref a), .val (.ref ca), .val (.int (0 : Int32)), .val (.int (1 : Int32)), .val .null, .unset] [(.int cs)]))
  have hf100 : ¬ (cs = (0 : Int32)) := hcs
  refine GoOn.step (fun t₀ k₀ => XS.ifNo X99.here hx rfl (hb hby d2_30) rfl ((if0 _ _).trans (feq hf100).1) k₀) ?_
  show GoOn p e below _ (T99.setTop (mkF m 33 #[.val (.ref a), .val (.ref ca), .val (.int (0 : Int32)), .val (.int (1 : Int32)), .val .null, .unset] []))
  refine GoOn.step (fun t₀ k₀ => XS.aloadN X99.here hx rfl (hb hby d2_33) rfl rfl k₀) ?_
  show GoOn p e below _ (T99.setTop (mkF m 34 #[.val (.ref a), .val (.ref ca), .val (.int (0 : Int32)), .val (.int (1 : Int32)), .val .null, .unset] [(.ref ca)]))
  refine GoOn.step (fun t₀ k₀ => XS.iloadN X99.here hx rfl (hb hby d2_34) rfl k₀) ?_
  show GoOn p e below _ (T99.setTop (mkF m 35 #[.val (.ref a), .val (.ref ca), .val (.int (0 : Int32)), .val (.int (1 : Int32)), .val .null, .unset] [(.int (0 : Int32)), (.ref ca)]))
  refine GoOn.step (fun t₀ k₀ => XS.iloadN X99.here hx rfl (hb hby d2_35) rfl k₀) ?_
  show GoOn p e below _ (T99.setTop (mkF m 36 #[.val (.ref a), .val (.ref ca), .val (.int (0 : Int32)), .val (.int (1 : Int32)), .val .null, .unset] [(.int (1 : Int32)), (.int (0 : Int32)), (.ref ca)]))
  obtain ⟨_, T101, L101, X101, hQ101, st101⟩ := kCallS X99 hx hZ (argsL := [(.ref ca), (.int (0 : Int32)), (.int (1 : Int32))]) (rest := []) (c_c3_1 l Z a0 hw ca g cs fv h0 n0 Z0 O SS Jc Cg) hown (hw _ (List.mem_of_getElem? (i := 42) rfl)) (hw _ (List.mem_of_getElem? (i := 43) rfl)) (hw _ (List.mem_of_getElem? (i := 44) rfl)) (hw _ (List.mem_of_getElem? (i := 45) rfl)) (by decide) e99 (g := (mkF m 36 #[.val (.ref a), .val (.ref ca), .val (.int (0 : Int32)), .val (.int (1 : Int32)), .val .null, .unset] [(.int (1 : Int32)), (.int (0 : Int32)), (.ref ca)])) rfl (by rw [hml]; rfl) (lenOf pd_11 rfl) rfl (W := 0) (by show 2 * 0 + _ ≤ _; exact Nat.le_of_eq rfl) (hb hby d2_36) (by decide) (by decide) (by decide) (by decide)
  obtain ⟨b, f, N, rfl, N101, K101, sb, Jb, HD⟩ := hQ101
  replace N0 := Fr.app N0 N101
  have ne_a_b : a ≠ b := Nat.ne_of_lt (Nat.lt_of_lt_of_le Ex.lt sb)
  replace K0 := K0.trans K101 all0
  replace Ex := Ex.keep K101
  replace Fv := Fv.keep K101 nin0
  replace Fc := Fc.keep K101 nin0
  replace O := O.keep K101 all0
  replace Z0 := Nat.le_trans Z0 K101.1
  refine GoOn.step st101 ?_
  show GoOn p e below _ (T101.setTop (mkF m 39 #[.val (.ref a), .val (.ref ca), .val (.int (0 : Int32)), .val (.int (1 : Int32)), .val .null, .unset] [(.ref b)]))
  refine GoOn.step (fun t₀ k₀ => XS.astore X101.here hx rfl (hb hby d2_39) rfl rfl (l' := #[.val (.ref a), .val (.ref ca), .val (.int (0 : Int32)), .val (.int (1 : Int32)), .val .null, .val (.ref b)]) rfl k₀) ?_
  show GoOn p e below _ (T101.setTop (mkF m 41 #[.val (.ref a), .val (.ref ca), .val (.int (0 : Int32)), .val (.int (1 : Int32)), .val .null, .val (.ref b)] []))
  refine GoOn.step (fun t₀ k₀ => XS.aloadN X101.here hx rfl (hb hby d2_41) rfl rfl k₀) ?_
  show GoOn p e below _ (T101.setTop (mkF m 42 #[.val (.ref a), .val (.ref ca), .val (.int (0 : Int32)), .val (.int (1 : Int32)), .val .null, .val (.ref b)] [(.ref a)]))
  refine GoOn.step (fun t₀ k₀ => XS.aload X101.here hx rfl (hb hby d2_42) rfl rfl k₀) ?_
  show GoOn p e below _ (T101.setTop (mkF m 44 #[.val (.ref a), .val (.ref ca), .val (.int (0 : Int32)), .val (.int (1 : Int32)), .val .null, .val (.ref b)] [(.ref b), (.ref a)]))
  refine GoOn.step (fun t₀ k₀ => XS.iloadN X101.here hx rfl (hb hby d2_44) rfl k₀) ?_
  show GoOn p e below _ (T101.setTop (mkF m 45 #[.val (.ref a), .val (.ref ca), .val (.int (0 : Int32)), .val (.int (1 : Int32)), .val .null, .val (.ref b)] [(.int (1 : Int32)), (.ref b), (.ref a)]))
  obtain ⟨_, T102, L102, X102, hQ102, st102⟩ := kCallS X101 hx hZ (argsL := [(.ref b), (.int (1 : Int32))]) (rest := [(.ref a)]) (c_cf l Z a0 hw b N f (1 : Int32) T101.heap Jb) hown (hw _ (List.mem_of_getElem? (i := 49) rfl)) (hw _ (List.mem_of_getElem? (i := 50) rfl)) (hw _ (List.mem_of_getElem? (i := 44) rfl)) (hw _ (List.mem_of_getElem? (i := 51) rfl)) (by decide) rfl (g := (mkF m 45 #[.val (.ref a), .val (.ref ca), .val (.int (0 : Int32)), .val (.int (1 : Int32)), .val .null, .val (.ref b)] [(.int (1 : Int32)), (.ref b), (.ref a)])) rfl (by rw [hml]; rfl) (lenOf pd_12 rfl) rfl (W := 1) (by show 2 * 0 + _ ≤ _; exact Nat.le_of_eq rfl) (hb hby d2_45) (by decide) (by decide) (by decide) (by decide)
  obtain ⟨rfl, rfl, e102⟩ := hQ102
  rw [List.append_nil] at X102
  refine GoOn.step st102 ?_
  show GoOn p e below _ (T102.setTop (mkF m 48 #[.val (.ref a), .val (.ref ca), .val (.int (0 : Int32)), .val (.int (1 : Int32)), .val .null, .val (.ref b)] [(.int (((((1 : Int32) - N.toInt32).toUInt32 >>> ((31 : Int32) &&& 31).toUInt32).toInt32).toInt8.toInt32)), (.ref a)]))
  rcases HD with ⟨rfl, hl⟩ | ⟨rfl, hl⟩
  · rw [show (((((1 : Int32) - (Nat.toInt32 1)).toUInt32 >>> ((31 : Int32) &&& 31).toUInt32).toInt32).toInt8.toInt32) = (0 : Int32) from (by decide)]
    obtain ⟨T103, h103, X103, e103, W103, st103⟩ := putFN X102 hx hZ hown (hw _ (List.mem_of_getElem? (i := 22) rfl)) Via.refl e102 Fc Ex (Or.inr ⟨(hw _ (List.mem_of_getElem? (i := 18) rfl)), rfl, hnm⟩) (hw _ (List.mem_of_getElem? (i := 3) rfl)) (ty := .byte) (v' := .int (nar .byte (0 : Int32))) (by decide) rfl (fits_nar_byte _) (g := (mkF m 48 #[.val (.ref a), .val (.ref ca), .val (.int (0 : Int32)), .val (.int (1 : Int32)), .val .null, .val (.ref b)] [(.int (0 : Int32)), (.ref a)])) rfl rfl (hb hby d2_48)
    replace N0 := Fr.snoc X103 N0 ga
    replace Ex := Ex.wr W103
    replace Fv := Fv.other W103 (Or.inr (slot_ne (Or.inr (hw _ (List.mem_of_getElem? (i := 17) rfl))) (Or.inr (hw _ (List.mem_of_getElem? (i := 18) rfl))) (by decide) (t := (.array .byte)) (t' := .byte) (by decide) (by decide)))
    replace Fc := Fld.same W103 Fc
    replace Jb := Jb.other W103 (Ne.symm ne_a_b)
    replace O := O.wr W103 ga
    replace Z0 := Nat.le_trans Z0 (Nat.le_of_eq W103.size.symm)
    replace K0 := K0.wr W103 (Or.inl (by simp))
    refine GoOn.step st103 ?_
    show GoOn p e below _ (T103.setTop (mkF m 51 #[.val (.ref a), .val (.ref ca), .val (.int (0 : Int32)), .val (.int (1 : Int32)), .val .null, .val (.ref b)] []))
    refine GoOn.step (fun t₀ k₀ => XS.aloadN X103.here hx rfl (hb hby d2_51) rfl rfl k₀) ?_
    show GoOn p e below _ (T103.setTop (mkF m 52 #[.val (.ref a), .val (.ref ca), .val (.int (0 : Int32)), .val (.int (1 : Int32)), .val .null, .val (.ref b)] [(.ref a)]))
    refine GoOn.step (fun t₀ k₀ => XS.aload X103.here hx rfl (hb hby d2_52) rfl rfl k₀) ?_
    show GoOn p e below _ (T103.setTop (mkF m 54 #[.val (.ref a), .val (.ref ca), .val (.int (0 : Int32)), .val (.int (1 : Int32)), .val .null, .val (.ref b)] [(.ref b), (.ref a)]))
    obtain ⟨T104, h104, X104, e104, W104, st104⟩ := putF X103 hx hZ hown (host := "") (Or.inl (hw _ (List.mem_of_getElem? (i := 21) rfl))) Via.refl e103 Fv Ex (Or.inr ⟨(hw _ (List.mem_of_getElem? (i := 17) rfl)), rfl, hnm⟩) (hw _ (List.mem_of_getElem? (i := 3) rfl)) (ty := (.array .byte)) (by decide) rfl rfl (g := (mkF m 54 #[.val (.ref a), .val (.ref ca), .val (.int (0 : Int32)), .val (.int (1 : Int32)), .val .null, .val (.ref b)] [(.ref b), (.ref a)])) rfl rfl (hb hby d2_54)
    replace N0 := Fr.snoc X104 N0 ga
    replace Ex := Ex.wr W104
    replace Fv := Fld.same W104 Fv
    replace Fc := Fc.other W104 (Or.inr (slot_ne (Or.inr (hw _ (List.mem_of_getElem? (i := 18) rfl))) (Or.inr (hw _ (List.mem_of_getElem? (i := 17) rfl))) (by decide) (t := .byte) (t' := (.array .byte)) (by decide) (by decide)))
    replace Jb := Jb.other W104 (Ne.symm ne_a_b)
    replace O := O.wr W104 ga
    replace Z0 := Nat.le_trans Z0 (Nat.le_of_eq W104.size.symm)
    replace K0 := K0.wr W104 (Or.inl (by simp))
    refine GoOn.step st104 ?_
    show GoOn p e below _ (T104.setTop (mkF m 57 #[.val (.ref a), .val (.ref ca), .val (.int (0 : Int32)), .val (.int (1 : Int32)), .val .null, .val (.ref b)] []))
    exact GoOn.ret0 X104 hx hrt hlk (hb hby d2_57) (by decide) (by decide) (by first | exact ⟨rfl, N0, K0, Ex, b, _, _, f, Fv, Fc, Jb, Or.inl ⟨rfl, rfl, hl⟩⟩ | (rw [e104]; exact ⟨rfl, N0, K0, Ex, b, _, _, f, Fv, Fc, Jb, Or.inl ⟨rfl, rfl, hl⟩⟩))
  · rw [show (((((1 : Int32) - (Nat.toInt32 (2 * 1))).toUInt32 >>> ((31 : Int32) &&& 31).toUInt32).toInt32).toInt8.toInt32) = (1 : Int32) from (by decide)]
    obtain ⟨T105, h105, X105, e105, W105, st105⟩ := putFN X102 hx hZ hown (hw _ (List.mem_of_getElem? (i := 22) rfl)) Via.refl e102 Fc Ex (Or.inr ⟨(hw _ (List.mem_of_getElem? (i := 18) rfl)), rfl, hnm⟩) (hw _ (List.mem_of_getElem? (i := 3) rfl)) (ty := .byte) (v' := .int (nar .byte (1 : Int32))) (by decide) rfl (fits_nar_byte _) (g := (mkF m 48 #[.val (.ref a), .val (.ref ca), .val (.int (0 : Int32)), .val (.int (1 : Int32)), .val .null, .val (.ref b)] [(.int (1 : Int32)), (.ref a)])) rfl rfl (hb hby d2_48)
    replace N0 := Fr.snoc X105 N0 ga
    replace Ex := Ex.wr W105
    replace Fv := Fv.other W105 (Or.inr (slot_ne (Or.inr (hw _ (List.mem_of_getElem? (i := 17) rfl))) (Or.inr (hw _ (List.mem_of_getElem? (i := 18) rfl))) (by decide) (t := (.array .byte)) (t' := .byte) (by decide) (by decide)))
    replace Fc := Fld.same W105 Fc
    replace Jb := Jb.other W105 (Ne.symm ne_a_b)
    replace O := O.wr W105 ga
    replace Z0 := Nat.le_trans Z0 (Nat.le_of_eq W105.size.symm)
    replace K0 := K0.wr W105 (Or.inl (by simp))
    refine GoOn.step st105 ?_
    show GoOn p e below _ (T105.setTop (mkF m 51 #[.val (.ref a), .val (.ref ca), .val (.int (0 : Int32)), .val (.int (1 : Int32)), .val .null, .val (.ref b)] []))
    refine GoOn.step (fun t₀ k₀ => XS.aloadN X105.here hx rfl (hb hby d2_51) rfl rfl k₀) ?_
    show GoOn p e below _ (T105.setTop (mkF m 52 #[.val (.ref a), .val (.ref ca), .val (.int (0 : Int32)), .val (.int (1 : Int32)), .val .null, .val (.ref b)] [(.ref a)]))
    refine GoOn.step (fun t₀ k₀ => XS.aload X105.here hx rfl (hb hby d2_52) rfl rfl k₀) ?_
    show GoOn p e below _ (T105.setTop (mkF m 54 #[.val (.ref a), .val (.ref ca), .val (.int (0 : Int32)), .val (.int (1 : Int32)), .val .null, .val (.ref b)] [(.ref b), (.ref a)]))
    obtain ⟨T106, h106, X106, e106, W106, st106⟩ := putF X105 hx hZ hown (host := "") (Or.inl (hw _ (List.mem_of_getElem? (i := 21) rfl))) Via.refl e105 Fv Ex (Or.inr ⟨(hw _ (List.mem_of_getElem? (i := 17) rfl)), rfl, hnm⟩) (hw _ (List.mem_of_getElem? (i := 3) rfl)) (ty := (.array .byte)) (by decide) rfl rfl (g := (mkF m 54 #[.val (.ref a), .val (.ref ca), .val (.int (0 : Int32)), .val (.int (1 : Int32)), .val .null, .val (.ref b)] [(.ref b), (.ref a)])) rfl rfl (hb hby d2_54)
    replace N0 := Fr.snoc X106 N0 ga
    replace Ex := Ex.wr W106
    replace Fv := Fld.same W106 Fv
    replace Fc := Fc.other W106 (Or.inr (slot_ne (Or.inr (hw _ (List.mem_of_getElem? (i := 18) rfl))) (Or.inr (hw _ (List.mem_of_getElem? (i := 17) rfl))) (by decide) (t := .byte) (t' := (.array .byte)) (by decide) (by decide)))
    replace Jb := Jb.other W106 (Ne.symm ne_a_b)
    replace O := O.wr W106 ga
    replace Z0 := Nat.le_trans Z0 (Nat.le_of_eq W106.size.symm)
    replace K0 := K0.wr W106 (Or.inl (by simp))
    refine GoOn.step st106 ?_
    show GoOn p e below _ (T106.setTop (mkF m 57 #[.val (.ref a), .val (.ref ca), .val (.int (0 : Int32)), .val (.int (1 : Int32)), .val .null, .val (.ref b)] []))
    exact GoOn.ret0 X106 hx hrt hlk (hb hby d2_57) (by decide) (by decide) (by first | exact ⟨rfl, N0, K0, Ex, b, _, _, f, Fv, Fc, Jb, Or.inr ⟨rfl, rfl, hl⟩⟩ | (rw [e106]; exact ⟨rfl, N0, K0, Ex, b, _, _, f, Fv, Fc, Jb, Or.inr ⟨rfl, rfl, hl⟩⟩))
theorem ef_c_in1 (m : MethodId) (x0 : Addr) (x1 : Addr) : entryFrame m #[(.ref x0), (.ref x1)] 2 = mkF m 0 #[.val (.ref x0), .val (.ref x1)] [] := by first | (simp [entryFrame, mkF, argsToLocals, Value.category]; done) | rfl
set_option maxRecDepth 65536 in
set_option maxHeartbeats 40000000 in
theorem c_in1 (l : Launch) (Z : State) (a0 : Array Value) (hw : ∀ d ∈ tables_1, d.before a0 Z = true) (a ca : Addr) (g : Nat → Int32) (cs : Int32) (fv : Value) (h0 : Heap) (n0 : Nat) (Z0 : n0 ≤ h0.size) (O : Old Z n0 h0) (SS : Stt Z cs fv) (Ex : Exa Z h0 a "java/lang/String") (Fv : Fld Z h0 a "java/lang/String" "value" "[B" .null) (Fc : Fld Z h0 a "java/lang/String" "coder" "B" (.int (0 : Int32))) (ga : n0 ≤ a) (Jc : Jar Z h0 ca .char 1 (fun i => .int (g i))) (Cg : Chr g) :
    Con l Z (⟨"java/lang/String", "<init>", "([C)V"⟩ : MethodName) jdk_42_method_3_code 2 none ({ frames := 5, cells := 2, slots := 3, locals := 110 } : Room) #[(.ref a), (.ref ca)] h0 (VdQ Z a 1 g h0 n0) := by
  refine Con.intro (plainFor_of_name pn_1) ?_
  intro p e s m below meth c s₁ hx hby hml hrt hlk hZ hown hnm X0 e0
  replace hown : s.vm.findClass "java/lang/String" = some m.cls := hown
  have N0 := Fr.nil n0
  refine GoOn.cast (ef_c_in1 m a ca) ?_
  show GoOn p e below _ (s₁.setTop (mkF m 0 #[.val (.ref a), .val (.ref ca)] []))
  have K0 : Keep h0 h0 [a] := Keep.refl _ _
  refine GoOn.step (fun t₀ k₀ => XS.aloadN X0.here hx rfl (hb hby d1_0) rfl rfl k₀) ?_
  show GoOn p e below _ (s₁.setTop (mkF m 1 #[.val (.ref a), .val (.ref ca)] [(.ref a)]))
  refine GoOn.step (fun t₀ k₀ => XS.aloadN X0.here hx rfl (hb hby d1_1) rfl rfl k₀) ?_
  show GoOn p e below _ (s₁.setTop (mkF m 2 #[.val (.ref a), .val (.ref ca)] [(.ref ca), (.ref a)]))
  refine GoOn.step (fun t₀ k₀ => XS.iconst X0.here hx rfl (hb hby d1_2) k₀) ?_
  show GoOn p e below _ (s₁.setTop (mkF m 3 #[.val (.ref a), .val (.ref ca)] [(.int (0 : Int32)), (.ref ca), (.ref a)]))
  refine GoOn.step (fun t₀ k₀ => XS.aloadN X0.here hx rfl (hb hby d1_3) rfl rfl k₀) ?_
  show GoOn p e below _ (s₁.setTop (mkF m 4 #[.val (.ref a), .val (.ref ca)] [(.ref ca), (.int (0 : Int32)), (.ref ca), (.ref a)]))
  refine GoOn.step (fun t₀ k₀ => kLen X0 hx hZ e0 Jc (z := (1 : Int32)) rfl (g := (mkF m 4 #[.val (.ref a), .val (.ref ca)] [(.ref ca), (.int (0 : Int32)), (.ref ca), (.ref a)])) rfl rfl (hb hby d1_4) t₀ k₀) ?_
  show GoOn p e below _ (s₁.setTop (mkF m 5 #[.val (.ref a), .val (.ref ca)] [(.int (1 : Int32)), (.int (0 : Int32)), (.ref ca), (.ref a)]))
  refine GoOn.step (fun t₀ k₀ => XS.aconstNull X0.here hx rfl (hb hby d1_5) k₀) ?_
  show GoOn p e below _ (s₁.setTop (mkF m 6 #[.val (.ref a), .val (.ref ca)] [.null, (.int (1 : Int32)), (.int (0 : Int32)), (.ref ca), (.ref a)]))
  obtain ⟨_, T107, L107, X107, hQ107, st107⟩ := kCallI X0 hx hZ (a := a) (argsL := [(.ref ca), (.int (0 : Int32)), (.int (1 : Int32)), .null]) (rest := []) (c_vd1 l Z a0 hw a ca g cs fv h0 n0 Z0 O SS Ex Fv Fc ga Jc Cg) rfl hown (hw _ (List.mem_of_getElem? (i := 8) rfl)) (hw _ (List.mem_of_getElem? (i := 9) rfl)) (hw _ (List.mem_of_getElem? (i := 4) rfl)) (hw _ (List.mem_of_getElem? (i := 11) rfl)) (by decide) e0 (g := (mkF m 6 #[.val (.ref a), .val (.ref ca)] [.null, (.int (1 : Int32)), (.int (0 : Int32)), (.ref ca), (.ref a)])) rfl (by rw [hml]; rfl) (lenOf pd_13 rfl) rfl (W := 0) (by show 2 * 0 + _ ≤ _; exact Nat.le_of_eq rfl) (hb hby d1_6) (by decide) (by decide) (by decide) (by decide)
  obtain ⟨rfl, N107, K107, SO⟩ := hQ107
  replace N0 := Fr.app N0 N107
  replace K0 := K0.trans K107 (allS (Or.inl (by simp)) all0)
  refine GoOn.step st107 ?_
  show GoOn p e below _ (T107.setTop (mkF m 9 #[.val (.ref a), .val (.ref ca)] []))
  exact GoOn.ret0 X107 hx hrt hlk (hb hby d1_9) (by decide) (by decide) ⟨rfl, N0, K0, SO⟩
theorem ef_c_vd2 (m : MethodId) (x0 : Addr) (x1 : Addr) (x2 : Int32) (x3 : Int32) : entryFrame m #[(.ref x0), (.ref x1), (.int x2), (.int x3), .null] 6 = mkF m 0 #[.val (.ref x0), .val (.ref x1), .val (.int x2), .val (.int x3), .val .null, .unset] [] := by first | (simp [entryFrame, mkF, argsToLocals, Value.category]; done) | rfl
set_option maxRecDepth 65536 in
set_option maxHeartbeats 40000000 in
theorem c_vd2 (l : Launch) (Z : State) (a0 : Array Value) (hw : ∀ d ∈ tables_1, d.before a0 Z = true) (a ca : Addr) (g : Nat → Int32) (cs : Int32) (fv : Value) (h0 : Heap) (n0 : Nat) (Z0 : n0 ≤ h0.size) (O : Old Z n0 h0) (SS : Stt Z cs fv) (Ex : Exa Z h0 a "java/lang/String") (Fv : Fld Z h0 a "java/lang/String" "value" "[B" .null) (Fc : Fld Z h0 a "java/lang/String" "coder" "B" (.int (0 : Int32))) (ga : n0 ≤ a) (Jc : Jar Z h0 ca .char 2 (fun i => .int (g i))) (Cg : Chr g) :
    Con l Z (⟨"java/lang/String", "<init>", "([CIILjava/lang/Void;)V"⟩ : MethodName) jdk_42_method_149_code 6 none ({ frames := 4, cells := 2, slots := 6, locals := 90 } : Room) #[(.ref a), (.ref ca), (.int (0 : Int32)), (.int (2 : Int32)), .null] h0 (VdQ Z a 2 g h0 n0) := by
  refine Con.intro (plainFor_of_name pn_1) ?_
  intro p e s m below meth c s₁ hx hby hml hrt hlk hZ hown hnm X0 e0
  replace hown : s.vm.findClass "java/lang/String" = some m.cls := hown
  have N0 := Fr.nil n0
  refine GoOn.cast (ef_c_vd2 m a ca (0 : Int32) (2 : Int32)) ?_
  show GoOn p e below _ (s₁.setTop (mkF m 0 #[.val (.ref a), .val (.ref ca), .val (.int (0 : Int32)), .val (.int (2 : Int32)), .val .null, .unset] []))
  have K0 : Keep h0 h0 [a] := Keep.refl _ _
  obtain ⟨hcs, hfv, S1, S2, S3, S4, S5⟩ := id SS
  replace S1 := S1.ext O.2
  replace S2 := S2.ext O.2
  replace S3 := S3.ext O.2
  replace S4 := S4.ext O.2
  replace S5 := S5.ext O.2
  refine GoOn.step (fun t₀ k₀ => XS.aloadN X0.here hx rfl (hb hby d2_0) rfl rfl k₀) ?_
  show GoOn p e below _ (s₁.setTop (mkF m 1 #[.val (.ref a), .val (.ref ca), .val (.int (0 : Int32)), .val (.int (2 : Int32)), .val .null, .unset] [(.ref a)]))
  obtain ⟨T108, X108, e108, st108⟩ := initO X0 hx hZ hown (hw _ (List.mem_of_getElem? (i := 12) rfl)) (hw _ (List.mem_of_getElem? (i := 13) rfl)) (hw _ (List.mem_of_getElem? (i := 14) rfl)) e0 (g := (mkF m 1 #[.val (.ref a), .val (.ref ca), .val (.int (0 : Int32)), .val (.int (2 : Int32)), .val .null, .unset] [(.ref a)])) rfl (by rw [hml]; rfl) rfl (hb hby d2_1) (by decide) (W := 0) (by show 2 * 0 + _ ≤ _; exact Nat.le_of_eq rfl) (by decide)
  refine GoOn.step st108 ?_
  show GoOn p e below _ (T108.setTop (mkF m 4 #[.val (.ref a), .val (.ref ca), .val (.int (0 : Int32)), .val (.int (2 : Int32)), .val .null, .unset] []))
  refine GoOn.step (fun t₀ k₀ => XS.iloadN X108.here hx rfl (hb hby d2_4) rfl k₀) ?_
  show GoOn p e below _ (T108.setTop (mkF m 5 #[.val (.ref a), .val (.ref ca), .val (.int (0 : Int32)), .val (.int (2 : Int32)), .val .null, .unset] [(.int (2 : Int32))]))
  have hf109 : ¬ ((2 : Int32) = (0 : Int32)) := (by decide)
  refine GoOn.step (fun t₀ k₀ => XS.ifYes X108.here hx rfl (pc0 := 5) (pc' := 27) rfl (hb hby d2_5) rfl ((if0 _ _).trans (feq hf109).2) (by decide) (by decide) k₀) ?_
  show GoOn p e below _ (T108.setTop (mkF m 27 #[.val (.ref a), .val (.ref ca), .val (.int (0 : Int32)), .val (.int (2 : Int32)), .val .null, .unset] []))
  obtain ⟨T110, X110, e110, st110⟩ := getS2 X108 hx hZ hown (host := "") (Or.inl (hw _ (List.mem_of_getElem? (i := 37) rfl))) Via.refl e108 S1 (g := (mkF m 27 #[.val (.ref a), .val (.ref ca), .val (.int (0 : Int32)), .val (.int (2 : Int32)), .val .null, .unset] [])) rfl (hb hby d2_27)
  refine GoOn.step st110 ?_
  show GoOn p e below _ (T110.setTop (mkF m 30 #[.val (.ref a), .val (.ref ca), .val (.int (0 : Int32)), .val (.int (2 : Int32)), .val .null, .unset] [(.int cs)]))
  have hf111 : ¬ (cs = (0 : Int32)) := hcs
  refine GoOn.step (fun t₀ k₀ => XS.ifNo X110.here hx rfl (hb hby d2_30) rfl ((if0 _ _).trans (feq hf111).1) k₀) ?_
  show GoOn p e below _ (T110.setTop (mkF m 33 #[.val (.ref a), .val (.ref ca), .val (.int (0 : Int32)), .val (.int (2 : Int32)), .val .null, .unset] []))
  refine GoOn.step (fun t₀ k₀ => XS.aloadN X110.here hx rfl (hb hby d2_33) rfl rfl k₀) ?_
  show GoOn p e below _ (T110.setTop (mkF m 34 #[.val (.ref a), .val (.ref ca), .val (.int (0 : Int32)), .val (.int (2 : Int32)), .val .null, .unset] [(.ref ca)]))
  refine GoOn.step (fun t₀ k₀ => XS.iloadN X110.here hx rfl (hb hby d2_34) rfl k₀) ?_
  show GoOn p e below _ (T110.setTop (mkF m 35 #[.val (.ref a), .val (.ref ca), .val (.int (0 : Int32)), .val (.int (2 : Int32)), .val .null, .unset] [(.int (0 : Int32)), (.ref ca)]))
  refine GoOn.step (fun t₀ k₀ => XS.iloadN X110.here hx rfl (hb hby d2_35) rfl k₀) ?_
  show GoOn p e below _ (T110.setTop (mkF m 36 #[.val (.ref a), .val (.ref ca), .val (.int (0 : Int32)), .val (.int (2 : Int32)), .val .null, .unset] [(.int (2 : Int32)), (.int (0 : Int32)), (.ref ca)]))
  obtain ⟨_, T112, L112, X112, hQ112, st112⟩ := kCallS X110 hx hZ (argsL := [(.ref ca), (.int (0 : Int32)), (.int (2 : Int32))]) (rest := []) (c_c3_2 l Z a0 hw ca g cs fv h0 n0 Z0 O SS Jc Cg) hown (hw _ (List.mem_of_getElem? (i := 42) rfl)) (hw _ (List.mem_of_getElem? (i := 43) rfl)) (hw _ (List.mem_of_getElem? (i := 44) rfl)) (hw _ (List.mem_of_getElem? (i := 45) rfl)) (by decide) e110 (g := (mkF m 36 #[.val (.ref a), .val (.ref ca), .val (.int (0 : Int32)), .val (.int (2 : Int32)), .val .null, .unset] [(.int (2 : Int32)), (.int (0 : Int32)), (.ref ca)])) rfl (by rw [hml]; rfl) (lenOf pd_11 rfl) rfl (W := 0) (by show 2 * 0 + _ ≤ _; exact Nat.le_of_eq rfl) (hb hby d2_36) (by decide) (by decide) (by decide) (by decide)
  obtain ⟨b, f, N, rfl, N112, K112, sb, Jb, HD⟩ := hQ112
  replace N0 := Fr.app N0 N112
  have ne_a_b : a ≠ b := Nat.ne_of_lt (Nat.lt_of_lt_of_le Ex.lt sb)
  replace K0 := K0.trans K112 all0
  replace Ex := Ex.keep K112
  replace Fv := Fv.keep K112 nin0
  replace Fc := Fc.keep K112 nin0
  replace O := O.keep K112 all0
  replace Z0 := Nat.le_trans Z0 K112.1
  refine GoOn.step st112 ?_
  show GoOn p e below _ (T112.setTop (mkF m 39 #[.val (.ref a), .val (.ref ca), .val (.int (0 : Int32)), .val (.int (2 : Int32)), .val .null, .unset] [(.ref b)]))
  refine GoOn.step (fun t₀ k₀ => XS.astore X112.here hx rfl (hb hby d2_39) rfl rfl (l' := #[.val (.ref a), .val (.ref ca), .val (.int (0 : Int32)), .val (.int (2 : Int32)), .val .null, .val (.ref b)]) rfl k₀) ?_
  show GoOn p e below _ (T112.setTop (mkF m 41 #[.val (.ref a), .val (.ref ca), .val (.int (0 : Int32)), .val (.int (2 : Int32)), .val .null, .val (.ref b)] []))
  refine GoOn.step (fun t₀ k₀ => XS.aloadN X112.here hx rfl (hb hby d2_41) rfl rfl k₀) ?_
  show GoOn p e below _ (T112.setTop (mkF m 42 #[.val (.ref a), .val (.ref ca), .val (.int (0 : Int32)), .val (.int (2 : Int32)), .val .null, .val (.ref b)] [(.ref a)]))
  refine GoOn.step (fun t₀ k₀ => XS.aload X112.here hx rfl (hb hby d2_42) rfl rfl k₀) ?_
  show GoOn p e below _ (T112.setTop (mkF m 44 #[.val (.ref a), .val (.ref ca), .val (.int (0 : Int32)), .val (.int (2 : Int32)), .val .null, .val (.ref b)] [(.ref b), (.ref a)]))
  refine GoOn.step (fun t₀ k₀ => XS.iloadN X112.here hx rfl (hb hby d2_44) rfl k₀) ?_
  show GoOn p e below _ (T112.setTop (mkF m 45 #[.val (.ref a), .val (.ref ca), .val (.int (0 : Int32)), .val (.int (2 : Int32)), .val .null, .val (.ref b)] [(.int (2 : Int32)), (.ref b), (.ref a)]))
  obtain ⟨_, T113, L113, X113, hQ113, st113⟩ := kCallS X112 hx hZ (argsL := [(.ref b), (.int (2 : Int32))]) (rest := [(.ref a)]) (c_cf l Z a0 hw b N f (2 : Int32) T112.heap Jb) hown (hw _ (List.mem_of_getElem? (i := 49) rfl)) (hw _ (List.mem_of_getElem? (i := 50) rfl)) (hw _ (List.mem_of_getElem? (i := 44) rfl)) (hw _ (List.mem_of_getElem? (i := 51) rfl)) (by decide) rfl (g := (mkF m 45 #[.val (.ref a), .val (.ref ca), .val (.int (0 : Int32)), .val (.int (2 : Int32)), .val .null, .val (.ref b)] [(.int (2 : Int32)), (.ref b), (.ref a)])) rfl (by rw [hml]; rfl) (lenOf pd_12 rfl) rfl (W := 1) (by show 2 * 0 + _ ≤ _; exact Nat.le_of_eq rfl) (hb hby d2_45) (by decide) (by decide) (by decide) (by decide)
  obtain ⟨rfl, rfl, e113⟩ := hQ113
  rw [List.append_nil] at X113
  refine GoOn.step st113 ?_
  show GoOn p e below _ (T113.setTop (mkF m 48 #[.val (.ref a), .val (.ref ca), .val (.int (0 : Int32)), .val (.int (2 : Int32)), .val .null, .val (.ref b)] [(.int (((((2 : Int32) - N.toInt32).toUInt32 >>> ((31 : Int32) &&& 31).toUInt32).toInt32).toInt8.toInt32)), (.ref a)]))
  rcases HD with ⟨rfl, hl⟩ | ⟨rfl, hl⟩
  · rw [show (((((2 : Int32) - (Nat.toInt32 2)).toUInt32 >>> ((31 : Int32) &&& 31).toUInt32).toInt32).toInt8.toInt32) = (0 : Int32) from (by decide)]
    obtain ⟨T114, h114, X114, e114, W114, st114⟩ := putFN X113 hx hZ hown (hw _ (List.mem_of_getElem? (i := 22) rfl)) Via.refl e113 Fc Ex (Or.inr ⟨(hw _ (List.mem_of_getElem? (i := 18) rfl)), rfl, hnm⟩) (hw _ (List.mem_of_getElem? (i := 3) rfl)) (ty := .byte) (v' := .int (nar .byte (0 : Int32))) (by decide) rfl (fits_nar_byte _) (g := (mkF m 48 #[.val (.ref a), .val (.ref ca), .val (.int (0 : Int32)), .val (.int (2 : Int32)), .val .null, .val (.ref b)] [(.int (0 : Int32)), (.ref a)])) rfl rfl (hb hby d2_48)
    replace N0 := Fr.snoc X114 N0 ga
    replace Ex := Ex.wr W114
    replace Fv := Fv.other W114 (Or.inr (slot_ne (Or.inr (hw _ (List.mem_of_getElem? (i := 17) rfl))) (Or.inr (hw _ (List.mem_of_getElem? (i := 18) rfl))) (by decide) (t := (.array .byte)) (t' := .byte) (by decide) (by decide)))
    replace Fc := Fld.same W114 Fc
    replace Jb := Jb.other W114 (Ne.symm ne_a_b)
    replace O := O.wr W114 ga
    replace Z0 := Nat.le_trans Z0 (Nat.le_of_eq W114.size.symm)
    replace K0 := K0.wr W114 (Or.inl (by simp))
    refine GoOn.step st114 ?_
    show GoOn p e below _ (T114.setTop (mkF m 51 #[.val (.ref a), .val (.ref ca), .val (.int (0 : Int32)), .val (.int (2 : Int32)), .val .null, .val (.ref b)] []))
    refine GoOn.step (fun t₀ k₀ => XS.aloadN X114.here hx rfl (hb hby d2_51) rfl rfl k₀) ?_
    show GoOn p e below _ (T114.setTop (mkF m 52 #[.val (.ref a), .val (.ref ca), .val (.int (0 : Int32)), .val (.int (2 : Int32)), .val .null, .val (.ref b)] [(.ref a)]))
    refine GoOn.step (fun t₀ k₀ => XS.aload X114.here hx rfl (hb hby d2_52) rfl rfl k₀) ?_
    show GoOn p e below _ (T114.setTop (mkF m 54 #[.val (.ref a), .val (.ref ca), .val (.int (0 : Int32)), .val (.int (2 : Int32)), .val .null, .val (.ref b)] [(.ref b), (.ref a)]))
    obtain ⟨T115, h115, X115, e115, W115, st115⟩ := putF X114 hx hZ hown (host := "") (Or.inl (hw _ (List.mem_of_getElem? (i := 21) rfl))) Via.refl e114 Fv Ex (Or.inr ⟨(hw _ (List.mem_of_getElem? (i := 17) rfl)), rfl, hnm⟩) (hw _ (List.mem_of_getElem? (i := 3) rfl)) (ty := (.array .byte)) (by decide) rfl rfl (g := (mkF m 54 #[.val (.ref a), .val (.ref ca), .val (.int (0 : Int32)), .val (.int (2 : Int32)), .val .null, .val (.ref b)] [(.ref b), (.ref a)])) rfl rfl (hb hby d2_54)
    replace N0 := Fr.snoc X115 N0 ga
    replace Ex := Ex.wr W115
    replace Fv := Fld.same W115 Fv
    replace Fc := Fc.other W115 (Or.inr (slot_ne (Or.inr (hw _ (List.mem_of_getElem? (i := 18) rfl))) (Or.inr (hw _ (List.mem_of_getElem? (i := 17) rfl))) (by decide) (t := .byte) (t' := (.array .byte)) (by decide) (by decide)))
    replace Jb := Jb.other W115 (Ne.symm ne_a_b)
    replace O := O.wr W115 ga
    replace Z0 := Nat.le_trans Z0 (Nat.le_of_eq W115.size.symm)
    replace K0 := K0.wr W115 (Or.inl (by simp))
    refine GoOn.step st115 ?_
    show GoOn p e below _ (T115.setTop (mkF m 57 #[.val (.ref a), .val (.ref ca), .val (.int (0 : Int32)), .val (.int (2 : Int32)), .val .null, .val (.ref b)] []))
    exact GoOn.ret0 X115 hx hrt hlk (hb hby d2_57) (by decide) (by decide) (by first | exact ⟨rfl, N0, K0, Ex, b, _, _, f, Fv, Fc, Jb, Or.inl ⟨rfl, rfl, hl⟩⟩ | (rw [e115]; exact ⟨rfl, N0, K0, Ex, b, _, _, f, Fv, Fc, Jb, Or.inl ⟨rfl, rfl, hl⟩⟩))
  · rw [show (((((2 : Int32) - (Nat.toInt32 (2 * 2))).toUInt32 >>> ((31 : Int32) &&& 31).toUInt32).toInt32).toInt8.toInt32) = (1 : Int32) from (by decide)]
    obtain ⟨T116, h116, X116, e116, W116, st116⟩ := putFN X113 hx hZ hown (hw _ (List.mem_of_getElem? (i := 22) rfl)) Via.refl e113 Fc Ex (Or.inr ⟨(hw _ (List.mem_of_getElem? (i := 18) rfl)), rfl, hnm⟩) (hw _ (List.mem_of_getElem? (i := 3) rfl)) (ty := .byte) (v' := .int (nar .byte (1 : Int32))) (by decide) rfl (fits_nar_byte _) (g := (mkF m 48 #[.val (.ref a), .val (.ref ca), .val (.int (0 : Int32)), .val (.int (2 : Int32)), .val .null, .val (.ref b)] [(.int (1 : Int32)), (.ref a)])) rfl rfl (hb hby d2_48)
    replace N0 := Fr.snoc X116 N0 ga
    replace Ex := Ex.wr W116
    replace Fv := Fv.other W116 (Or.inr (slot_ne (Or.inr (hw _ (List.mem_of_getElem? (i := 17) rfl))) (Or.inr (hw _ (List.mem_of_getElem? (i := 18) rfl))) (by decide) (t := (.array .byte)) (t' := .byte) (by decide) (by decide)))
    replace Fc := Fld.same W116 Fc
    replace Jb := Jb.other W116 (Ne.symm ne_a_b)
    replace O := O.wr W116 ga
    replace Z0 := Nat.le_trans Z0 (Nat.le_of_eq W116.size.symm)
    replace K0 := K0.wr W116 (Or.inl (by simp))
    refine GoOn.step st116 ?_
    show GoOn p e below _ (T116.setTop (mkF m 51 #[.val (.ref a), .val (.ref ca), .val (.int (0 : Int32)), .val (.int (2 : Int32)), .val .null, .val (.ref b)] []))
    refine GoOn.step (fun t₀ k₀ => XS.aloadN X116.here hx rfl (hb hby d2_51) rfl rfl k₀) ?_
    show GoOn p e below _ (T116.setTop (mkF m 52 #[.val (.ref a), .val (.ref ca), .val (.int (0 : Int32)), .val (.int (2 : Int32)), .val .null, .val (.ref b)] [(.ref a)]))
    refine GoOn.step (fun t₀ k₀ => XS.aload X116.here hx rfl (hb hby d2_52) rfl rfl k₀) ?_
    show GoOn p e below _ (T116.setTop (mkF m 54 #[.val (.ref a), .val (.ref ca), .val (.int (0 : Int32)), .val (.int (2 : Int32)), .val .null, .val (.ref b)] [(.ref b), (.ref a)]))
    obtain ⟨T117, h117, X117, e117, W117, st117⟩ := putF X116 hx hZ hown (host := "") (Or.inl (hw _ (List.mem_of_getElem? (i := 21) rfl))) Via.refl e116 Fv Ex (Or.inr ⟨(hw _ (List.mem_of_getElem? (i := 17) rfl)), rfl, hnm⟩) (hw _ (List.mem_of_getElem? (i := 3) rfl)) (ty := (.array .byte)) (by decide) rfl rfl (g := (mkF m 54 #[.val (.ref a), .val (.ref ca), .val (.int (0 : Int32)), .val (.int (2 : Int32)), .val .null, .val (.ref b)] [(.ref b), (.ref a)])) rfl rfl (hb hby d2_54)
    replace N0 := Fr.snoc X117 N0 ga
    replace Ex := Ex.wr W117
    replace Fv := Fld.same W117 Fv
    replace Fc := Fc.other W117 (Or.inr (slot_ne (Or.inr (hw _ (List.mem_of_getElem? (i := 18) rfl))) (Or.inr (hw _ (List.mem_of_getElem? (i := 17) rfl))) (by decide) (t := .byte) (t' := (.array .byte)) (by decide) (by decide)))
    replace Jb := Jb.other W117 (Ne.symm ne_a_b)
    replace O := O.wr W117 ga
    replace Z0 := Nat.le_trans Z0 (Nat.le_of_eq W117.size.symm)
    replace K0 := K0.wr W117 (Or.inl (by simp))
    refine GoOn.step st117 ?_
    show GoOn p e below _ (T117.setTop (mkF m 57 #[.val (.ref a), .val (.ref ca), .val (.int (0 : Int32)), .val (.int (2 : Int32)), .val .null, .val (.ref b)] []))
    exact GoOn.ret0 X117 hx hrt hlk (hb hby d2_57) (by decide) (by decide) (by first | exact ⟨rfl, N0, K0, Ex, b, _, _, f, Fv, Fc, Jb, Or.inr ⟨rfl, rfl, hl⟩⟩ | (rw [e117]; exact ⟨rfl, N0, K0, Ex, b, _, _, f, Fv, Fc, Jb, Or.inr ⟨rfl, rfl, hl⟩⟩))
theorem ef_c_in2 (m : MethodId) (x0 : Addr) (x1 : Addr) : entryFrame m #[(.ref x0), (.ref x1)] 2 = mkF m 0 #[.val (.ref x0), .val (.ref x1)] [] := by first | (simp [entryFrame, mkF, argsToLocals, Value.category]; done) | rfl
set_option maxRecDepth 65536 in
set_option maxHeartbeats 40000000 in
theorem c_in2 (l : Launch) (Z : State) (a0 : Array Value) (hw : ∀ d ∈ tables_1, d.before a0 Z = true) (a ca : Addr) (g : Nat → Int32) (cs : Int32) (fv : Value) (h0 : Heap) (n0 : Nat) (Z0 : n0 ≤ h0.size) (O : Old Z n0 h0) (SS : Stt Z cs fv) (Ex : Exa Z h0 a "java/lang/String") (Fv : Fld Z h0 a "java/lang/String" "value" "[B" .null) (Fc : Fld Z h0 a "java/lang/String" "coder" "B" (.int (0 : Int32))) (ga : n0 ≤ a) (Jc : Jar Z h0 ca .char 2 (fun i => .int (g i))) (Cg : Chr g) :
    Con l Z (⟨"java/lang/String", "<init>", "([C)V"⟩ : MethodName) jdk_42_method_3_code 2 none ({ frames := 5, cells := 2, slots := 6, locals := 110 } : Room) #[(.ref a), (.ref ca)] h0 (VdQ Z a 2 g h0 n0) := by
  refine Con.intro (plainFor_of_name pn_1) ?_
  intro p e s m below meth c s₁ hx hby hml hrt hlk hZ hown hnm X0 e0
  replace hown : s.vm.findClass "java/lang/String" = some m.cls := hown
  have N0 := Fr.nil n0
  refine GoOn.cast (ef_c_in2 m a ca) ?_
  show GoOn p e below _ (s₁.setTop (mkF m 0 #[.val (.ref a), .val (.ref ca)] []))
  have K0 : Keep h0 h0 [a] := Keep.refl _ _
  refine GoOn.step (fun t₀ k₀ => XS.aloadN X0.here hx rfl (hb hby d1_0) rfl rfl k₀) ?_
  show GoOn p e below _ (s₁.setTop (mkF m 1 #[.val (.ref a), .val (.ref ca)] [(.ref a)]))
  refine GoOn.step (fun t₀ k₀ => XS.aloadN X0.here hx rfl (hb hby d1_1) rfl rfl k₀) ?_
  show GoOn p e below _ (s₁.setTop (mkF m 2 #[.val (.ref a), .val (.ref ca)] [(.ref ca), (.ref a)]))
  refine GoOn.step (fun t₀ k₀ => XS.iconst X0.here hx rfl (hb hby d1_2) k₀) ?_
  show GoOn p e below _ (s₁.setTop (mkF m 3 #[.val (.ref a), .val (.ref ca)] [(.int (0 : Int32)), (.ref ca), (.ref a)]))
  refine GoOn.step (fun t₀ k₀ => XS.aloadN X0.here hx rfl (hb hby d1_3) rfl rfl k₀) ?_
  show GoOn p e below _ (s₁.setTop (mkF m 4 #[.val (.ref a), .val (.ref ca)] [(.ref ca), (.int (0 : Int32)), (.ref ca), (.ref a)]))
  refine GoOn.step (fun t₀ k₀ => kLen X0 hx hZ e0 Jc (z := (2 : Int32)) rfl (g := (mkF m 4 #[.val (.ref a), .val (.ref ca)] [(.ref ca), (.int (0 : Int32)), (.ref ca), (.ref a)])) rfl rfl (hb hby d1_4) t₀ k₀) ?_
  show GoOn p e below _ (s₁.setTop (mkF m 5 #[.val (.ref a), .val (.ref ca)] [(.int (2 : Int32)), (.int (0 : Int32)), (.ref ca), (.ref a)]))
  refine GoOn.step (fun t₀ k₀ => XS.aconstNull X0.here hx rfl (hb hby d1_5) k₀) ?_
  show GoOn p e below _ (s₁.setTop (mkF m 6 #[.val (.ref a), .val (.ref ca)] [.null, (.int (2 : Int32)), (.int (0 : Int32)), (.ref ca), (.ref a)]))
  obtain ⟨_, T118, L118, X118, hQ118, st118⟩ := kCallI X0 hx hZ (a := a) (argsL := [(.ref ca), (.int (0 : Int32)), (.int (2 : Int32)), .null]) (rest := []) (c_vd2 l Z a0 hw a ca g cs fv h0 n0 Z0 O SS Ex Fv Fc ga Jc Cg) rfl hown (hw _ (List.mem_of_getElem? (i := 8) rfl)) (hw _ (List.mem_of_getElem? (i := 9) rfl)) (hw _ (List.mem_of_getElem? (i := 4) rfl)) (hw _ (List.mem_of_getElem? (i := 11) rfl)) (by decide) e0 (g := (mkF m 6 #[.val (.ref a), .val (.ref ca)] [.null, (.int (2 : Int32)), (.int (0 : Int32)), (.ref ca), (.ref a)])) rfl (by rw [hml]; rfl) (lenOf pd_13 rfl) rfl (W := 0) (by show 2 * 0 + _ ≤ _; exact Nat.le_of_eq rfl) (hb hby d1_6) (by decide) (by decide) (by decide) (by decide)
  obtain ⟨rfl, N118, K118, SO⟩ := hQ118
  replace N0 := Fr.app N0 N118
  replace K0 := K0.trans K118 (allS (Or.inl (by simp)) all0)
  refine GoOn.step st118 ?_
  show GoOn p e below _ (T118.setTop (mkF m 9 #[.val (.ref a), .val (.ref ca)] []))
  exact GoOn.ret0 X118 hx hrt hlk (hb hby d1_9) (by decide) (by decide) ⟨rfl, N0, K0, SO⟩
theorem ef_c_vd3 (m : MethodId) (x0 : Addr) (x1 : Addr) (x2 : Int32) (x3 : Int32) : entryFrame m #[(.ref x0), (.ref x1), (.int x2), (.int x3), .null] 6 = mkF m 0 #[.val (.ref x0), .val (.ref x1), .val (.int x2), .val (.int x3), .val .null, .unset] [] := by first | (simp [entryFrame, mkF, argsToLocals, Value.category]; done) | rfl
set_option maxRecDepth 65536 in
set_option maxHeartbeats 40000000 in
theorem c_vd3 (l : Launch) (Z : State) (a0 : Array Value) (hw : ∀ d ∈ tables_1, d.before a0 Z = true) (a ca : Addr) (g : Nat → Int32) (cs : Int32) (fv : Value) (h0 : Heap) (n0 : Nat) (Z0 : n0 ≤ h0.size) (O : Old Z n0 h0) (SS : Stt Z cs fv) (Ex : Exa Z h0 a "java/lang/String") (Fv : Fld Z h0 a "java/lang/String" "value" "[B" .null) (Fc : Fld Z h0 a "java/lang/String" "coder" "B" (.int (0 : Int32))) (ga : n0 ≤ a) (Jc : Jar Z h0 ca .char 3 (fun i => .int (g i))) (Cg : Chr g) :
    Con l Z (⟨"java/lang/String", "<init>", "([CIILjava/lang/Void;)V"⟩ : MethodName) jdk_42_method_149_code 6 none ({ frames := 4, cells := 2, slots := 9, locals := 90 } : Room) #[(.ref a), (.ref ca), (.int (0 : Int32)), (.int (3 : Int32)), .null] h0 (VdQ Z a 3 g h0 n0) := by
  refine Con.intro (plainFor_of_name pn_1) ?_
  intro p e s m below meth c s₁ hx hby hml hrt hlk hZ hown hnm X0 e0
  replace hown : s.vm.findClass "java/lang/String" = some m.cls := hown
  have N0 := Fr.nil n0
  refine GoOn.cast (ef_c_vd3 m a ca (0 : Int32) (3 : Int32)) ?_
  show GoOn p e below _ (s₁.setTop (mkF m 0 #[.val (.ref a), .val (.ref ca), .val (.int (0 : Int32)), .val (.int (3 : Int32)), .val .null, .unset] []))
  have K0 : Keep h0 h0 [a] := Keep.refl _ _
  obtain ⟨hcs, hfv, S1, S2, S3, S4, S5⟩ := id SS
  replace S1 := S1.ext O.2
  replace S2 := S2.ext O.2
  replace S3 := S3.ext O.2
  replace S4 := S4.ext O.2
  replace S5 := S5.ext O.2
  refine GoOn.step (fun t₀ k₀ => XS.aloadN X0.here hx rfl (hb hby d2_0) rfl rfl k₀) ?_
  show GoOn p e below _ (s₁.setTop (mkF m 1 #[.val (.ref a), .val (.ref ca), .val (.int (0 : Int32)), .val (.int (3 : Int32)), .val .null, .unset] [(.ref a)]))
  obtain ⟨T119, X119, e119, st119⟩ := initO X0 hx hZ hown (hw _ (List.mem_of_getElem? (i := 12) rfl)) (hw _ (List.mem_of_getElem? (i := 13) rfl)) (hw _ (List.mem_of_getElem? (i := 14) rfl)) e0 (g := (mkF m 1 #[.val (.ref a), .val (.ref ca), .val (.int (0 : Int32)), .val (.int (3 : Int32)), .val .null, .unset] [(.ref a)])) rfl (by rw [hml]; rfl) rfl (hb hby d2_1) (by decide) (W := 0) (by show 2 * 0 + _ ≤ _; exact Nat.le_of_eq rfl) (by decide)
  refine GoOn.step st119 ?_
  show GoOn p e below _ (T119.setTop (mkF m 4 #[.val (.ref a), .val (.ref ca), .val (.int (0 : Int32)), .val (.int (3 : Int32)), .val .null, .unset] []))
  refine GoOn.step (fun t₀ k₀ => XS.iloadN X119.here hx rfl (hb hby d2_4) rfl k₀) ?_
  show GoOn p e below _ (T119.setTop (mkF m 5 #[.val (.ref a), .val (.ref ca), .val (.int (0 : Int32)), .val (.int (3 : Int32)), .val .null, .unset] [(.int (3 : Int32))]))
  have hf120 : ¬ ((3 : Int32) = (0 : Int32)) := (by decide)
  refine GoOn.step (fun t₀ k₀ => XS.ifYes X119.here hx rfl (pc0 := 5) (pc' := 27) rfl (hb hby d2_5) rfl ((if0 _ _).trans (feq hf120).2) (by decide) (by decide) k₀) ?_
  show GoOn p e below _ (T119.setTop (mkF m 27 #[.val (.ref a), .val (.ref ca), .val (.int (0 : Int32)), .val (.int (3 : Int32)), .val .null, .unset] []))
  obtain ⟨T121, X121, e121, st121⟩ := getS2 X119 hx hZ hown (host := "") (Or.inl (hw _ (List.mem_of_getElem? (i := 37) rfl))) Via.refl e119 S1 (g := (mkF m 27 #[.val (.ref a), .val (.ref ca), .val (.int (0 : Int32)), .val (.int (3 : Int32)), .val .null, .unset] [])) rfl (hb hby d2_27)
  refine GoOn.step st121 ?_
  show GoOn p e below _ (T121.setTop (mkF m 30 #[.val (.ref a), .val (.ref ca), .val (.int (0 : Int32)), .val (.int (3 : Int32)), .val .null, .unset] [(.int cs)]))
  have hf122 : ¬ (cs = (0 : Int32)) := hcs
  refine GoOn.step (fun t₀ k₀ => XS.ifNo X121.here hx rfl (hb hby d2_30) rfl ((if0 _ _).trans (feq hf122).1) k₀) ?_
  show GoOn p e below _ (T121.setTop (mkF m 33 #[.val (.ref a), .val (.ref ca), .val (.int (0 : Int32)), .val (.int (3 : Int32)), .val .null, .unset] []))
  refine GoOn.step (fun t₀ k₀ => XS.aloadN X121.here hx rfl (hb hby d2_33) rfl rfl k₀) ?_
  show GoOn p e below _ (T121.setTop (mkF m 34 #[.val (.ref a), .val (.ref ca), .val (.int (0 : Int32)), .val (.int (3 : Int32)), .val .null, .unset] [(.ref ca)]))
  refine GoOn.step (fun t₀ k₀ => XS.iloadN X121.here hx rfl (hb hby d2_34) rfl k₀) ?_
  show GoOn p e below _ (T121.setTop (mkF m 35 #[.val (.ref a), .val (.ref ca), .val (.int (0 : Int32)), .val (.int (3 : Int32)), .val .null, .unset] [(.int (0 : Int32)), (.ref ca)]))
  refine GoOn.step (fun t₀ k₀ => XS.iloadN X121.here hx rfl (hb hby d2_35) rfl k₀) ?_
  show GoOn p e below _ (T121.setTop (mkF m 36 #[.val (.ref a), .val (.ref ca), .val (.int (0 : Int32)), .val (.int (3 : Int32)), .val .null, .unset] [(.int (3 : Int32)), (.int (0 : Int32)), (.ref ca)]))
  obtain ⟨_, T123, L123, X123, hQ123, st123⟩ := kCallS X121 hx hZ (argsL := [(.ref ca), (.int (0 : Int32)), (.int (3 : Int32))]) (rest := []) (c_c3_3 l Z a0 hw ca g cs fv h0 n0 Z0 O SS Jc Cg) hown (hw _ (List.mem_of_getElem? (i := 42) rfl)) (hw _ (List.mem_of_getElem? (i := 43) rfl)) (hw _ (List.mem_of_getElem? (i := 44) rfl)) (hw _ (List.mem_of_getElem? (i := 45) rfl)) (by decide) e121 (g := (mkF m 36 #[.val (.ref a), .val (.ref ca), .val (.int (0 : Int32)), .val (.int (3 : Int32)), .val .null, .unset] [(.int (3 : Int32)), (.int (0 : Int32)), (.ref ca)])) rfl (by rw [hml]; rfl) (lenOf pd_11 rfl) rfl (W := 0) (by show 2 * 0 + _ ≤ _; exact Nat.le_of_eq rfl) (hb hby d2_36) (by decide) (by decide) (by decide) (by decide)
  obtain ⟨b, f, N, rfl, N123, K123, sb, Jb, HD⟩ := hQ123
  replace N0 := Fr.app N0 N123
  have ne_a_b : a ≠ b := Nat.ne_of_lt (Nat.lt_of_lt_of_le Ex.lt sb)
  replace K0 := K0.trans K123 all0
  replace Ex := Ex.keep K123
  replace Fv := Fv.keep K123 nin0
  replace Fc := Fc.keep K123 nin0
  replace O := O.keep K123 all0
  replace Z0 := Nat.le_trans Z0 K123.1
  refine GoOn.step st123 ?_
  show GoOn p e below _ (T123.setTop (mkF m 39 #[.val (.ref a), .val (.ref ca), .val (.int (0 : Int32)), .val (.int (3 : Int32)), .val .null, .unset] [(.ref b)]))
  refine GoOn.step (fun t₀ k₀ => XS.astore X123.here hx rfl (hb hby d2_39) rfl rfl (l' := #[.val (.ref a), .val (.ref ca), .val (.int (0 : Int32)), .val (.int (3 : Int32)), .val .null, .val (.ref b)]) rfl k₀) ?_
  show GoOn p e below _ (T123.setTop (mkF m 41 #[.val (.ref a), .val (.ref ca), .val (.int (0 : Int32)), .val (.int (3 : Int32)), .val .null, .val (.ref b)] []))
  refine GoOn.step (fun t₀ k₀ => XS.aloadN X123.here hx rfl (hb hby d2_41) rfl rfl k₀) ?_
  show GoOn p e below _ (T123.setTop (mkF m 42 #[.val (.ref a), .val (.ref ca), .val (.int (0 : Int32)), .val (.int (3 : Int32)), .val .null, .val (.ref b)] [(.ref a)]))
  refine GoOn.step (fun t₀ k₀ => XS.aload X123.here hx rfl (hb hby d2_42) rfl rfl k₀) ?_
  show GoOn p e below _ (T123.setTop (mkF m 44 #[.val (.ref a), .val (.ref ca), .val (.int (0 : Int32)), .val (.int (3 : Int32)), .val .null, .val (.ref b)] [(.ref b), (.ref a)]))
  refine GoOn.step (fun t₀ k₀ => XS.iloadN X123.here hx rfl (hb hby d2_44) rfl k₀) ?_
  show GoOn p e below _ (T123.setTop (mkF m 45 #[.val (.ref a), .val (.ref ca), .val (.int (0 : Int32)), .val (.int (3 : Int32)), .val .null, .val (.ref b)] [(.int (3 : Int32)), (.ref b), (.ref a)]))
  obtain ⟨_, T124, L124, X124, hQ124, st124⟩ := kCallS X123 hx hZ (argsL := [(.ref b), (.int (3 : Int32))]) (rest := [(.ref a)]) (c_cf l Z a0 hw b N f (3 : Int32) T123.heap Jb) hown (hw _ (List.mem_of_getElem? (i := 49) rfl)) (hw _ (List.mem_of_getElem? (i := 50) rfl)) (hw _ (List.mem_of_getElem? (i := 44) rfl)) (hw _ (List.mem_of_getElem? (i := 51) rfl)) (by decide) rfl (g := (mkF m 45 #[.val (.ref a), .val (.ref ca), .val (.int (0 : Int32)), .val (.int (3 : Int32)), .val .null, .val (.ref b)] [(.int (3 : Int32)), (.ref b), (.ref a)])) rfl (by rw [hml]; rfl) (lenOf pd_12 rfl) rfl (W := 1) (by show 2 * 0 + _ ≤ _; exact Nat.le_of_eq rfl) (hb hby d2_45) (by decide) (by decide) (by decide) (by decide)
  obtain ⟨rfl, rfl, e124⟩ := hQ124
  rw [List.append_nil] at X124
  refine GoOn.step st124 ?_
  show GoOn p e below _ (T124.setTop (mkF m 48 #[.val (.ref a), .val (.ref ca), .val (.int (0 : Int32)), .val (.int (3 : Int32)), .val .null, .val (.ref b)] [(.int (((((3 : Int32) - N.toInt32).toUInt32 >>> ((31 : Int32) &&& 31).toUInt32).toInt32).toInt8.toInt32)), (.ref a)]))
  rcases HD with ⟨rfl, hl⟩ | ⟨rfl, hl⟩
  · rw [show (((((3 : Int32) - (Nat.toInt32 3)).toUInt32 >>> ((31 : Int32) &&& 31).toUInt32).toInt32).toInt8.toInt32) = (0 : Int32) from (by decide)]
    obtain ⟨T125, h125, X125, e125, W125, st125⟩ := putFN X124 hx hZ hown (hw _ (List.mem_of_getElem? (i := 22) rfl)) Via.refl e124 Fc Ex (Or.inr ⟨(hw _ (List.mem_of_getElem? (i := 18) rfl)), rfl, hnm⟩) (hw _ (List.mem_of_getElem? (i := 3) rfl)) (ty := .byte) (v' := .int (nar .byte (0 : Int32))) (by decide) rfl (fits_nar_byte _) (g := (mkF m 48 #[.val (.ref a), .val (.ref ca), .val (.int (0 : Int32)), .val (.int (3 : Int32)), .val .null, .val (.ref b)] [(.int (0 : Int32)), (.ref a)])) rfl rfl (hb hby d2_48)
    replace N0 := Fr.snoc X125 N0 ga
    replace Ex := Ex.wr W125
    replace Fv := Fv.other W125 (Or.inr (slot_ne (Or.inr (hw _ (List.mem_of_getElem? (i := 17) rfl))) (Or.inr (hw _ (List.mem_of_getElem? (i := 18) rfl))) (by decide) (t := (.array .byte)) (t' := .byte) (by decide) (by decide)))
    replace Fc := Fld.same W125 Fc
    replace Jb := Jb.other W125 (Ne.symm ne_a_b)
    replace O := O.wr W125 ga
    replace Z0 := Nat.le_trans Z0 (Nat.le_of_eq W125.size.symm)
    replace K0 := K0.wr W125 (Or.inl (by simp))
    refine GoOn.step st125 ?_
    show GoOn p e below _ (T125.setTop (mkF m 51 #[.val (.ref a), .val (.ref ca), .val (.int (0 : Int32)), .val (.int (3 : Int32)), .val .null, .val (.ref b)] []))
    refine GoOn.step (fun t₀ k₀ => XS.aloadN X125.here hx rfl (hb hby d2_51) rfl rfl k₀) ?_
    show GoOn p e below _ (T125.setTop (mkF m 52 #[.val (.ref a), .val (.ref ca), .val (.int (0 : Int32)), .val (.int (3 : Int32)), .val .null, .val (.ref b)] [(.ref a)]))
    refine GoOn.step (fun t₀ k₀ => XS.aload X125.here hx rfl (hb hby d2_52) rfl rfl k₀) ?_
    show GoOn p e below _ (T125.setTop (mkF m 54 #[.val (.ref a), .val (.ref ca), .val (.int (0 : Int32)), .val (.int (3 : Int32)), .val .null, .val (.ref b)] [(.ref b), (.ref a)]))
    obtain ⟨T126, h126, X126, e126, W126, st126⟩ := putF X125 hx hZ hown (host := "") (Or.inl (hw _ (List.mem_of_getElem? (i := 21) rfl))) Via.refl e125 Fv Ex (Or.inr ⟨(hw _ (List.mem_of_getElem? (i := 17) rfl)), rfl, hnm⟩) (hw _ (List.mem_of_getElem? (i := 3) rfl)) (ty := (.array .byte)) (by decide) rfl rfl (g := (mkF m 54 #[.val (.ref a), .val (.ref ca), .val (.int (0 : Int32)), .val (.int (3 : Int32)), .val .null, .val (.ref b)] [(.ref b), (.ref a)])) rfl rfl (hb hby d2_54)
    replace N0 := Fr.snoc X126 N0 ga
    replace Ex := Ex.wr W126
    replace Fv := Fld.same W126 Fv
    replace Fc := Fc.other W126 (Or.inr (slot_ne (Or.inr (hw _ (List.mem_of_getElem? (i := 18) rfl))) (Or.inr (hw _ (List.mem_of_getElem? (i := 17) rfl))) (by decide) (t := .byte) (t' := (.array .byte)) (by decide) (by decide)))
    replace Jb := Jb.other W126 (Ne.symm ne_a_b)
    replace O := O.wr W126 ga
    replace Z0 := Nat.le_trans Z0 (Nat.le_of_eq W126.size.symm)
    replace K0 := K0.wr W126 (Or.inl (by simp))
    refine GoOn.step st126 ?_
    show GoOn p e below _ (T126.setTop (mkF m 57 #[.val (.ref a), .val (.ref ca), .val (.int (0 : Int32)), .val (.int (3 : Int32)), .val .null, .val (.ref b)] []))
    exact GoOn.ret0 X126 hx hrt hlk (hb hby d2_57) (by decide) (by decide) (by first | exact ⟨rfl, N0, K0, Ex, b, _, _, f, Fv, Fc, Jb, Or.inl ⟨rfl, rfl, hl⟩⟩ | (rw [e126]; exact ⟨rfl, N0, K0, Ex, b, _, _, f, Fv, Fc, Jb, Or.inl ⟨rfl, rfl, hl⟩⟩))
  · rw [show (((((3 : Int32) - (Nat.toInt32 (2 * 3))).toUInt32 >>> ((31 : Int32) &&& 31).toUInt32).toInt32).toInt8.toInt32) = (1 : Int32) from (by decide)]
    obtain ⟨T127, h127, X127, e127, W127, st127⟩ := putFN X124 hx hZ hown (hw _ (List.mem_of_getElem? (i := 22) rfl)) Via.refl e124 Fc Ex (Or.inr ⟨(hw _ (List.mem_of_getElem? (i := 18) rfl)), rfl, hnm⟩) (hw _ (List.mem_of_getElem? (i := 3) rfl)) (ty := .byte) (v' := .int (nar .byte (1 : Int32))) (by decide) rfl (fits_nar_byte _) (g := (mkF m 48 #[.val (.ref a), .val (.ref ca), .val (.int (0 : Int32)), .val (.int (3 : Int32)), .val .null, .val (.ref b)] [(.int (1 : Int32)), (.ref a)])) rfl rfl (hb hby d2_48)
    replace N0 := Fr.snoc X127 N0 ga
    replace Ex := Ex.wr W127
    replace Fv := Fv.other W127 (Or.inr (slot_ne (Or.inr (hw _ (List.mem_of_getElem? (i := 17) rfl))) (Or.inr (hw _ (List.mem_of_getElem? (i := 18) rfl))) (by decide) (t := (.array .byte)) (t' := .byte) (by decide) (by decide)))
    replace Fc := Fld.same W127 Fc
    replace Jb := Jb.other W127 (Ne.symm ne_a_b)
    replace O := O.wr W127 ga
    replace Z0 := Nat.le_trans Z0 (Nat.le_of_eq W127.size.symm)
    replace K0 := K0.wr W127 (Or.inl (by simp))
    refine GoOn.step st127 ?_
    show GoOn p e below _ (T127.setTop (mkF m 51 #[.val (.ref a), .val (.ref ca), .val (.int (0 : Int32)), .val (.int (3 : Int32)), .val .null, .val (.ref b)] []))
    refine GoOn.step (fun t₀ k₀ => XS.aloadN X127.here hx rfl (hb hby d2_51) rfl rfl k₀) ?_
    show GoOn p e below _ (T127.setTop (mkF m 52 #[.val (.ref a), .val (.ref ca), .val (.int (0 : Int32)), .val (.int (3 : Int32)), .val .null, .val (.ref b)] [(.ref a)]))
    refine GoOn.step (fun t₀ k₀ => XS.aload X127.here hx rfl (hb hby d2_52) rfl rfl k₀) ?_
    show GoOn p e below _ (T127.setTop (mkF m 54 #[.val (.ref a), .val (.ref ca), .val (.int (0 : Int32)), .val (.int (3 : Int32)), .val .null, .val (.ref b)] [(.ref b), (.ref a)]))
    obtain ⟨T128, h128, X128, e128, W128, st128⟩ := putF X127 hx hZ hown (host := "") (Or.inl (hw _ (List.mem_of_getElem? (i := 21) rfl))) Via.refl e127 Fv Ex (Or.inr ⟨(hw _ (List.mem_of_getElem? (i := 17) rfl)), rfl, hnm⟩) (hw _ (List.mem_of_getElem? (i := 3) rfl)) (ty := (.array .byte)) (by decide) rfl rfl (g := (mkF m 54 #[.val (.ref a), .val (.ref ca), .val (.int (0 : Int32)), .val (.int (3 : Int32)), .val .null, .val (.ref b)] [(.ref b), (.ref a)])) rfl rfl (hb hby d2_54)
    replace N0 := Fr.snoc X128 N0 ga
    replace Ex := Ex.wr W128
    replace Fv := Fld.same W128 Fv
    replace Fc := Fc.other W128 (Or.inr (slot_ne (Or.inr (hw _ (List.mem_of_getElem? (i := 18) rfl))) (Or.inr (hw _ (List.mem_of_getElem? (i := 17) rfl))) (by decide) (t := .byte) (t' := (.array .byte)) (by decide) (by decide)))
    replace Jb := Jb.other W128 (Ne.symm ne_a_b)
    replace O := O.wr W128 ga
    replace Z0 := Nat.le_trans Z0 (Nat.le_of_eq W128.size.symm)
    replace K0 := K0.wr W128 (Or.inl (by simp))
    refine GoOn.step st128 ?_
    show GoOn p e below _ (T128.setTop (mkF m 57 #[.val (.ref a), .val (.ref ca), .val (.int (0 : Int32)), .val (.int (3 : Int32)), .val .null, .val (.ref b)] []))
    exact GoOn.ret0 X128 hx hrt hlk (hb hby d2_57) (by decide) (by decide) (by first | exact ⟨rfl, N0, K0, Ex, b, _, _, f, Fv, Fc, Jb, Or.inr ⟨rfl, rfl, hl⟩⟩ | (rw [e128]; exact ⟨rfl, N0, K0, Ex, b, _, _, f, Fv, Fc, Jb, Or.inr ⟨rfl, rfl, hl⟩⟩))
theorem ef_c_in3 (m : MethodId) (x0 : Addr) (x1 : Addr) : entryFrame m #[(.ref x0), (.ref x1)] 2 = mkF m 0 #[.val (.ref x0), .val (.ref x1)] [] := by first | (simp [entryFrame, mkF, argsToLocals, Value.category]; done) | rfl
set_option maxRecDepth 65536 in
set_option maxHeartbeats 40000000 in
theorem c_in3 (l : Launch) (Z : State) (a0 : Array Value) (hw : ∀ d ∈ tables_1, d.before a0 Z = true) (a ca : Addr) (g : Nat → Int32) (cs : Int32) (fv : Value) (h0 : Heap) (n0 : Nat) (Z0 : n0 ≤ h0.size) (O : Old Z n0 h0) (SS : Stt Z cs fv) (Ex : Exa Z h0 a "java/lang/String") (Fv : Fld Z h0 a "java/lang/String" "value" "[B" .null) (Fc : Fld Z h0 a "java/lang/String" "coder" "B" (.int (0 : Int32))) (ga : n0 ≤ a) (Jc : Jar Z h0 ca .char 3 (fun i => .int (g i))) (Cg : Chr g) :
    Con l Z (⟨"java/lang/String", "<init>", "([C)V"⟩ : MethodName) jdk_42_method_3_code 2 none ({ frames := 5, cells := 2, slots := 9, locals := 110 } : Room) #[(.ref a), (.ref ca)] h0 (VdQ Z a 3 g h0 n0) := by
  refine Con.intro (plainFor_of_name pn_1) ?_
  intro p e s m below meth c s₁ hx hby hml hrt hlk hZ hown hnm X0 e0
  replace hown : s.vm.findClass "java/lang/String" = some m.cls := hown
  have N0 := Fr.nil n0
  refine GoOn.cast (ef_c_in3 m a ca) ?_
  show GoOn p e below _ (s₁.setTop (mkF m 0 #[.val (.ref a), .val (.ref ca)] []))
  have K0 : Keep h0 h0 [a] := Keep.refl _ _
  refine GoOn.step (fun t₀ k₀ => XS.aloadN X0.here hx rfl (hb hby d1_0) rfl rfl k₀) ?_
  show GoOn p e below _ (s₁.setTop (mkF m 1 #[.val (.ref a), .val (.ref ca)] [(.ref a)]))
  refine GoOn.step (fun t₀ k₀ => XS.aloadN X0.here hx rfl (hb hby d1_1) rfl rfl k₀) ?_
  show GoOn p e below _ (s₁.setTop (mkF m 2 #[.val (.ref a), .val (.ref ca)] [(.ref ca), (.ref a)]))
  refine GoOn.step (fun t₀ k₀ => XS.iconst X0.here hx rfl (hb hby d1_2) k₀) ?_
  show GoOn p e below _ (s₁.setTop (mkF m 3 #[.val (.ref a), .val (.ref ca)] [(.int (0 : Int32)), (.ref ca), (.ref a)]))
  refine GoOn.step (fun t₀ k₀ => XS.aloadN X0.here hx rfl (hb hby d1_3) rfl rfl k₀) ?_
  show GoOn p e below _ (s₁.setTop (mkF m 4 #[.val (.ref a), .val (.ref ca)] [(.ref ca), (.int (0 : Int32)), (.ref ca), (.ref a)]))
  refine GoOn.step (fun t₀ k₀ => kLen X0 hx hZ e0 Jc (z := (3 : Int32)) rfl (g := (mkF m 4 #[.val (.ref a), .val (.ref ca)] [(.ref ca), (.int (0 : Int32)), (.ref ca), (.ref a)])) rfl rfl (hb hby d1_4) t₀ k₀) ?_
  show GoOn p e below _ (s₁.setTop (mkF m 5 #[.val (.ref a), .val (.ref ca)] [(.int (3 : Int32)), (.int (0 : Int32)), (.ref ca), (.ref a)]))
  refine GoOn.step (fun t₀ k₀ => XS.aconstNull X0.here hx rfl (hb hby d1_5) k₀) ?_
  show GoOn p e below _ (s₁.setTop (mkF m 6 #[.val (.ref a), .val (.ref ca)] [.null, (.int (3 : Int32)), (.int (0 : Int32)), (.ref ca), (.ref a)]))
  obtain ⟨_, T129, L129, X129, hQ129, st129⟩ := kCallI X0 hx hZ (a := a) (argsL := [(.ref ca), (.int (0 : Int32)), (.int (3 : Int32)), .null]) (rest := []) (c_vd3 l Z a0 hw a ca g cs fv h0 n0 Z0 O SS Ex Fv Fc ga Jc Cg) rfl hown (hw _ (List.mem_of_getElem? (i := 8) rfl)) (hw _ (List.mem_of_getElem? (i := 9) rfl)) (hw _ (List.mem_of_getElem? (i := 4) rfl)) (hw _ (List.mem_of_getElem? (i := 11) rfl)) (by decide) e0 (g := (mkF m 6 #[.val (.ref a), .val (.ref ca)] [.null, (.int (3 : Int32)), (.int (0 : Int32)), (.ref ca), (.ref a)])) rfl (by rw [hml]; rfl) (lenOf pd_13 rfl) rfl (W := 0) (by show 2 * 0 + _ ≤ _; exact Nat.le_of_eq rfl) (hb hby d1_6) (by decide) (by decide) (by decide) (by decide)
  obtain ⟨rfl, N129, K129, SO⟩ := hQ129
  replace N0 := Fr.app N0 N129
  replace K0 := K0.trans K129 (allS (Or.inl (by simp)) all0)
  refine GoOn.step st129 ?_
  show GoOn p e below _ (T129.setTop (mkF m 9 #[.val (.ref a), .val (.ref ca)] []))
  exact GoOn.ret0 X129 hx hrt hlk (hb hby d1_9) (by decide) (by decide) ⟨rfl, N0, K0, SO⟩
theorem ef_c_ml0 (m : MethodId) (x0 : Addr) : entryFrame m #[(.ref x0)] 4 = mkF m 0 #[.val (.ref x0), .unset, .unset, .unset] [] := by first | (simp [entryFrame, mkF, argsToLocals, Value.category]; done) | rfl
set_option maxRecDepth 65536 in
set_option maxHeartbeats 40000000 in
theorem c_ml0 (l : Launch) (Z : State) (a0 : Array Value) (hw : ∀ d ∈ tables_1, d.before a0 Z = true) (a : Addr) (g : Nat → Int32) (cs : Int32) (fv : Value) (h0 : Heap) (n0 : Nat) (O : Old Z n0 h0) (SS : Stt Z cs fv) (SO : Str Z h0 a 0 g) (Cg : Chr g) :
    Con l Z (⟨"com/example/lanthorn/lanthorn/core/ModifiedUtf8", "length", "(Ljava/lang/String;)I"⟩ : MethodName) prog_18_method_3_code 4 (some .int) ({ frames := 5, cells := 0, slots := 0, locals := 90 } : Room) #[(.ref a)] h0 (PQ (some (.int (0 : Int32))) h0) := by
  refine Con.intro (plainFor_of_name pn_5) ?_
  intro p e s m below meth c s₁ hx hby hml hrt hlk hZ hown hnm X0 e0
  replace hown : s.vm.findClass "com/example/lanthorn/lanthorn/core/ModifiedUtf8" = some m.cls := hown
  refine GoOn.cast (ef_c_ml0 m a) ?_
  show GoOn p e below _ (s₁.setTop (mkF m 0 #[.val (.ref a), .unset, .unset, .unset] []))
  have Ex := SO.1
  refine GoOn.step (fun t₀ k₀ => XS.iconst X0.here hx rfl (hb hby d4_0) k₀) ?_
  show GoOn p e below _ (s₁.setTop (mkF m 1 #[.val (.ref a), .unset, .unset, .unset] [(.int (0 : Int32))]))
  refine GoOn.step (fun t₀ k₀ => XS.istoreN X0.here hx rfl (hb hby d4_1) rfl (l' := #[.val (.ref a), .val (.int (0 : Int32)), .unset, .unset]) rfl k₀) ?_
  show GoOn p e below _ (s₁.setTop (mkF m 2 #[.val (.ref a), .val (.int (0 : Int32)), .unset, .unset] []))
  refine GoOn.step (fun t₀ k₀ => XS.iconst X0.here hx rfl (hb hby d4_2) k₀) ?_
  show GoOn p e below _ (s₁.setTop (mkF m 3 #[.val (.ref a), .val (.int (0 : Int32)), .unset, .unset] [(.int (0 : Int32))]))
  refine GoOn.step (fun t₀ k₀ => XS.istoreN X0.here hx rfl (hb hby d4_3) rfl (l' := #[.val (.ref a), .val (.int (0 : Int32)), .val (.int (0 : Int32)), .unset]) rfl k₀) ?_
  show GoOn p e below _ (s₁.setTop (mkF m 4 #[.val (.ref a), .val (.int (0 : Int32)), .val (.int (0 : Int32)), .unset] []))
  refine GoOn.step (fun t₀ k₀ => XS.iloadN X0.here hx rfl (hb hby d4_4) rfl k₀) ?_
  show GoOn p e below _ (s₁.setTop (mkF m 5 #[.val (.ref a), .val (.int (0 : Int32)), .val (.int (0 : Int32)), .unset] [(.int (0 : Int32))]))
  refine GoOn.step (fun t₀ k₀ => XS.aloadN X0.here hx rfl (hb hby d4_5) rfl rfl k₀) ?_
  show GoOn p e below _ (s₁.setTop (mkF m 6 #[.val (.ref a), .val (.int (0 : Int32)), .val (.int (0 : Int32)), .unset] [(.ref a), (.int (0 : Int32))]))
  obtain ⟨_, T130, L130, X130, hQ130, st130⟩ := kCallV X0 hx hZ (a := a) (argsL := []) (rest := [(.int (0 : Int32))]) (c_len l Z a0 hw a 0 g cs fv h0 n0 O SS SO (by decide)) hown (hw _ (List.mem_of_getElem? (i := 27) rfl)) (hw _ (List.mem_of_getElem? (i := 28) rfl)) (notFace_of_selects (args := #[]) (mvT hZ (hw _ (List.mem_of_getElem? (i := 30) rfl)))) (hw _ (List.mem_of_getElem? (i := 30) rfl)) (hw _ (List.mem_of_getElem? (i := 29) rfl)) (hw _ (List.mem_of_getElem? (i := 4) rfl)) (hw _ (List.mem_of_getElem? (i := 31) rfl)) (by decide) e0 Ex (g := (mkF m 6 #[.val (.ref a), .val (.int (0 : Int32)), .val (.int (0 : Int32)), .unset] [(.ref a), (.int (0 : Int32))])) rfl (by rw [hml]; rfl) (lenOf pd_14 rfl) rfl (W := 1) (by show 2 * 0 + _ ≤ _; exact Nat.le_of_eq rfl) (hb hby d4_6) (by decide) (by decide) (by decide) (by decide)
  obtain ⟨rfl, rfl, e130⟩ := hQ130
  rw [List.append_nil] at X130
  refine GoOn.step st130 ?_
  show GoOn p e below _ (T130.setTop (mkF m 9 #[.val (.ref a), .val (.int (0 : Int32)), .val (.int (0 : Int32)), .unset] [(.int (Nat.toInt32 0)), (.int (0 : Int32))]))
  rw [show (Nat.toInt32 0) = (0 : Int32) from (by decide)]
  have hf131 : ¬ ((0 : Int32) < (0 : Int32)) := (by decide)
  refine GoOn.step (fun t₀ k₀ => XS.icmpYes X130.here hx rfl (pc0 := 9) (pc' := 54) rfl (hb hby d4_9) rfl (flt hf131).2.1 (by decide) (by decide) k₀) ?_
  show GoOn p e below _ (T130.setTop (mkF m 54 #[.val (.ref a), .val (.int (0 : Int32)), .val (.int (0 : Int32)), .unset] []))
  refine GoOn.step (fun t₀ k₀ => XS.iloadN X130.here hx rfl (hb hby d4_54) rfl k₀) ?_
  show GoOn p e below _ (T130.setTop (mkF m 55 #[.val (.ref a), .val (.int (0 : Int32)), .val (.int (0 : Int32)), .unset] [(.int (0 : Int32))]))
  exact GoOn.retI X130 hx hrt hlk (hb hby d4_55) (by decide) (by decide) (by first | exact ⟨rfl, rfl, rfl⟩ | (rw [e130]; exact ⟨rfl, rfl, rfl⟩))
theorem ef_c_ml1 (m : MethodId) (x0 : Addr) : entryFrame m #[(.ref x0)] 4 = mkF m 0 #[.val (.ref x0), .unset, .unset, .unset] [] := by first | (simp [entryFrame, mkF, argsToLocals, Value.category]; done) | rfl
set_option maxRecDepth 65536 in
set_option maxHeartbeats 40000000 in
theorem c_ml1 (l : Launch) (Z : State) (a0 : Array Value) (hw : ∀ d ∈ tables_1, d.before a0 Z = true) (a : Addr) (g : Nat → Int32) (cs : Int32) (fv : Value) (h0 : Heap) (n0 : Nat) (O : Old Z n0 h0) (SS : Stt Z cs fv) (SO : Str Z h0 a 1 g) (Cg : Chr g) :
    Con l Z (⟨"com/example/lanthorn/lanthorn/core/ModifiedUtf8", "length", "(Ljava/lang/String;)I"⟩ : MethodName) prog_18_method_3_code 4 (some .int) ({ frames := 5, cells := 0, slots := 0, locals := 90 } : Room) #[(.ref a)] h0 (PQ (some (.int ((0 : Int32) + bo (g 0)))) h0) := by
  refine Con.intro (plainFor_of_name pn_5) ?_
  intro p e s m below meth c s₁ hx hby hml hrt hlk hZ hown hnm X0 e0
  replace hown : s.vm.findClass "com/example/lanthorn/lanthorn/core/ModifiedUtf8" = some m.cls := hown
  refine GoOn.cast (ef_c_ml1 m a) ?_
  show GoOn p e below _ (s₁.setTop (mkF m 0 #[.val (.ref a), .unset, .unset, .unset] []))
  have Ex := SO.1
  refine GoOn.step (fun t₀ k₀ => XS.iconst X0.here hx rfl (hb hby d4_0) k₀) ?_
  show GoOn p e below _ (s₁.setTop (mkF m 1 #[.val (.ref a), .unset, .unset, .unset] [(.int (0 : Int32))]))
  refine GoOn.step (fun t₀ k₀ => XS.istoreN X0.here hx rfl (hb hby d4_1) rfl (l' := #[.val (.ref a), .val (.int (0 : Int32)), .unset, .unset]) rfl k₀) ?_
  show GoOn p e below _ (s₁.setTop (mkF m 2 #[.val (.ref a), .val (.int (0 : Int32)), .unset, .unset] []))
  refine GoOn.step (fun t₀ k₀ => XS.iconst X0.here hx rfl (hb hby d4_2) k₀) ?_
  show GoOn p e below _ (s₁.setTop (mkF m 3 #[.val (.ref a), .val (.int (0 : Int32)), .unset, .unset] [(.int (0 : Int32))]))
  refine GoOn.step (fun t₀ k₀ => XS.istoreN X0.here hx rfl (hb hby d4_3) rfl (l' := #[.val (.ref a), .val (.int (0 : Int32)), .val (.int (0 : Int32)), .unset]) rfl k₀) ?_
  show GoOn p e below _ (s₁.setTop (mkF m 4 #[.val (.ref a), .val (.int (0 : Int32)), .val (.int (0 : Int32)), .unset] []))
  refine GoOn.step (fun t₀ k₀ => XS.iloadN X0.here hx rfl (hb hby d4_4) rfl k₀) ?_
  show GoOn p e below _ (s₁.setTop (mkF m 5 #[.val (.ref a), .val (.int (0 : Int32)), .val (.int (0 : Int32)), .unset] [(.int (0 : Int32))]))
  refine GoOn.step (fun t₀ k₀ => XS.aloadN X0.here hx rfl (hb hby d4_5) rfl rfl k₀) ?_
  show GoOn p e below _ (s₁.setTop (mkF m 6 #[.val (.ref a), .val (.int (0 : Int32)), .val (.int (0 : Int32)), .unset] [(.ref a), (.int (0 : Int32))]))
  obtain ⟨_, T132, L132, X132, hQ132, st132⟩ := kCallV X0 hx hZ (a := a) (argsL := []) (rest := [(.int (0 : Int32))]) (c_len l Z a0 hw a 1 g cs fv h0 n0 O SS SO (by decide)) hown (hw _ (List.mem_of_getElem? (i := 27) rfl)) (hw _ (List.mem_of_getElem? (i := 28) rfl)) (notFace_of_selects (args := #[]) (mvT hZ (hw _ (List.mem_of_getElem? (i := 30) rfl)))) (hw _ (List.mem_of_getElem? (i := 30) rfl)) (hw _ (List.mem_of_getElem? (i := 29) rfl)) (hw _ (List.mem_of_getElem? (i := 4) rfl)) (hw _ (List.mem_of_getElem? (i := 31) rfl)) (by decide) e0 Ex (g := (mkF m 6 #[.val (.ref a), .val (.int (0 : Int32)), .val (.int (0 : Int32)), .unset] [(.ref a), (.int (0 : Int32))])) rfl (by rw [hml]; rfl) (lenOf pd_14 rfl) rfl (W := 1) (by show 2 * 0 + _ ≤ _; exact Nat.le_of_eq rfl) (hb hby d4_6) (by decide) (by decide) (by decide) (by decide)
  obtain ⟨rfl, rfl, e132⟩ := hQ132
  rw [List.append_nil] at X132
  refine GoOn.step st132 ?_
  show GoOn p e below _ (T132.setTop (mkF m 9 #[.val (.ref a), .val (.int (0 : Int32)), .val (.int (0 : Int32)), .unset] [(.int (Nat.toInt32 1)), (.int (0 : Int32))]))
  rw [show (Nat.toInt32 1) = (1 : Int32) from (by decide)]
  have hf133 : (0 : Int32) < (1 : Int32) := (by decide)
  refine GoOn.step (fun t₀ k₀ => XS.icmpNo X132.here hx rfl (hb hby d4_9) rfl (tlt hf133).2.1 k₀) ?_
  show GoOn p e below _ (T132.setTop (mkF m 12 #[.val (.ref a), .val (.int (0 : Int32)), .val (.int (0 : Int32)), .unset] []))
  refine GoOn.step (fun t₀ k₀ => XS.aloadN X132.here hx rfl (hb hby d4_12) rfl rfl k₀) ?_
  show GoOn p e below _ (T132.setTop (mkF m 13 #[.val (.ref a), .val (.int (0 : Int32)), .val (.int (0 : Int32)), .unset] [(.ref a)]))
  refine GoOn.step (fun t₀ k₀ => XS.iloadN X132.here hx rfl (hb hby d4_13) rfl k₀) ?_
  show GoOn p e below _ (T132.setTop (mkF m 14 #[.val (.ref a), .val (.int (0 : Int32)), .val (.int (0 : Int32)), .unset] [(.int (0 : Int32)), (.ref a)]))
  obtain ⟨_, T134, L134, X134, hQ134, st134⟩ := kCallV X132 hx hZ (a := a) (argsL := [(.int (0 : Int32))]) (rest := []) (c_at l Z a0 hw a 1 g cs fv (0 : Int32) h0 n0 O SS SO (by decide) Cg ⟨by decide, by decide⟩) hown (hw _ (List.mem_of_getElem? (i := 52) rfl)) (hw _ (List.mem_of_getElem? (i := 53) rfl)) (notFace_of_selects (args := #[]) (mvT hZ (hw _ (List.mem_of_getElem? (i := 55) rfl)))) (hw _ (List.mem_of_getElem? (i := 55) rfl)) (hw _ (List.mem_of_getElem? (i := 54) rfl)) (hw _ (List.mem_of_getElem? (i := 4) rfl)) (hw _ (List.mem_of_getElem? (i := 56) rfl)) (by decide) e132 Ex (g := (mkF m 14 #[.val (.ref a), .val (.int (0 : Int32)), .val (.int (0 : Int32)), .unset] [(.int (0 : Int32)), (.ref a)])) rfl (by rw [hml]; rfl) (lenOf pd_15 rfl) rfl (W := 0) (by show 2 * 0 + _ ≤ _; exact Nat.le_of_eq rfl) (hb hby d4_14) (by decide) (by decide) (by decide) (by decide)
  obtain ⟨rfl, rfl, e134⟩ := hQ134
  rw [List.append_nil] at X134
  refine GoOn.step st134 ?_
  show GoOn p e below _ (T134.setTop (mkF m 17 #[.val (.ref a), .val (.int (0 : Int32)), .val (.int (0 : Int32)), .unset] [(.int (g (0 : Int32).toNatClampNeg))]))
  rw [show (g (0 : Int32).toNatClampNeg) = (g 0) from (congrArg g (by decide))]
  refine GoOn.step (fun t₀ k₀ => XS.istoreN X134.here hx rfl (hb hby d4_17) rfl (l' := #[.val (.ref a), .val (.int (0 : Int32)), .val (.int (0 : Int32)), .val (.int (g 0))]) rfl k₀) ?_
  show GoOn p e below _ (T134.setTop (mkF m 18 #[.val (.ref a), .val (.int (0 : Int32)), .val (.int (0 : Int32)), .val (.int (g 0))] []))
  refine GoOn.step (fun t₀ k₀ => XS.iloadN X134.here hx rfl (hb hby d4_18) rfl k₀) ?_
  show GoOn p e below _ (T134.setTop (mkF m 19 #[.val (.ref a), .val (.int (0 : Int32)), .val (.int (0 : Int32)), .val (.int (g 0))] [(.int (0 : Int32))]))
  refine GoOn.step (fun t₀ k₀ => XS.iloadN X134.here hx rfl (hb hby d4_19) rfl k₀) ?_
  show GoOn p e below _ (T134.setTop (mkF m 20 #[.val (.ref a), .val (.int (0 : Int32)), .val (.int (0 : Int32)), .val (.int (g 0))] [(.int (g 0)), (.int (0 : Int32))]))
  refine GoOn.step (fun t₀ k₀ => XS.iconst X134.here hx rfl (hb hby d4_20) k₀) ?_
  show GoOn p e below _ (T134.setTop (mkF m 21 #[.val (.ref a), .val (.int (0 : Int32)), .val (.int (0 : Int32)), .val (.int (g 0))] [(.int (1 : Int32)), (.int (g 0)), (.int (0 : Int32))]))
  have J0 : ∀ (q : Int32) (_ : q = bo (g 0)), GoOn p e below (EndQ s ({ frames := 5, cells := 0, slots := 0, locals := 90 } : Room) (PQ (some (.int ((0 : Int32) + bo (g 0)))) h0)) (T134.setTop (mkF m 46 #[.val (.ref a), .val (.int (0 : Int32)), .val (.int (0 : Int32)), .val (.int (g 0))] [(.int q), (.int (0 : Int32))])) := by
    intro q hq
    subst hq
    show GoOn p e below _ (T134.setTop (mkF m 46 #[.val (.ref a), .val (.int (0 : Int32)), .val (.int (0 : Int32)), .val (.int (g 0))] [(.int (bo (g 0))), (.int (0 : Int32))]))
    refine GoOn.step (fun t₀ k₀ => XS.iadd X134.here hx rfl (hb hby d4_46) rfl k₀) ?_
    show GoOn p e below _ (T134.setTop (mkF m 47 #[.val (.ref a), .val (.int (0 : Int32)), .val (.int (0 : Int32)), .val (.int (g 0))] [(.int ((0 : Int32) + (bo (g 0))))]))
    refine GoOn.step (fun t₀ k₀ => XS.istoreN X134.here hx rfl (hb hby d4_47) rfl (l' := #[.val (.ref a), .val (.int ((0 : Int32) + (bo (g 0)))), .val (.int (0 : Int32)), .val (.int (g 0))]) rfl k₀) ?_
    show GoOn p e below _ (T134.setTop (mkF m 48 #[.val (.ref a), .val (.int ((0 : Int32) + (bo (g 0)))), .val (.int (0 : Int32)), .val (.int (g 0))] []))
    refine GoOn.step (fun t₀ k₀ => XS.iinc X134.here hx rfl (hb hby d4_48) rfl (l' := #[.val (.ref a), .val (.int ((0 : Int32) + (bo (g 0)))), .val (.int ((0 : Int32) + (1 : Int32))), .val (.int (g 0))]) rfl k₀) ?_
    show GoOn p e below _ (T134.setTop (mkF m 51 #[.val (.ref a), .val (.int ((0 : Int32) + (bo (g 0)))), .val (.int ((0 : Int32) + (1 : Int32))), .val (.int (g 0))] []))
    rw [show ((0 : Int32) + (1 : Int32)) = (1 : Int32) from (by decide)]
    refine GoOn.step (fun t₀ k₀ => XS.goto X134.here hx rfl (pc0 := 51) (pc' := 4) rfl (hb hby d4_51) (by decide) (by decide) k₀) ?_
    show GoOn p e below _ (T134.setTop (mkF m 4 #[.val (.ref a), .val (.int ((0 : Int32) + (bo (g 0)))), .val (.int (1 : Int32)), .val (.int (g 0))] []))
    refine GoOn.step (fun t₀ k₀ => XS.iloadN X134.here hx rfl (hb hby d4_4) rfl k₀) ?_
    show GoOn p e below _ (T134.setTop (mkF m 5 #[.val (.ref a), .val (.int ((0 : Int32) + (bo (g 0)))), .val (.int (1 : Int32)), .val (.int (g 0))] [(.int (1 : Int32))]))
    refine GoOn.step (fun t₀ k₀ => XS.aloadN X134.here hx rfl (hb hby d4_5) rfl rfl k₀) ?_
    show GoOn p e below _ (T134.setTop (mkF m 6 #[.val (.ref a), .val (.int ((0 : Int32) + (bo (g 0)))), .val (.int (1 : Int32)), .val (.int (g 0))] [(.ref a), (.int (1 : Int32))]))
    obtain ⟨_, T135, L135, X135, hQ135, st135⟩ := kCallV X134 hx hZ (a := a) (argsL := []) (rest := [(.int (1 : Int32))]) (c_len l Z a0 hw a 1 g cs fv h0 n0 O SS SO (by decide)) hown (hw _ (List.mem_of_getElem? (i := 27) rfl)) (hw _ (List.mem_of_getElem? (i := 28) rfl)) (notFace_of_selects (args := #[]) (mvT hZ (hw _ (List.mem_of_getElem? (i := 30) rfl)))) (hw _ (List.mem_of_getElem? (i := 30) rfl)) (hw _ (List.mem_of_getElem? (i := 29) rfl)) (hw _ (List.mem_of_getElem? (i := 4) rfl)) (hw _ (List.mem_of_getElem? (i := 31) rfl)) (by decide) e134 Ex (g := (mkF m 6 #[.val (.ref a), .val (.int ((0 : Int32) + (bo (g 0)))), .val (.int (1 : Int32)), .val (.int (g 0))] [(.ref a), (.int (1 : Int32))])) rfl (by rw [hml]; rfl) (lenOf pd_14 rfl) rfl (W := 1) (by show 2 * 0 + _ ≤ _; exact Nat.le_of_eq rfl) (hb hby d4_6) (by decide) (by decide) (by decide) (by decide)
    obtain ⟨rfl, rfl, e135⟩ := hQ135
    rw [List.append_nil] at X135
    refine GoOn.step st135 ?_
    show GoOn p e below _ (T135.setTop (mkF m 9 #[.val (.ref a), .val (.int ((0 : Int32) + (bo (g 0)))), .val (.int (1 : Int32)), .val (.int (g 0))] [(.int (Nat.toInt32 1)), (.int (1 : Int32))]))
    rw [show (Nat.toInt32 1) = (1 : Int32) from (by decide)]
    have hf136 : ¬ ((1 : Int32) < (1 : Int32)) := (by decide)
    refine GoOn.step (fun t₀ k₀ => XS.icmpYes X135.here hx rfl (pc0 := 9) (pc' := 54) rfl (hb hby d4_9) rfl (flt hf136).2.1 (by decide) (by decide) k₀) ?_
    show GoOn p e below _ (T135.setTop (mkF m 54 #[.val (.ref a), .val (.int ((0 : Int32) + (bo (g 0)))), .val (.int (1 : Int32)), .val (.int (g 0))] []))
    refine GoOn.step (fun t₀ k₀ => XS.iloadN X135.here hx rfl (hb hby d4_54) rfl k₀) ?_
    show GoOn p e below _ (T135.setTop (mkF m 55 #[.val (.ref a), .val (.int ((0 : Int32) + (bo (g 0)))), .val (.int (1 : Int32)), .val (.int (g 0))] [(.int ((0 : Int32) + (bo (g 0))))]))
    exact GoOn.retI X135 hx hrt hlk (hb hby d4_55) (by decide) (by decide) (by first | exact ⟨rfl, rfl, rfl⟩ | (rw [e135]; exact ⟨rfl, rfl, rfl⟩))
  by_cases p1 : (g 0) < (1 : Int32)
  · refine GoOn.step (fun t₀ k₀ => XS.icmpYes X134.here hx rfl (pc0 := 21) (pc' := 34) rfl (hb hby d4_21) rfl (tlt p1).1 (by decide) (by decide) k₀) ?_
    show GoOn p e below _ (T134.setTop (mkF m 34 #[.val (.ref a), .val (.int (0 : Int32)), .val (.int (0 : Int32)), .val (.int (g 0))] [(.int (0 : Int32))]))
    refine GoOn.step (fun t₀ k₀ => XS.iloadN X134.here hx rfl (hb hby d4_34) rfl k₀) ?_
    show GoOn p e below _ (T134.setTop (mkF m 35 #[.val (.ref a), .val (.int (0 : Int32)), .val (.int (0 : Int32)), .val (.int (g 0))] [(.int (g 0)), (.int (0 : Int32))]))
    refine GoOn.step (fun t₀ k₀ => XS.sipush X134.here hx rfl (hb hby d4_35) k₀) ?_
    show GoOn p e below _ (T134.setTop (mkF m 38 #[.val (.ref a), .val (.int (0 : Int32)), .val (.int (0 : Int32)), .val (.int (g 0))] [(.int (2047 : Int32)), (.int (g 0)), (.int (0 : Int32))]))
    by_cases p3 : (2047 : Int32) < (g 0)
    · refine GoOn.step (fun t₀ k₀ => XS.icmpYes X134.here hx rfl (pc0 := 38) (pc' := 45) rfl (hb hby d4_38) rfl (tlt p3).2.2.1 (by decide) (by decide) k₀) ?_
      show GoOn p e below _ (T134.setTop (mkF m 45 #[.val (.ref a), .val (.int (0 : Int32)), .val (.int (0 : Int32)), .val (.int (g 0))] [(.int (0 : Int32))]))
      refine GoOn.step (fun t₀ k₀ => XS.iconst X134.here hx rfl (hb hby d4_45) k₀) ?_
      show GoOn p e below _ (T134.setTop (mkF m 46 #[.val (.ref a), .val (.int (0 : Int32)), .val (.int (0 : Int32)), .val (.int (g 0))] [(.int (3 : Int32)), (.int (0 : Int32))]))
      exact J0 _ (bo3 p3)
    · refine GoOn.step (fun t₀ k₀ => XS.icmpNo X134.here hx rfl (hb hby d4_38) rfl (flt p3).2.2.1 k₀) ?_
      show GoOn p e below _ (T134.setTop (mkF m 41 #[.val (.ref a), .val (.int (0 : Int32)), .val (.int (0 : Int32)), .val (.int (g 0))] [(.int (0 : Int32))]))
      refine GoOn.step (fun t₀ k₀ => XS.iconst X134.here hx rfl (hb hby d4_41) k₀) ?_
      show GoOn p e below _ (T134.setTop (mkF m 42 #[.val (.ref a), .val (.int (0 : Int32)), .val (.int (0 : Int32)), .val (.int (g 0))] [(.int (2 : Int32)), (.int (0 : Int32))]))
      refine GoOn.step (fun t₀ k₀ => XS.goto X134.here hx rfl (pc0 := 42) (pc' := 46) rfl (hb hby d4_42) (by decide) (by decide) k₀) ?_
      show GoOn p e below _ (T134.setTop (mkF m 46 #[.val (.ref a), .val (.int (0 : Int32)), .val (.int (0 : Int32)), .val (.int (g 0))] [(.int (2 : Int32)), (.int (0 : Int32))]))
      exact J0 _ (bo2 (Cg _).1 (Or.inl p1) p3)
  · refine GoOn.step (fun t₀ k₀ => XS.icmpNo X134.here hx rfl (hb hby d4_21) rfl (flt p1).1 k₀) ?_
    show GoOn p e below _ (T134.setTop (mkF m 24 #[.val (.ref a), .val (.int (0 : Int32)), .val (.int (0 : Int32)), .val (.int (g 0))] [(.int (0 : Int32))]))
    refine GoOn.step (fun t₀ k₀ => XS.iloadN X134.here hx rfl (hb hby d4_24) rfl k₀) ?_
    show GoOn p e below _ (T134.setTop (mkF m 25 #[.val (.ref a), .val (.int (0 : Int32)), .val (.int (0 : Int32)), .val (.int (g 0))] [(.int (g 0)), (.int (0 : Int32))]))
    refine GoOn.step (fun t₀ k₀ => XS.bipush X134.here hx rfl (hb hby d4_25) k₀) ?_
    show GoOn p e below _ (T134.setTop (mkF m 27 #[.val (.ref a), .val (.int (0 : Int32)), .val (.int (0 : Int32)), .val (.int (g 0))] [(.int (127 : Int32)), (.int (g 0)), (.int (0 : Int32))]))
    by_cases p2 : (127 : Int32) < (g 0)
    · refine GoOn.step (fun t₀ k₀ => XS.icmpYes X134.here hx rfl (pc0 := 27) (pc' := 34) rfl (hb hby d4_27) rfl (tlt p2).2.2.1 (by decide) (by decide) k₀) ?_
      show GoOn p e below _ (T134.setTop (mkF m 34 #[.val (.ref a), .val (.int (0 : Int32)), .val (.int (0 : Int32)), .val (.int (g 0))] [(.int (0 : Int32))]))
      refine GoOn.step (fun t₀ k₀ => XS.iloadN X134.here hx rfl (hb hby d4_34) rfl k₀) ?_
      show GoOn p e below _ (T134.setTop (mkF m 35 #[.val (.ref a), .val (.int (0 : Int32)), .val (.int (0 : Int32)), .val (.int (g 0))] [(.int (g 0)), (.int (0 : Int32))]))
      refine GoOn.step (fun t₀ k₀ => XS.sipush X134.here hx rfl (hb hby d4_35) k₀) ?_
      show GoOn p e below _ (T134.setTop (mkF m 38 #[.val (.ref a), .val (.int (0 : Int32)), .val (.int (0 : Int32)), .val (.int (g 0))] [(.int (2047 : Int32)), (.int (g 0)), (.int (0 : Int32))]))
      by_cases p3 : (2047 : Int32) < (g 0)
      · refine GoOn.step (fun t₀ k₀ => XS.icmpYes X134.here hx rfl (pc0 := 38) (pc' := 45) rfl (hb hby d4_38) rfl (tlt p3).2.2.1 (by decide) (by decide) k₀) ?_
        show GoOn p e below _ (T134.setTop (mkF m 45 #[.val (.ref a), .val (.int (0 : Int32)), .val (.int (0 : Int32)), .val (.int (g 0))] [(.int (0 : Int32))]))
        refine GoOn.step (fun t₀ k₀ => XS.iconst X134.here hx rfl (hb hby d4_45) k₀) ?_
        show GoOn p e below _ (T134.setTop (mkF m 46 #[.val (.ref a), .val (.int (0 : Int32)), .val (.int (0 : Int32)), .val (.int (g 0))] [(.int (3 : Int32)), (.int (0 : Int32))]))
        exact J0 _ (bo3 p3)
      · refine GoOn.step (fun t₀ k₀ => XS.icmpNo X134.here hx rfl (hb hby d4_38) rfl (flt p3).2.2.1 k₀) ?_
        show GoOn p e below _ (T134.setTop (mkF m 41 #[.val (.ref a), .val (.int (0 : Int32)), .val (.int (0 : Int32)), .val (.int (g 0))] [(.int (0 : Int32))]))
        refine GoOn.step (fun t₀ k₀ => XS.iconst X134.here hx rfl (hb hby d4_41) k₀) ?_
        show GoOn p e below _ (T134.setTop (mkF m 42 #[.val (.ref a), .val (.int (0 : Int32)), .val (.int (0 : Int32)), .val (.int (g 0))] [(.int (2 : Int32)), (.int (0 : Int32))]))
        refine GoOn.step (fun t₀ k₀ => XS.goto X134.here hx rfl (pc0 := 42) (pc' := 46) rfl (hb hby d4_42) (by decide) (by decide) k₀) ?_
        show GoOn p e below _ (T134.setTop (mkF m 46 #[.val (.ref a), .val (.int (0 : Int32)), .val (.int (0 : Int32)), .val (.int (g 0))] [(.int (2 : Int32)), (.int (0 : Int32))]))
        exact J0 _ (bo2 (Cg _).1 (Or.inr p2) p3)
    · refine GoOn.step (fun t₀ k₀ => XS.icmpNo X134.here hx rfl (hb hby d4_27) rfl (flt p2).2.2.1 k₀) ?_
      show GoOn p e below _ (T134.setTop (mkF m 30 #[.val (.ref a), .val (.int (0 : Int32)), .val (.int (0 : Int32)), .val (.int (g 0))] [(.int (0 : Int32))]))
      refine GoOn.step (fun t₀ k₀ => XS.iconst X134.here hx rfl (hb hby d4_30) k₀) ?_
      show GoOn p e below _ (T134.setTop (mkF m 31 #[.val (.ref a), .val (.int (0 : Int32)), .val (.int (0 : Int32)), .val (.int (g 0))] [(.int (1 : Int32)), (.int (0 : Int32))]))
      refine GoOn.step (fun t₀ k₀ => XS.goto X134.here hx rfl (pc0 := 31) (pc' := 46) rfl (hb hby d4_31) (by decide) (by decide) k₀) ?_
      show GoOn p e below _ (T134.setTop (mkF m 46 #[.val (.ref a), .val (.int (0 : Int32)), .val (.int (0 : Int32)), .val (.int (g 0))] [(.int (1 : Int32)), (.int (0 : Int32))]))
      exact J0 _ (bo1 p1 p2)
theorem ef_c_ml2 (m : MethodId) (x0 : Addr) : entryFrame m #[(.ref x0)] 4 = mkF m 0 #[.val (.ref x0), .unset, .unset, .unset] [] := by first | (simp [entryFrame, mkF, argsToLocals, Value.category]; done) | rfl
set_option maxRecDepth 65536 in
set_option maxHeartbeats 40000000 in
theorem c_ml2 (l : Launch) (Z : State) (a0 : Array Value) (hw : ∀ d ∈ tables_1, d.before a0 Z = true) (a : Addr) (g : Nat → Int32) (cs : Int32) (fv : Value) (h0 : Heap) (n0 : Nat) (O : Old Z n0 h0) (SS : Stt Z cs fv) (SO : Str Z h0 a 2 g) (Cg : Chr g) :
    Con l Z (⟨"com/example/lanthorn/lanthorn/core/ModifiedUtf8", "length", "(Ljava/lang/String;)I"⟩ : MethodName) prog_18_method_3_code 4 (some .int) ({ frames := 5, cells := 0, slots := 0, locals := 90 } : Room) #[(.ref a)] h0 (PQ (some (.int (((0 : Int32) + bo (g 0)) + bo (g 1)))) h0) := by
  refine Con.intro (plainFor_of_name pn_5) ?_
  intro p e s m below meth c s₁ hx hby hml hrt hlk hZ hown hnm X0 e0
  replace hown : s.vm.findClass "com/example/lanthorn/lanthorn/core/ModifiedUtf8" = some m.cls := hown
  refine GoOn.cast (ef_c_ml2 m a) ?_
  show GoOn p e below _ (s₁.setTop (mkF m 0 #[.val (.ref a), .unset, .unset, .unset] []))
  have Ex := SO.1
  refine GoOn.step (fun t₀ k₀ => XS.iconst X0.here hx rfl (hb hby d4_0) k₀) ?_
  show GoOn p e below _ (s₁.setTop (mkF m 1 #[.val (.ref a), .unset, .unset, .unset] [(.int (0 : Int32))]))
  refine GoOn.step (fun t₀ k₀ => XS.istoreN X0.here hx rfl (hb hby d4_1) rfl (l' := #[.val (.ref a), .val (.int (0 : Int32)), .unset, .unset]) rfl k₀) ?_
  show GoOn p e below _ (s₁.setTop (mkF m 2 #[.val (.ref a), .val (.int (0 : Int32)), .unset, .unset] []))
  refine GoOn.step (fun t₀ k₀ => XS.iconst X0.here hx rfl (hb hby d4_2) k₀) ?_
  show GoOn p e below _ (s₁.setTop (mkF m 3 #[.val (.ref a), .val (.int (0 : Int32)), .unset, .unset] [(.int (0 : Int32))]))
  refine GoOn.step (fun t₀ k₀ => XS.istoreN X0.here hx rfl (hb hby d4_3) rfl (l' := #[.val (.ref a), .val (.int (0 : Int32)), .val (.int (0 : Int32)), .unset]) rfl k₀) ?_
  show GoOn p e below _ (s₁.setTop (mkF m 4 #[.val (.ref a), .val (.int (0 : Int32)), .val (.int (0 : Int32)), .unset] []))
  refine GoOn.step (fun t₀ k₀ => XS.iloadN X0.here hx rfl (hb hby d4_4) rfl k₀) ?_
  show GoOn p e below _ (s₁.setTop (mkF m 5 #[.val (.ref a), .val (.int (0 : Int32)), .val (.int (0 : Int32)), .unset] [(.int (0 : Int32))]))
  refine GoOn.step (fun t₀ k₀ => XS.aloadN X0.here hx rfl (hb hby d4_5) rfl rfl k₀) ?_
  show GoOn p e below _ (s₁.setTop (mkF m 6 #[.val (.ref a), .val (.int (0 : Int32)), .val (.int (0 : Int32)), .unset] [(.ref a), (.int (0 : Int32))]))
  obtain ⟨_, T137, L137, X137, hQ137, st137⟩ := kCallV X0 hx hZ (a := a) (argsL := []) (rest := [(.int (0 : Int32))]) (c_len l Z a0 hw a 2 g cs fv h0 n0 O SS SO (by decide)) hown (hw _ (List.mem_of_getElem? (i := 27) rfl)) (hw _ (List.mem_of_getElem? (i := 28) rfl)) (notFace_of_selects (args := #[]) (mvT hZ (hw _ (List.mem_of_getElem? (i := 30) rfl)))) (hw _ (List.mem_of_getElem? (i := 30) rfl)) (hw _ (List.mem_of_getElem? (i := 29) rfl)) (hw _ (List.mem_of_getElem? (i := 4) rfl)) (hw _ (List.mem_of_getElem? (i := 31) rfl)) (by decide) e0 Ex (g := (mkF m 6 #[.val (.ref a), .val (.int (0 : Int32)), .val (.int (0 : Int32)), .unset] [(.ref a), (.int (0 : Int32))])) rfl (by rw [hml]; rfl) (lenOf pd_14 rfl) rfl (W := 1) (by show 2 * 0 + _ ≤ _; exact Nat.le_of_eq rfl) (hb hby d4_6) (by decide) (by decide) (by decide) (by decide)
  obtain ⟨rfl, rfl, e137⟩ := hQ137
  rw [List.append_nil] at X137
  refine GoOn.step st137 ?_
  show GoOn p e below _ (T137.setTop (mkF m 9 #[.val (.ref a), .val (.int (0 : Int32)), .val (.int (0 : Int32)), .unset] [(.int (Nat.toInt32 2)), (.int (0 : Int32))]))
  rw [show (Nat.toInt32 2) = (2 : Int32) from (by decide)]
  have hf138 : (0 : Int32) < (2 : Int32) := (by decide)
  refine GoOn.step (fun t₀ k₀ => XS.icmpNo X137.here hx rfl (hb hby d4_9) rfl (tlt hf138).2.1 k₀) ?_
  show GoOn p e below _ (T137.setTop (mkF m 12 #[.val (.ref a), .val (.int (0 : Int32)), .val (.int (0 : Int32)), .unset] []))
  refine GoOn.step (fun t₀ k₀ => XS.aloadN X137.here hx rfl (hb hby d4_12) rfl rfl k₀) ?_
  show GoOn p e below _ (T137.setTop (mkF m 13 #[.val (.ref a), .val (.int (0 : Int32)), .val (.int (0 : Int32)), .unset] [(.ref a)]))
  refine GoOn.step (fun t₀ k₀ => XS.iloadN X137.here hx rfl (hb hby d4_13) rfl k₀) ?_
  show GoOn p e below _ (T137.setTop (mkF m 14 #[.val (.ref a), .val (.int (0 : Int32)), .val (.int (0 : Int32)), .unset] [(.int (0 : Int32)), (.ref a)]))
  obtain ⟨_, T139, L139, X139, hQ139, st139⟩ := kCallV X137 hx hZ (a := a) (argsL := [(.int (0 : Int32))]) (rest := []) (c_at l Z a0 hw a 2 g cs fv (0 : Int32) h0 n0 O SS SO (by decide) Cg ⟨by decide, by decide⟩) hown (hw _ (List.mem_of_getElem? (i := 52) rfl)) (hw _ (List.mem_of_getElem? (i := 53) rfl)) (notFace_of_selects (args := #[]) (mvT hZ (hw _ (List.mem_of_getElem? (i := 55) rfl)))) (hw _ (List.mem_of_getElem? (i := 55) rfl)) (hw _ (List.mem_of_getElem? (i := 54) rfl)) (hw _ (List.mem_of_getElem? (i := 4) rfl)) (hw _ (List.mem_of_getElem? (i := 56) rfl)) (by decide) e137 Ex (g := (mkF m 14 #[.val (.ref a), .val (.int (0 : Int32)), .val (.int (0 : Int32)), .unset] [(.int (0 : Int32)), (.ref a)])) rfl (by rw [hml]; rfl) (lenOf pd_15 rfl) rfl (W := 0) (by show 2 * 0 + _ ≤ _; exact Nat.le_of_eq rfl) (hb hby d4_14) (by decide) (by decide) (by decide) (by decide)
  obtain ⟨rfl, rfl, e139⟩ := hQ139
  rw [List.append_nil] at X139
  refine GoOn.step st139 ?_
  show GoOn p e below _ (T139.setTop (mkF m 17 #[.val (.ref a), .val (.int (0 : Int32)), .val (.int (0 : Int32)), .unset] [(.int (g (0 : Int32).toNatClampNeg))]))
  rw [show (g (0 : Int32).toNatClampNeg) = (g 0) from (congrArg g (by decide))]
  refine GoOn.step (fun t₀ k₀ => XS.istoreN X139.here hx rfl (hb hby d4_17) rfl (l' := #[.val (.ref a), .val (.int (0 : Int32)), .val (.int (0 : Int32)), .val (.int (g 0))]) rfl k₀) ?_
  show GoOn p e below _ (T139.setTop (mkF m 18 #[.val (.ref a), .val (.int (0 : Int32)), .val (.int (0 : Int32)), .val (.int (g 0))] []))
  refine GoOn.step (fun t₀ k₀ => XS.iloadN X139.here hx rfl (hb hby d4_18) rfl k₀) ?_
  show GoOn p e below _ (T139.setTop (mkF m 19 #[.val (.ref a), .val (.int (0 : Int32)), .val (.int (0 : Int32)), .val (.int (g 0))] [(.int (0 : Int32))]))
  refine GoOn.step (fun t₀ k₀ => XS.iloadN X139.here hx rfl (hb hby d4_19) rfl k₀) ?_
  show GoOn p e below _ (T139.setTop (mkF m 20 #[.val (.ref a), .val (.int (0 : Int32)), .val (.int (0 : Int32)), .val (.int (g 0))] [(.int (g 0)), (.int (0 : Int32))]))
  refine GoOn.step (fun t₀ k₀ => XS.iconst X139.here hx rfl (hb hby d4_20) k₀) ?_
  show GoOn p e below _ (T139.setTop (mkF m 21 #[.val (.ref a), .val (.int (0 : Int32)), .val (.int (0 : Int32)), .val (.int (g 0))] [(.int (1 : Int32)), (.int (g 0)), (.int (0 : Int32))]))
  have J0 : ∀ (q : Int32) (_ : q = bo (g 0)), GoOn p e below (EndQ s ({ frames := 5, cells := 0, slots := 0, locals := 90 } : Room) (PQ (some (.int (((0 : Int32) + bo (g 0)) + bo (g 1)))) h0)) (T139.setTop (mkF m 46 #[.val (.ref a), .val (.int (0 : Int32)), .val (.int (0 : Int32)), .val (.int (g 0))] [(.int q), (.int (0 : Int32))])) := by
    intro q hq
    subst hq
    show GoOn p e below _ (T139.setTop (mkF m 46 #[.val (.ref a), .val (.int (0 : Int32)), .val (.int (0 : Int32)), .val (.int (g 0))] [(.int (bo (g 0))), (.int (0 : Int32))]))
    refine GoOn.step (fun t₀ k₀ => XS.iadd X139.here hx rfl (hb hby d4_46) rfl k₀) ?_
    show GoOn p e below _ (T139.setTop (mkF m 47 #[.val (.ref a), .val (.int (0 : Int32)), .val (.int (0 : Int32)), .val (.int (g 0))] [(.int ((0 : Int32) + (bo (g 0))))]))
    refine GoOn.step (fun t₀ k₀ => XS.istoreN X139.here hx rfl (hb hby d4_47) rfl (l' := #[.val (.ref a), .val (.int ((0 : Int32) + (bo (g 0)))), .val (.int (0 : Int32)), .val (.int (g 0))]) rfl k₀) ?_
    show GoOn p e below _ (T139.setTop (mkF m 48 #[.val (.ref a), .val (.int ((0 : Int32) + (bo (g 0)))), .val (.int (0 : Int32)), .val (.int (g 0))] []))
    refine GoOn.step (fun t₀ k₀ => XS.iinc X139.here hx rfl (hb hby d4_48) rfl (l' := #[.val (.ref a), .val (.int ((0 : Int32) + (bo (g 0)))), .val (.int ((0 : Int32) + (1 : Int32))), .val (.int (g 0))]) rfl k₀) ?_
    show GoOn p e below _ (T139.setTop (mkF m 51 #[.val (.ref a), .val (.int ((0 : Int32) + (bo (g 0)))), .val (.int ((0 : Int32) + (1 : Int32))), .val (.int (g 0))] []))
    rw [show ((0 : Int32) + (1 : Int32)) = (1 : Int32) from (by decide)]
    refine GoOn.step (fun t₀ k₀ => XS.goto X139.here hx rfl (pc0 := 51) (pc' := 4) rfl (hb hby d4_51) (by decide) (by decide) k₀) ?_
    show GoOn p e below _ (T139.setTop (mkF m 4 #[.val (.ref a), .val (.int ((0 : Int32) + (bo (g 0)))), .val (.int (1 : Int32)), .val (.int (g 0))] []))
    refine GoOn.step (fun t₀ k₀ => XS.iloadN X139.here hx rfl (hb hby d4_4) rfl k₀) ?_
    show GoOn p e below _ (T139.setTop (mkF m 5 #[.val (.ref a), .val (.int ((0 : Int32) + (bo (g 0)))), .val (.int (1 : Int32)), .val (.int (g 0))] [(.int (1 : Int32))]))
    refine GoOn.step (fun t₀ k₀ => XS.aloadN X139.here hx rfl (hb hby d4_5) rfl rfl k₀) ?_
    show GoOn p e below _ (T139.setTop (mkF m 6 #[.val (.ref a), .val (.int ((0 : Int32) + (bo (g 0)))), .val (.int (1 : Int32)), .val (.int (g 0))] [(.ref a), (.int (1 : Int32))]))
    obtain ⟨_, T140, L140, X140, hQ140, st140⟩ := kCallV X139 hx hZ (a := a) (argsL := []) (rest := [(.int (1 : Int32))]) (c_len l Z a0 hw a 2 g cs fv h0 n0 O SS SO (by decide)) hown (hw _ (List.mem_of_getElem? (i := 27) rfl)) (hw _ (List.mem_of_getElem? (i := 28) rfl)) (notFace_of_selects (args := #[]) (mvT hZ (hw _ (List.mem_of_getElem? (i := 30) rfl)))) (hw _ (List.mem_of_getElem? (i := 30) rfl)) (hw _ (List.mem_of_getElem? (i := 29) rfl)) (hw _ (List.mem_of_getElem? (i := 4) rfl)) (hw _ (List.mem_of_getElem? (i := 31) rfl)) (by decide) e139 Ex (g := (mkF m 6 #[.val (.ref a), .val (.int ((0 : Int32) + (bo (g 0)))), .val (.int (1 : Int32)), .val (.int (g 0))] [(.ref a), (.int (1 : Int32))])) rfl (by rw [hml]; rfl) (lenOf pd_14 rfl) rfl (W := 1) (by show 2 * 0 + _ ≤ _; exact Nat.le_of_eq rfl) (hb hby d4_6) (by decide) (by decide) (by decide) (by decide)
    obtain ⟨rfl, rfl, e140⟩ := hQ140
    rw [List.append_nil] at X140
    refine GoOn.step st140 ?_
    show GoOn p e below _ (T140.setTop (mkF m 9 #[.val (.ref a), .val (.int ((0 : Int32) + (bo (g 0)))), .val (.int (1 : Int32)), .val (.int (g 0))] [(.int (Nat.toInt32 2)), (.int (1 : Int32))]))
    rw [show (Nat.toInt32 2) = (2 : Int32) from (by decide)]
    have hf141 : (1 : Int32) < (2 : Int32) := (by decide)
    refine GoOn.step (fun t₀ k₀ => XS.icmpNo X140.here hx rfl (hb hby d4_9) rfl (tlt hf141).2.1 k₀) ?_
    show GoOn p e below _ (T140.setTop (mkF m 12 #[.val (.ref a), .val (.int ((0 : Int32) + (bo (g 0)))), .val (.int (1 : Int32)), .val (.int (g 0))] []))
    refine GoOn.step (fun t₀ k₀ => XS.aloadN X140.here hx rfl (hb hby d4_12) rfl rfl k₀) ?_
    show GoOn p e below _ (T140.setTop (mkF m 13 #[.val (.ref a), .val (.int ((0 : Int32) + (bo (g 0)))), .val (.int (1 : Int32)), .val (.int (g 0))] [(.ref a)]))
    refine GoOn.step (fun t₀ k₀ => XS.iloadN X140.here hx rfl (hb hby d4_13) rfl k₀) ?_
    show GoOn p e below _ (T140.setTop (mkF m 14 #[.val (.ref a), .val (.int ((0 : Int32) + (bo (g 0)))), .val (.int (1 : Int32)), .val (.int (g 0))] [(.int (1 : Int32)), (.ref a)]))
    obtain ⟨_, T142, L142, X142, hQ142, st142⟩ := kCallV X140 hx hZ (a := a) (argsL := [(.int (1 : Int32))]) (rest := []) (c_at l Z a0 hw a 2 g cs fv (1 : Int32) h0 n0 O SS SO (by decide) Cg ⟨by decide, by decide⟩) hown (hw _ (List.mem_of_getElem? (i := 52) rfl)) (hw _ (List.mem_of_getElem? (i := 53) rfl)) (notFace_of_selects (args := #[]) (mvT hZ (hw _ (List.mem_of_getElem? (i := 55) rfl)))) (hw _ (List.mem_of_getElem? (i := 55) rfl)) (hw _ (List.mem_of_getElem? (i := 54) rfl)) (hw _ (List.mem_of_getElem? (i := 4) rfl)) (hw _ (List.mem_of_getElem? (i := 56) rfl)) (by decide) e140 Ex (g := (mkF m 14 #[.val (.ref a), .val (.int ((0 : Int32) + (bo (g 0)))), .val (.int (1 : Int32)), .val (.int (g 0))] [(.int (1 : Int32)), (.ref a)])) rfl (by rw [hml]; rfl) (lenOf pd_15 rfl) rfl (W := 0) (by show 2 * 0 + _ ≤ _; exact Nat.le_of_eq rfl) (hb hby d4_14) (by decide) (by decide) (by decide) (by decide)
    obtain ⟨rfl, rfl, e142⟩ := hQ142
    rw [List.append_nil] at X142
    refine GoOn.step st142 ?_
    show GoOn p e below _ (T142.setTop (mkF m 17 #[.val (.ref a), .val (.int ((0 : Int32) + (bo (g 0)))), .val (.int (1 : Int32)), .val (.int (g 0))] [(.int (g (1 : Int32).toNatClampNeg))]))
    rw [show (g (1 : Int32).toNatClampNeg) = (g 1) from (congrArg g (by decide))]
    refine GoOn.step (fun t₀ k₀ => XS.istoreN X142.here hx rfl (hb hby d4_17) rfl (l' := #[.val (.ref a), .val (.int ((0 : Int32) + (bo (g 0)))), .val (.int (1 : Int32)), .val (.int (g 1))]) rfl k₀) ?_
    show GoOn p e below _ (T142.setTop (mkF m 18 #[.val (.ref a), .val (.int ((0 : Int32) + (bo (g 0)))), .val (.int (1 : Int32)), .val (.int (g 1))] []))
    refine GoOn.step (fun t₀ k₀ => XS.iloadN X142.here hx rfl (hb hby d4_18) rfl k₀) ?_
    show GoOn p e below _ (T142.setTop (mkF m 19 #[.val (.ref a), .val (.int ((0 : Int32) + (bo (g 0)))), .val (.int (1 : Int32)), .val (.int (g 1))] [(.int ((0 : Int32) + (bo (g 0))))]))
    refine GoOn.step (fun t₀ k₀ => XS.iloadN X142.here hx rfl (hb hby d4_19) rfl k₀) ?_
    show GoOn p e below _ (T142.setTop (mkF m 20 #[.val (.ref a), .val (.int ((0 : Int32) + (bo (g 0)))), .val (.int (1 : Int32)), .val (.int (g 1))] [(.int (g 1)), (.int ((0 : Int32) + (bo (g 0))))]))
    refine GoOn.step (fun t₀ k₀ => XS.iconst X142.here hx rfl (hb hby d4_20) k₀) ?_
    show GoOn p e below _ (T142.setTop (mkF m 21 #[.val (.ref a), .val (.int ((0 : Int32) + (bo (g 0)))), .val (.int (1 : Int32)), .val (.int (g 1))] [(.int (1 : Int32)), (.int (g 1)), (.int ((0 : Int32) + (bo (g 0))))]))
    have J1 : ∀ (q : Int32) (_ : q = bo (g 1)), GoOn p e below (EndQ s ({ frames := 5, cells := 0, slots := 0, locals := 90 } : Room) (PQ (some (.int (((0 : Int32) + bo (g 0)) + bo (g 1)))) h0)) (T142.setTop (mkF m 46 #[.val (.ref a), .val (.int ((0 : Int32) + (bo (g 0)))), .val (.int (1 : Int32)), .val (.int (g 1))] [(.int q), (.int ((0 : Int32) + (bo (g 0))))])) := by
      intro q hq
      subst hq
      show GoOn p e below _ (T142.setTop (mkF m 46 #[.val (.ref a), .val (.int ((0 : Int32) + (bo (g 0)))), .val (.int (1 : Int32)), .val (.int (g 1))] [(.int (bo (g 1))), (.int ((0 : Int32) + (bo (g 0))))]))
      refine GoOn.step (fun t₀ k₀ => XS.iadd X142.here hx rfl (hb hby d4_46) rfl k₀) ?_
      show GoOn p e below _ (T142.setTop (mkF m 47 #[.val (.ref a), .val (.int ((0 : Int32) + (bo (g 0)))), .val (.int (1 : Int32)), .val (.int (g 1))] [(.int (((0 : Int32) + (bo (g 0))) + (bo (g 1))))]))
      refine GoOn.step (fun t₀ k₀ => XS.istoreN X142.here hx rfl (hb hby d4_47) rfl (l' := #[.val (.ref a), .val (.int (((0 : Int32) + (bo (g 0))) + (bo (g 1)))), .val (.int (1 : Int32)), .val (.int (g 1))]) rfl k₀) ?_
      show GoOn p e below _ (T142.setTop (mkF m 48 #[.val (.ref a), .val (.int (((0 : Int32) + (bo (g 0))) + (bo (g 1)))), .val (.int (1 : Int32)), .val (.int (g 1))] []))
      refine GoOn.step (fun t₀ k₀ => XS.iinc X142.here hx rfl (hb hby d4_48) rfl (l' := #[.val (.ref a), .val (.int (((0 : Int32) + (bo (g 0))) + (bo (g 1)))), .val (.int ((1 : Int32) + (1 : Int32))), .val (.int (g 1))]) rfl k₀) ?_
      show GoOn p e below _ (T142.setTop (mkF m 51 #[.val (.ref a), .val (.int (((0 : Int32) + (bo (g 0))) + (bo (g 1)))), .val (.int ((1 : Int32) + (1 : Int32))), .val (.int (g 1))] []))
      rw [show ((1 : Int32) + (1 : Int32)) = (2 : Int32) from (by decide)]
      refine GoOn.step (fun t₀ k₀ => XS.goto X142.here hx rfl (pc0 := 51) (pc' := 4) rfl (hb hby d4_51) (by decide) (by decide) k₀) ?_
      show GoOn p e below _ (T142.setTop (mkF m 4 #[.val (.ref a), .val (.int (((0 : Int32) + (bo (g 0))) + (bo (g 1)))), .val (.int (2 : Int32)), .val (.int (g 1))] []))
      refine GoOn.step (fun t₀ k₀ => XS.iloadN X142.here hx rfl (hb hby d4_4) rfl k₀) ?_
      show GoOn p e below _ (T142.setTop (mkF m 5 #[.val (.ref a), .val (.int (((0 : Int32) + (bo (g 0))) + (bo (g 1)))), .val (.int (2 : Int32)), .val (.int (g 1))] [(.int (2 : Int32))]))
      refine GoOn.step (fun t₀ k₀ => XS.aloadN X142.here hx rfl (hb hby d4_5) rfl rfl k₀) ?_
      show GoOn p e below _ (T142.setTop (mkF m 6 #[.val (.ref a), .val (.int (((0 : Int32) + (bo (g 0))) + (bo (g 1)))), .val (.int (2 : Int32)), .val (.int (g 1))] [(.ref a), (.int (2 : Int32))]))
      obtain ⟨_, T143, L143, X143, hQ143, st143⟩ := kCallV X142 hx hZ (a := a) (argsL := []) (rest := [(.int (2 : Int32))]) (c_len l Z a0 hw a 2 g cs fv h0 n0 O SS SO (by decide)) hown (hw _ (List.mem_of_getElem? (i := 27) rfl)) (hw _ (List.mem_of_getElem? (i := 28) rfl)) (notFace_of_selects (args := #[]) (mvT hZ (hw _ (List.mem_of_getElem? (i := 30) rfl)))) (hw _ (List.mem_of_getElem? (i := 30) rfl)) (hw _ (List.mem_of_getElem? (i := 29) rfl)) (hw _ (List.mem_of_getElem? (i := 4) rfl)) (hw _ (List.mem_of_getElem? (i := 31) rfl)) (by decide) e142 Ex (g := (mkF m 6 #[.val (.ref a), .val (.int (((0 : Int32) + (bo (g 0))) + (bo (g 1)))), .val (.int (2 : Int32)), .val (.int (g 1))] [(.ref a), (.int (2 : Int32))])) rfl (by rw [hml]; rfl) (lenOf pd_14 rfl) rfl (W := 1) (by show 2 * 0 + _ ≤ _; exact Nat.le_of_eq rfl) (hb hby d4_6) (by decide) (by decide) (by decide) (by decide)
      obtain ⟨rfl, rfl, e143⟩ := hQ143
      rw [List.append_nil] at X143
      refine GoOn.step st143 ?_
      show GoOn p e below _ (T143.setTop (mkF m 9 #[.val (.ref a), .val (.int (((0 : Int32) + (bo (g 0))) + (bo (g 1)))), .val (.int (2 : Int32)), .val (.int (g 1))] [(.int (Nat.toInt32 2)), (.int (2 : Int32))]))
      rw [show (Nat.toInt32 2) = (2 : Int32) from (by decide)]
      have hf144 : ¬ ((2 : Int32) < (2 : Int32)) := (by decide)
      refine GoOn.step (fun t₀ k₀ => XS.icmpYes X143.here hx rfl (pc0 := 9) (pc' := 54) rfl (hb hby d4_9) rfl (flt hf144).2.1 (by decide) (by decide) k₀) ?_
      show GoOn p e below _ (T143.setTop (mkF m 54 #[.val (.ref a), .val (.int (((0 : Int32) + (bo (g 0))) + (bo (g 1)))), .val (.int (2 : Int32)), .val (.int (g 1))] []))
      refine GoOn.step (fun t₀ k₀ => XS.iloadN X143.here hx rfl (hb hby d4_54) rfl k₀) ?_
      show GoOn p e below _ (T143.setTop (mkF m 55 #[.val (.ref a), .val (.int (((0 : Int32) + (bo (g 0))) + (bo (g 1)))), .val (.int (2 : Int32)), .val (.int (g 1))] [(.int (((0 : Int32) + (bo (g 0))) + (bo (g 1))))]))
      exact GoOn.retI X143 hx hrt hlk (hb hby d4_55) (by decide) (by decide) (by first | exact ⟨rfl, rfl, rfl⟩ | (rw [e143]; exact ⟨rfl, rfl, rfl⟩))
    by_cases p1 : (g 1) < (1 : Int32)
    · refine GoOn.step (fun t₀ k₀ => XS.icmpYes X142.here hx rfl (pc0 := 21) (pc' := 34) rfl (hb hby d4_21) rfl (tlt p1).1 (by decide) (by decide) k₀) ?_
      show GoOn p e below _ (T142.setTop (mkF m 34 #[.val (.ref a), .val (.int ((0 : Int32) + (bo (g 0)))), .val (.int (1 : Int32)), .val (.int (g 1))] [(.int ((0 : Int32) + (bo (g 0))))]))
      refine GoOn.step (fun t₀ k₀ => XS.iloadN X142.here hx rfl (hb hby d4_34) rfl k₀) ?_
      show GoOn p e below _ (T142.setTop (mkF m 35 #[.val (.ref a), .val (.int ((0 : Int32) + (bo (g 0)))), .val (.int (1 : Int32)), .val (.int (g 1))] [(.int (g 1)), (.int ((0 : Int32) + (bo (g 0))))]))
      refine GoOn.step (fun t₀ k₀ => XS.sipush X142.here hx rfl (hb hby d4_35) k₀) ?_
      show GoOn p e below _ (T142.setTop (mkF m 38 #[.val (.ref a), .val (.int ((0 : Int32) + (bo (g 0)))), .val (.int (1 : Int32)), .val (.int (g 1))] [(.int (2047 : Int32)), (.int (g 1)), (.int ((0 : Int32) + (bo (g 0))))]))
      by_cases p3 : (2047 : Int32) < (g 1)
      · refine GoOn.step (fun t₀ k₀ => XS.icmpYes X142.here hx rfl (pc0 := 38) (pc' := 45) rfl (hb hby d4_38) rfl (tlt p3).2.2.1 (by decide) (by decide) k₀) ?_
        show GoOn p e below _ (T142.setTop (mkF m 45 #[.val (.ref a), .val (.int ((0 : Int32) + (bo (g 0)))), .val (.int (1 : Int32)), .val (.int (g 1))] [(.int ((0 : Int32) + (bo (g 0))))]))
        refine GoOn.step (fun t₀ k₀ => XS.iconst X142.here hx rfl (hb hby d4_45) k₀) ?_
        show GoOn p e below _ (T142.setTop (mkF m 46 #[.val (.ref a), .val (.int ((0 : Int32) + (bo (g 0)))), .val (.int (1 : Int32)), .val (.int (g 1))] [(.int (3 : Int32)), (.int ((0 : Int32) + (bo (g 0))))]))
        exact J1 _ (bo3 p3)
      · refine GoOn.step (fun t₀ k₀ => XS.icmpNo X142.here hx rfl (hb hby d4_38) rfl (flt p3).2.2.1 k₀) ?_
        show GoOn p e below _ (T142.setTop (mkF m 41 #[.val (.ref a), .val (.int ((0 : Int32) + (bo (g 0)))), .val (.int (1 : Int32)), .val (.int (g 1))] [(.int ((0 : Int32) + (bo (g 0))))]))
        refine GoOn.step (fun t₀ k₀ => XS.iconst X142.here hx rfl (hb hby d4_41) k₀) ?_
        show GoOn p e below _ (T142.setTop (mkF m 42 #[.val (.ref a), .val (.int ((0 : Int32) + (bo (g 0)))), .val (.int (1 : Int32)), .val (.int (g 1))] [(.int (2 : Int32)), (.int ((0 : Int32) + (bo (g 0))))]))
        refine GoOn.step (fun t₀ k₀ => XS.goto X142.here hx rfl (pc0 := 42) (pc' := 46) rfl (hb hby d4_42) (by decide) (by decide) k₀) ?_
        show GoOn p e below _ (T142.setTop (mkF m 46 #[.val (.ref a), .val (.int ((0 : Int32) + (bo (g 0)))), .val (.int (1 : Int32)), .val (.int (g 1))] [(.int (2 : Int32)), (.int ((0 : Int32) + (bo (g 0))))]))
        exact J1 _ (bo2 (Cg _).1 (Or.inl p1) p3)
    · refine GoOn.step (fun t₀ k₀ => XS.icmpNo X142.here hx rfl (hb hby d4_21) rfl (flt p1).1 k₀) ?_
      show GoOn p e below _ (T142.setTop (mkF m 24 #[.val (.ref a), .val (.int ((0 : Int32) + (bo (g 0)))), .val (.int (1 : Int32)), .val (.int (g 1))] [(.int ((0 : Int32) + (bo (g 0))))]))
      refine GoOn.step (fun t₀ k₀ => XS.iloadN X142.here hx rfl (hb hby d4_24) rfl k₀) ?_
      show GoOn p e below _ (T142.setTop (mkF m 25 #[.val (.ref a), .val (.int ((0 : Int32) + (bo (g 0)))), .val (.int (1 : Int32)), .val (.int (g 1))] [(.int (g 1)), (.int ((0 : Int32) + (bo (g 0))))]))
      refine GoOn.step (fun t₀ k₀ => XS.bipush X142.here hx rfl (hb hby d4_25) k₀) ?_
      show GoOn p e below _ (T142.setTop (mkF m 27 #[.val (.ref a), .val (.int ((0 : Int32) + (bo (g 0)))), .val (.int (1 : Int32)), .val (.int (g 1))] [(.int (127 : Int32)), (.int (g 1)), (.int ((0 : Int32) + (bo (g 0))))]))
      by_cases p2 : (127 : Int32) < (g 1)
      · refine GoOn.step (fun t₀ k₀ => XS.icmpYes X142.here hx rfl (pc0 := 27) (pc' := 34) rfl (hb hby d4_27) rfl (tlt p2).2.2.1 (by decide) (by decide) k₀) ?_
        show GoOn p e below _ (T142.setTop (mkF m 34 #[.val (.ref a), .val (.int ((0 : Int32) + (bo (g 0)))), .val (.int (1 : Int32)), .val (.int (g 1))] [(.int ((0 : Int32) + (bo (g 0))))]))
        refine GoOn.step (fun t₀ k₀ => XS.iloadN X142.here hx rfl (hb hby d4_34) rfl k₀) ?_
        show GoOn p e below _ (T142.setTop (mkF m 35 #[.val (.ref a), .val (.int ((0 : Int32) + (bo (g 0)))), .val (.int (1 : Int32)), .val (.int (g 1))] [(.int (g 1)), (.int ((0 : Int32) + (bo (g 0))))]))
        refine GoOn.step (fun t₀ k₀ => XS.sipush X142.here hx rfl (hb hby d4_35) k₀) ?_
        show GoOn p e below _ (T142.setTop (mkF m 38 #[.val (.ref a), .val (.int ((0 : Int32) + (bo (g 0)))), .val (.int (1 : Int32)), .val (.int (g 1))] [(.int (2047 : Int32)), (.int (g 1)), (.int ((0 : Int32) + (bo (g 0))))]))
        by_cases p3 : (2047 : Int32) < (g 1)
        · refine GoOn.step (fun t₀ k₀ => XS.icmpYes X142.here hx rfl (pc0 := 38) (pc' := 45) rfl (hb hby d4_38) rfl (tlt p3).2.2.1 (by decide) (by decide) k₀) ?_
          show GoOn p e below _ (T142.setTop (mkF m 45 #[.val (.ref a), .val (.int ((0 : Int32) + (bo (g 0)))), .val (.int (1 : Int32)), .val (.int (g 1))] [(.int ((0 : Int32) + (bo (g 0))))]))
          refine GoOn.step (fun t₀ k₀ => XS.iconst X142.here hx rfl (hb hby d4_45) k₀) ?_
          show GoOn p e below _ (T142.setTop (mkF m 46 #[.val (.ref a), .val (.int ((0 : Int32) + (bo (g 0)))), .val (.int (1 : Int32)), .val (.int (g 1))] [(.int (3 : Int32)), (.int ((0 : Int32) + (bo (g 0))))]))
          exact J1 _ (bo3 p3)
        · refine GoOn.step (fun t₀ k₀ => XS.icmpNo X142.here hx rfl (hb hby d4_38) rfl (flt p3).2.2.1 k₀) ?_
          show GoOn p e below _ (T142.setTop (mkF m 41 #[.val (.ref a), .val (.int ((0 : Int32) + (bo (g 0)))), .val (.int (1 : Int32)), .val (.int (g 1))] [(.int ((0 : Int32) + (bo (g 0))))]))
          refine GoOn.step (fun t₀ k₀ => XS.iconst X142.here hx rfl (hb hby d4_41) k₀) ?_
          show GoOn p e below _ (T142.setTop (mkF m 42 #[.val (.ref a), .val (.int ((0 : Int32) + (bo (g 0)))), .val (.int (1 : Int32)), .val (.int (g 1))] [(.int (2 : Int32)), (.int ((0 : Int32) + (bo (g 0))))]))
          refine GoOn.step (fun t₀ k₀ => XS.goto X142.here hx rfl (pc0 := 42) (pc' := 46) rfl (hb hby d4_42) (by decide) (by decide) k₀) ?_
          show GoOn p e below _ (T142.setTop (mkF m 46 #[.val (.ref a), .val (.int ((0 : Int32) + (bo (g 0)))), .val (.int (1 : Int32)), .val (.int (g 1))] [(.int (2 : Int32)), (.int ((0 : Int32) + (bo (g 0))))]))
          exact J1 _ (bo2 (Cg _).1 (Or.inr p2) p3)
      · refine GoOn.step (fun t₀ k₀ => XS.icmpNo X142.here hx rfl (hb hby d4_27) rfl (flt p2).2.2.1 k₀) ?_
        show GoOn p e below _ (T142.setTop (mkF m 30 #[.val (.ref a), .val (.int ((0 : Int32) + (bo (g 0)))), .val (.int (1 : Int32)), .val (.int (g 1))] [(.int ((0 : Int32) + (bo (g 0))))]))
        refine GoOn.step (fun t₀ k₀ => XS.iconst X142.here hx rfl (hb hby d4_30) k₀) ?_
        show GoOn p e below _ (T142.setTop (mkF m 31 #[.val (.ref a), .val (.int ((0 : Int32) + (bo (g 0)))), .val (.int (1 : Int32)), .val (.int (g 1))] [(.int (1 : Int32)), (.int ((0 : Int32) + (bo (g 0))))]))
        refine GoOn.step (fun t₀ k₀ => XS.goto X142.here hx rfl (pc0 := 31) (pc' := 46) rfl (hb hby d4_31) (by decide) (by decide) k₀) ?_
        show GoOn p e below _ (T142.setTop (mkF m 46 #[.val (.ref a), .val (.int ((0 : Int32) + (bo (g 0)))), .val (.int (1 : Int32)), .val (.int (g 1))] [(.int (1 : Int32)), (.int ((0 : Int32) + (bo (g 0))))]))
        exact J1 _ (bo1 p1 p2)
  by_cases p1 : (g 0) < (1 : Int32)
  · refine GoOn.step (fun t₀ k₀ => XS.icmpYes X139.here hx rfl (pc0 := 21) (pc' := 34) rfl (hb hby d4_21) rfl (tlt p1).1 (by decide) (by decide) k₀) ?_
    show GoOn p e below _ (T139.setTop (mkF m 34 #[.val (.ref a), .val (.int (0 : Int32)), .val (.int (0 : Int32)), .val (.int (g 0))] [(.int (0 : Int32))]))
    refine GoOn.step (fun t₀ k₀ => XS.iloadN X139.here hx rfl (hb hby d4_34) rfl k₀) ?_
    show GoOn p e below _ (T139.setTop (mkF m 35 #[.val (.ref a), .val (.int (0 : Int32)), .val (.int (0 : Int32)), .val (.int (g 0))] [(.int (g 0)), (.int (0 : Int32))]))
    refine GoOn.step (fun t₀ k₀ => XS.sipush X139.here hx rfl (hb hby d4_35) k₀) ?_
    show GoOn p e below _ (T139.setTop (mkF m 38 #[.val (.ref a), .val (.int (0 : Int32)), .val (.int (0 : Int32)), .val (.int (g 0))] [(.int (2047 : Int32)), (.int (g 0)), (.int (0 : Int32))]))
    by_cases p3 : (2047 : Int32) < (g 0)
    · refine GoOn.step (fun t₀ k₀ => XS.icmpYes X139.here hx rfl (pc0 := 38) (pc' := 45) rfl (hb hby d4_38) rfl (tlt p3).2.2.1 (by decide) (by decide) k₀) ?_
      show GoOn p e below _ (T139.setTop (mkF m 45 #[.val (.ref a), .val (.int (0 : Int32)), .val (.int (0 : Int32)), .val (.int (g 0))] [(.int (0 : Int32))]))
      refine GoOn.step (fun t₀ k₀ => XS.iconst X139.here hx rfl (hb hby d4_45) k₀) ?_
      show GoOn p e below _ (T139.setTop (mkF m 46 #[.val (.ref a), .val (.int (0 : Int32)), .val (.int (0 : Int32)), .val (.int (g 0))] [(.int (3 : Int32)), (.int (0 : Int32))]))
      exact J0 _ (bo3 p3)
    · refine GoOn.step (fun t₀ k₀ => XS.icmpNo X139.here hx rfl (hb hby d4_38) rfl (flt p3).2.2.1 k₀) ?_
      show GoOn p e below _ (T139.setTop (mkF m 41 #[.val (.ref a), .val (.int (0 : Int32)), .val (.int (0 : Int32)), .val (.int (g 0))] [(.int (0 : Int32))]))
      refine GoOn.step (fun t₀ k₀ => XS.iconst X139.here hx rfl (hb hby d4_41) k₀) ?_
      show GoOn p e below _ (T139.setTop (mkF m 42 #[.val (.ref a), .val (.int (0 : Int32)), .val (.int (0 : Int32)), .val (.int (g 0))] [(.int (2 : Int32)), (.int (0 : Int32))]))
      refine GoOn.step (fun t₀ k₀ => XS.goto X139.here hx rfl (pc0 := 42) (pc' := 46) rfl (hb hby d4_42) (by decide) (by decide) k₀) ?_
      show GoOn p e below _ (T139.setTop (mkF m 46 #[.val (.ref a), .val (.int (0 : Int32)), .val (.int (0 : Int32)), .val (.int (g 0))] [(.int (2 : Int32)), (.int (0 : Int32))]))
      exact J0 _ (bo2 (Cg _).1 (Or.inl p1) p3)
  · refine GoOn.step (fun t₀ k₀ => XS.icmpNo X139.here hx rfl (hb hby d4_21) rfl (flt p1).1 k₀) ?_
    show GoOn p e below _ (T139.setTop (mkF m 24 #[.val (.ref a), .val (.int (0 : Int32)), .val (.int (0 : Int32)), .val (.int (g 0))] [(.int (0 : Int32))]))
    refine GoOn.step (fun t₀ k₀ => XS.iloadN X139.here hx rfl (hb hby d4_24) rfl k₀) ?_
    show GoOn p e below _ (T139.setTop (mkF m 25 #[.val (.ref a), .val (.int (0 : Int32)), .val (.int (0 : Int32)), .val (.int (g 0))] [(.int (g 0)), (.int (0 : Int32))]))
    refine GoOn.step (fun t₀ k₀ => XS.bipush X139.here hx rfl (hb hby d4_25) k₀) ?_
    show GoOn p e below _ (T139.setTop (mkF m 27 #[.val (.ref a), .val (.int (0 : Int32)), .val (.int (0 : Int32)), .val (.int (g 0))] [(.int (127 : Int32)), (.int (g 0)), (.int (0 : Int32))]))
    by_cases p2 : (127 : Int32) < (g 0)
    · refine GoOn.step (fun t₀ k₀ => XS.icmpYes X139.here hx rfl (pc0 := 27) (pc' := 34) rfl (hb hby d4_27) rfl (tlt p2).2.2.1 (by decide) (by decide) k₀) ?_
      show GoOn p e below _ (T139.setTop (mkF m 34 #[.val (.ref a), .val (.int (0 : Int32)), .val (.int (0 : Int32)), .val (.int (g 0))] [(.int (0 : Int32))]))
      refine GoOn.step (fun t₀ k₀ => XS.iloadN X139.here hx rfl (hb hby d4_34) rfl k₀) ?_
      show GoOn p e below _ (T139.setTop (mkF m 35 #[.val (.ref a), .val (.int (0 : Int32)), .val (.int (0 : Int32)), .val (.int (g 0))] [(.int (g 0)), (.int (0 : Int32))]))
      refine GoOn.step (fun t₀ k₀ => XS.sipush X139.here hx rfl (hb hby d4_35) k₀) ?_
      show GoOn p e below _ (T139.setTop (mkF m 38 #[.val (.ref a), .val (.int (0 : Int32)), .val (.int (0 : Int32)), .val (.int (g 0))] [(.int (2047 : Int32)), (.int (g 0)), (.int (0 : Int32))]))
      by_cases p3 : (2047 : Int32) < (g 0)
      · refine GoOn.step (fun t₀ k₀ => XS.icmpYes X139.here hx rfl (pc0 := 38) (pc' := 45) rfl (hb hby d4_38) rfl (tlt p3).2.2.1 (by decide) (by decide) k₀) ?_
        show GoOn p e below _ (T139.setTop (mkF m 45 #[.val (.ref a), .val (.int (0 : Int32)), .val (.int (0 : Int32)), .val (.int (g 0))] [(.int (0 : Int32))]))
        refine GoOn.step (fun t₀ k₀ => XS.iconst X139.here hx rfl (hb hby d4_45) k₀) ?_
        show GoOn p e below _ (T139.setTop (mkF m 46 #[.val (.ref a), .val (.int (0 : Int32)), .val (.int (0 : Int32)), .val (.int (g 0))] [(.int (3 : Int32)), (.int (0 : Int32))]))
        exact J0 _ (bo3 p3)
      · refine GoOn.step (fun t₀ k₀ => XS.icmpNo X139.here hx rfl (hb hby d4_38) rfl (flt p3).2.2.1 k₀) ?_
        show GoOn p e below _ (T139.setTop (mkF m 41 #[.val (.ref a), .val (.int (0 : Int32)), .val (.int (0 : Int32)), .val (.int (g 0))] [(.int (0 : Int32))]))
        refine GoOn.step (fun t₀ k₀ => XS.iconst X139.here hx rfl (hb hby d4_41) k₀) ?_
        show GoOn p e below _ (T139.setTop (mkF m 42 #[.val (.ref a), .val (.int (0 : Int32)), .val (.int (0 : Int32)), .val (.int (g 0))] [(.int (2 : Int32)), (.int (0 : Int32))]))
        refine GoOn.step (fun t₀ k₀ => XS.goto X139.here hx rfl (pc0 := 42) (pc' := 46) rfl (hb hby d4_42) (by decide) (by decide) k₀) ?_
        show GoOn p e below _ (T139.setTop (mkF m 46 #[.val (.ref a), .val (.int (0 : Int32)), .val (.int (0 : Int32)), .val (.int (g 0))] [(.int (2 : Int32)), (.int (0 : Int32))]))
        exact J0 _ (bo2 (Cg _).1 (Or.inr p2) p3)
    · refine GoOn.step (fun t₀ k₀ => XS.icmpNo X139.here hx rfl (hb hby d4_27) rfl (flt p2).2.2.1 k₀) ?_
      show GoOn p e below _ (T139.setTop (mkF m 30 #[.val (.ref a), .val (.int (0 : Int32)), .val (.int (0 : Int32)), .val (.int (g 0))] [(.int (0 : Int32))]))
      refine GoOn.step (fun t₀ k₀ => XS.iconst X139.here hx rfl (hb hby d4_30) k₀) ?_
      show GoOn p e below _ (T139.setTop (mkF m 31 #[.val (.ref a), .val (.int (0 : Int32)), .val (.int (0 : Int32)), .val (.int (g 0))] [(.int (1 : Int32)), (.int (0 : Int32))]))
      refine GoOn.step (fun t₀ k₀ => XS.goto X139.here hx rfl (pc0 := 31) (pc' := 46) rfl (hb hby d4_31) (by decide) (by decide) k₀) ?_
      show GoOn p e below _ (T139.setTop (mkF m 46 #[.val (.ref a), .val (.int (0 : Int32)), .val (.int (0 : Int32)), .val (.int (g 0))] [(.int (1 : Int32)), (.int (0 : Int32))]))
      exact J0 _ (bo1 p1 p2)
theorem ef_c_ml3 (m : MethodId) (x0 : Addr) : entryFrame m #[(.ref x0)] 4 = mkF m 0 #[.val (.ref x0), .unset, .unset, .unset] [] := by first | (simp [entryFrame, mkF, argsToLocals, Value.category]; done) | rfl
set_option maxRecDepth 65536 in
set_option maxHeartbeats 40000000 in
theorem c_ml3 (l : Launch) (Z : State) (a0 : Array Value) (hw : ∀ d ∈ tables_1, d.before a0 Z = true) (a : Addr) (g : Nat → Int32) (cs : Int32) (fv : Value) (h0 : Heap) (n0 : Nat) (O : Old Z n0 h0) (SS : Stt Z cs fv) (SO : Str Z h0 a 3 g) (Cg : Chr g) :
    Con l Z (⟨"com/example/lanthorn/lanthorn/core/ModifiedUtf8", "length", "(Ljava/lang/String;)I"⟩ : MethodName) prog_18_method_3_code 4 (some .int) ({ frames := 5, cells := 0, slots := 0, locals := 90 } : Room) #[(.ref a)] h0 (PQ (some (.int ((((0 : Int32) + bo (g 0)) + bo (g 1)) + bo (g 2)))) h0) := by
  refine Con.intro (plainFor_of_name pn_5) ?_
  intro p e s m below meth c s₁ hx hby hml hrt hlk hZ hown hnm X0 e0
  replace hown : s.vm.findClass "com/example/lanthorn/lanthorn/core/ModifiedUtf8" = some m.cls := hown
  refine GoOn.cast (ef_c_ml3 m a) ?_
  show GoOn p e below _ (s₁.setTop (mkF m 0 #[.val (.ref a), .unset, .unset, .unset] []))
  have Ex := SO.1
  refine GoOn.step (fun t₀ k₀ => XS.iconst X0.here hx rfl (hb hby d4_0) k₀) ?_
  show GoOn p e below _ (s₁.setTop (mkF m 1 #[.val (.ref a), .unset, .unset, .unset] [(.int (0 : Int32))]))
  refine GoOn.step (fun t₀ k₀ => XS.istoreN X0.here hx rfl (hb hby d4_1) rfl (l' := #[.val (.ref a), .val (.int (0 : Int32)), .unset, .unset]) rfl k₀) ?_
  show GoOn p e below _ (s₁.setTop (mkF m 2 #[.val (.ref a), .val (.int (0 : Int32)), .unset, .unset] []))
  refine GoOn.step (fun t₀ k₀ => XS.iconst X0.here hx rfl (hb hby d4_2) k₀) ?_
  show GoOn p e below _ (s₁.setTop (mkF m 3 #[.val (.ref a), .val (.int (0 : Int32)), .unset, .unset] [(.int (0 : Int32))]))
  refine GoOn.step (fun t₀ k₀ => XS.istoreN X0.here hx rfl (hb hby d4_3) rfl (l' := #[.val (.ref a), .val (.int (0 : Int32)), .val (.int (0 : Int32)), .unset]) rfl k₀) ?_
  show GoOn p e below _ (s₁.setTop (mkF m 4 #[.val (.ref a), .val (.int (0 : Int32)), .val (.int (0 : Int32)), .unset] []))
  refine GoOn.step (fun t₀ k₀ => XS.iloadN X0.here hx rfl (hb hby d4_4) rfl k₀) ?_
  show GoOn p e below _ (s₁.setTop (mkF m 5 #[.val (.ref a), .val (.int (0 : Int32)), .val (.int (0 : Int32)), .unset] [(.int (0 : Int32))]))
  refine GoOn.step (fun t₀ k₀ => XS.aloadN X0.here hx rfl (hb hby d4_5) rfl rfl k₀) ?_
  show GoOn p e below _ (s₁.setTop (mkF m 6 #[.val (.ref a), .val (.int (0 : Int32)), .val (.int (0 : Int32)), .unset] [(.ref a), (.int (0 : Int32))]))
  obtain ⟨_, T145, L145, X145, hQ145, st145⟩ := kCallV X0 hx hZ (a := a) (argsL := []) (rest := [(.int (0 : Int32))]) (c_len l Z a0 hw a 3 g cs fv h0 n0 O SS SO (by decide)) hown (hw _ (List.mem_of_getElem? (i := 27) rfl)) (hw _ (List.mem_of_getElem? (i := 28) rfl)) (notFace_of_selects (args := #[]) (mvT hZ (hw _ (List.mem_of_getElem? (i := 30) rfl)))) (hw _ (List.mem_of_getElem? (i := 30) rfl)) (hw _ (List.mem_of_getElem? (i := 29) rfl)) (hw _ (List.mem_of_getElem? (i := 4) rfl)) (hw _ (List.mem_of_getElem? (i := 31) rfl)) (by decide) e0 Ex (g := (mkF m 6 #[.val (.ref a), .val (.int (0 : Int32)), .val (.int (0 : Int32)), .unset] [(.ref a), (.int (0 : Int32))])) rfl (by rw [hml]; rfl) (lenOf pd_14 rfl) rfl (W := 1) (by show 2 * 0 + _ ≤ _; exact Nat.le_of_eq rfl) (hb hby d4_6) (by decide) (by decide) (by decide) (by decide)
  obtain ⟨rfl, rfl, e145⟩ := hQ145
  rw [List.append_nil] at X145
  refine GoOn.step st145 ?_
  show GoOn p e below _ (T145.setTop (mkF m 9 #[.val (.ref a), .val (.int (0 : Int32)), .val (.int (0 : Int32)), .unset] [(.int (Nat.toInt32 3)), (.int (0 : Int32))]))
  rw [show (Nat.toInt32 3) = (3 : Int32) from (by decide)]
  have hf146 : (0 : Int32) < (3 : Int32) := (by decide)
  refine GoOn.step (fun t₀ k₀ => XS.icmpNo X145.here hx rfl (hb hby d4_9) rfl (tlt hf146).2.1 k₀) ?_
  show GoOn p e below _ (T145.setTop (mkF m 12 #[.val (.ref a), .val (.int (0 : Int32)), .val (.int (0 : Int32)), .unset] []))
  refine GoOn.step (fun t₀ k₀ => XS.aloadN X145.here hx rfl (hb hby d4_12) rfl rfl k₀) ?_
  show GoOn p e below _ (T145.setTop (mkF m 13 #[.val (.ref a), .val (.int (0 : Int32)), .val (.int (0 : Int32)), .unset] [(.ref a)]))
  refine GoOn.step (fun t₀ k₀ => XS.iloadN X145.here hx rfl (hb hby d4_13) rfl k₀) ?_
  show GoOn p e below _ (T145.setTop (mkF m 14 #[.val (.ref a), .val (.int (0 : Int32)), .val (.int (0 : Int32)), .unset] [(.int (0 : Int32)), (.ref a)]))
  obtain ⟨_, T147, L147, X147, hQ147, st147⟩ := kCallV X145 hx hZ (a := a) (argsL := [(.int (0 : Int32))]) (rest := []) (c_at l Z a0 hw a 3 g cs fv (0 : Int32) h0 n0 O SS SO (by decide) Cg ⟨by decide, by decide⟩) hown (hw _ (List.mem_of_getElem? (i := 52) rfl)) (hw _ (List.mem_of_getElem? (i := 53) rfl)) (notFace_of_selects (args := #[]) (mvT hZ (hw _ (List.mem_of_getElem? (i := 55) rfl)))) (hw _ (List.mem_of_getElem? (i := 55) rfl)) (hw _ (List.mem_of_getElem? (i := 54) rfl)) (hw _ (List.mem_of_getElem? (i := 4) rfl)) (hw _ (List.mem_of_getElem? (i := 56) rfl)) (by decide) e145 Ex (g := (mkF m 14 #[.val (.ref a), .val (.int (0 : Int32)), .val (.int (0 : Int32)), .unset] [(.int (0 : Int32)), (.ref a)])) rfl (by rw [hml]; rfl) (lenOf pd_15 rfl) rfl (W := 0) (by show 2 * 0 + _ ≤ _; exact Nat.le_of_eq rfl) (hb hby d4_14) (by decide) (by decide) (by decide) (by decide)
  obtain ⟨rfl, rfl, e147⟩ := hQ147
  rw [List.append_nil] at X147
  refine GoOn.step st147 ?_
  show GoOn p e below _ (T147.setTop (mkF m 17 #[.val (.ref a), .val (.int (0 : Int32)), .val (.int (0 : Int32)), .unset] [(.int (g (0 : Int32).toNatClampNeg))]))
  rw [show (g (0 : Int32).toNatClampNeg) = (g 0) from (congrArg g (by decide))]
  refine GoOn.step (fun t₀ k₀ => XS.istoreN X147.here hx rfl (hb hby d4_17) rfl (l' := #[.val (.ref a), .val (.int (0 : Int32)), .val (.int (0 : Int32)), .val (.int (g 0))]) rfl k₀) ?_
  show GoOn p e below _ (T147.setTop (mkF m 18 #[.val (.ref a), .val (.int (0 : Int32)), .val (.int (0 : Int32)), .val (.int (g 0))] []))
  refine GoOn.step (fun t₀ k₀ => XS.iloadN X147.here hx rfl (hb hby d4_18) rfl k₀) ?_
  show GoOn p e below _ (T147.setTop (mkF m 19 #[.val (.ref a), .val (.int (0 : Int32)), .val (.int (0 : Int32)), .val (.int (g 0))] [(.int (0 : Int32))]))
  refine GoOn.step (fun t₀ k₀ => XS.iloadN X147.here hx rfl (hb hby d4_19) rfl k₀) ?_
  show GoOn p e below _ (T147.setTop (mkF m 20 #[.val (.ref a), .val (.int (0 : Int32)), .val (.int (0 : Int32)), .val (.int (g 0))] [(.int (g 0)), (.int (0 : Int32))]))
  refine GoOn.step (fun t₀ k₀ => XS.iconst X147.here hx rfl (hb hby d4_20) k₀) ?_
  show GoOn p e below _ (T147.setTop (mkF m 21 #[.val (.ref a), .val (.int (0 : Int32)), .val (.int (0 : Int32)), .val (.int (g 0))] [(.int (1 : Int32)), (.int (g 0)), (.int (0 : Int32))]))
  have J0 : ∀ (q : Int32) (_ : q = bo (g 0)), GoOn p e below (EndQ s ({ frames := 5, cells := 0, slots := 0, locals := 90 } : Room) (PQ (some (.int ((((0 : Int32) + bo (g 0)) + bo (g 1)) + bo (g 2)))) h0)) (T147.setTop (mkF m 46 #[.val (.ref a), .val (.int (0 : Int32)), .val (.int (0 : Int32)), .val (.int (g 0))] [(.int q), (.int (0 : Int32))])) := by
    intro q hq
    subst hq
    show GoOn p e below _ (T147.setTop (mkF m 46 #[.val (.ref a), .val (.int (0 : Int32)), .val (.int (0 : Int32)), .val (.int (g 0))] [(.int (bo (g 0))), (.int (0 : Int32))]))
    refine GoOn.step (fun t₀ k₀ => XS.iadd X147.here hx rfl (hb hby d4_46) rfl k₀) ?_
    show GoOn p e below _ (T147.setTop (mkF m 47 #[.val (.ref a), .val (.int (0 : Int32)), .val (.int (0 : Int32)), .val (.int (g 0))] [(.int ((0 : Int32) + (bo (g 0))))]))
    refine GoOn.step (fun t₀ k₀ => XS.istoreN X147.here hx rfl (hb hby d4_47) rfl (l' := #[.val (.ref a), .val (.int ((0 : Int32) + (bo (g 0)))), .val (.int (0 : Int32)), .val (.int (g 0))]) rfl k₀) ?_
    show GoOn p e below _ (T147.setTop (mkF m 48 #[.val (.ref a), .val (.int ((0 : Int32) + (bo (g 0)))), .val (.int (0 : Int32)), .val (.int (g 0))] []))
    refine GoOn.step (fun t₀ k₀ => XS.iinc X147.here hx rfl (hb hby d4_48) rfl (l' := #[.val (.ref a), .val (.int ((0 : Int32) + (bo (g 0)))), .val (.int ((0 : Int32) + (1 : Int32))), .val (.int (g 0))]) rfl k₀) ?_
    show GoOn p e below _ (T147.setTop (mkF m 51 #[.val (.ref a), .val (.int ((0 : Int32) + (bo (g 0)))), .val (.int ((0 : Int32) + (1 : Int32))), .val (.int (g 0))] []))
    rw [show ((0 : Int32) + (1 : Int32)) = (1 : Int32) from (by decide)]
    refine GoOn.step (fun t₀ k₀ => XS.goto X147.here hx rfl (pc0 := 51) (pc' := 4) rfl (hb hby d4_51) (by decide) (by decide) k₀) ?_
    show GoOn p e below _ (T147.setTop (mkF m 4 #[.val (.ref a), .val (.int ((0 : Int32) + (bo (g 0)))), .val (.int (1 : Int32)), .val (.int (g 0))] []))
    refine GoOn.step (fun t₀ k₀ => XS.iloadN X147.here hx rfl (hb hby d4_4) rfl k₀) ?_
    show GoOn p e below _ (T147.setTop (mkF m 5 #[.val (.ref a), .val (.int ((0 : Int32) + (bo (g 0)))), .val (.int (1 : Int32)), .val (.int (g 0))] [(.int (1 : Int32))]))
    refine GoOn.step (fun t₀ k₀ => XS.aloadN X147.here hx rfl (hb hby d4_5) rfl rfl k₀) ?_
    show GoOn p e below _ (T147.setTop (mkF m 6 #[.val (.ref a), .val (.int ((0 : Int32) + (bo (g 0)))), .val (.int (1 : Int32)), .val (.int (g 0))] [(.ref a), (.int (1 : Int32))]))
    obtain ⟨_, T148, L148, X148, hQ148, st148⟩ := kCallV X147 hx hZ (a := a) (argsL := []) (rest := [(.int (1 : Int32))]) (c_len l Z a0 hw a 3 g cs fv h0 n0 O SS SO (by decide)) hown (hw _ (List.mem_of_getElem? (i := 27) rfl)) (hw _ (List.mem_of_getElem? (i := 28) rfl)) (notFace_of_selects (args := #[]) (mvT hZ (hw _ (List.mem_of_getElem? (i := 30) rfl)))) (hw _ (List.mem_of_getElem? (i := 30) rfl)) (hw _ (List.mem_of_getElem? (i := 29) rfl)) (hw _ (List.mem_of_getElem? (i := 4) rfl)) (hw _ (List.mem_of_getElem? (i := 31) rfl)) (by decide) e147 Ex (g := (mkF m 6 #[.val (.ref a), .val (.int ((0 : Int32) + (bo (g 0)))), .val (.int (1 : Int32)), .val (.int (g 0))] [(.ref a), (.int (1 : Int32))])) rfl (by rw [hml]; rfl) (lenOf pd_14 rfl) rfl (W := 1) (by show 2 * 0 + _ ≤ _; exact Nat.le_of_eq rfl) (hb hby d4_6) (by decide) (by decide) (by decide) (by decide)
    obtain ⟨rfl, rfl, e148⟩ := hQ148
    rw [List.append_nil] at X148
    refine GoOn.step st148 ?_
    show GoOn p e below _ (T148.setTop (mkF m 9 #[.val (.ref a), .val (.int ((0 : Int32) + (bo (g 0)))), .val (.int (1 : Int32)), .val (.int (g 0))] [(.int (Nat.toInt32 3)), (.int (1 : Int32))]))
    rw [show (Nat.toInt32 3) = (3 : Int32) from (by decide)]
    have hf149 : (1 : Int32) < (3 : Int32) := (by decide)
    refine GoOn.step (fun t₀ k₀ => XS.icmpNo X148.here hx rfl (hb hby d4_9) rfl (tlt hf149).2.1 k₀) ?_
    show GoOn p e below _ (T148.setTop (mkF m 12 #[.val (.ref a), .val (.int ((0 : Int32) + (bo (g 0)))), .val (.int (1 : Int32)), .val (.int (g 0))] []))
    refine GoOn.step (fun t₀ k₀ => XS.aloadN X148.here hx rfl (hb hby d4_12) rfl rfl k₀) ?_
    show GoOn p e below _ (T148.setTop (mkF m 13 #[.val (.ref a), .val (.int ((0 : Int32) + (bo (g 0)))), .val (.int (1 : Int32)), .val (.int (g 0))] [(.ref a)]))
    refine GoOn.step (fun t₀ k₀ => XS.iloadN X148.here hx rfl (hb hby d4_13) rfl k₀) ?_
    show GoOn p e below _ (T148.setTop (mkF m 14 #[.val (.ref a), .val (.int ((0 : Int32) + (bo (g 0)))), .val (.int (1 : Int32)), .val (.int (g 0))] [(.int (1 : Int32)), (.ref a)]))
    obtain ⟨_, T150, L150, X150, hQ150, st150⟩ := kCallV X148 hx hZ (a := a) (argsL := [(.int (1 : Int32))]) (rest := []) (c_at l Z a0 hw a 3 g cs fv (1 : Int32) h0 n0 O SS SO (by decide) Cg ⟨by decide, by decide⟩) hown (hw _ (List.mem_of_getElem? (i := 52) rfl)) (hw _ (List.mem_of_getElem? (i := 53) rfl)) (notFace_of_selects (args := #[]) (mvT hZ (hw _ (List.mem_of_getElem? (i := 55) rfl)))) (hw _ (List.mem_of_getElem? (i := 55) rfl)) (hw _ (List.mem_of_getElem? (i := 54) rfl)) (hw _ (List.mem_of_getElem? (i := 4) rfl)) (hw _ (List.mem_of_getElem? (i := 56) rfl)) (by decide) e148 Ex (g := (mkF m 14 #[.val (.ref a), .val (.int ((0 : Int32) + (bo (g 0)))), .val (.int (1 : Int32)), .val (.int (g 0))] [(.int (1 : Int32)), (.ref a)])) rfl (by rw [hml]; rfl) (lenOf pd_15 rfl) rfl (W := 0) (by show 2 * 0 + _ ≤ _; exact Nat.le_of_eq rfl) (hb hby d4_14) (by decide) (by decide) (by decide) (by decide)
    obtain ⟨rfl, rfl, e150⟩ := hQ150
    rw [List.append_nil] at X150
    refine GoOn.step st150 ?_
    show GoOn p e below _ (T150.setTop (mkF m 17 #[.val (.ref a), .val (.int ((0 : Int32) + (bo (g 0)))), .val (.int (1 : Int32)), .val (.int (g 0))] [(.int (g (1 : Int32).toNatClampNeg))]))
    rw [show (g (1 : Int32).toNatClampNeg) = (g 1) from (congrArg g (by decide))]
    refine GoOn.step (fun t₀ k₀ => XS.istoreN X150.here hx rfl (hb hby d4_17) rfl (l' := #[.val (.ref a), .val (.int ((0 : Int32) + (bo (g 0)))), .val (.int (1 : Int32)), .val (.int (g 1))]) rfl k₀) ?_
    show GoOn p e below _ (T150.setTop (mkF m 18 #[.val (.ref a), .val (.int ((0 : Int32) + (bo (g 0)))), .val (.int (1 : Int32)), .val (.int (g 1))] []))
    refine GoOn.step (fun t₀ k₀ => XS.iloadN X150.here hx rfl (hb hby d4_18) rfl k₀) ?_
    show GoOn p e below _ (T150.setTop (mkF m 19 #[.val (.ref a), .val (.int ((0 : Int32) + (bo (g 0)))), .val (.int (1 : Int32)), .val (.int (g 1))] [(.int ((0 : Int32) + (bo (g 0))))]))
    refine GoOn.step (fun t₀ k₀ => XS.iloadN X150.here hx rfl (hb hby d4_19) rfl k₀) ?_
    show GoOn p e below _ (T150.setTop (mkF m 20 #[.val (.ref a), .val (.int ((0 : Int32) + (bo (g 0)))), .val (.int (1 : Int32)), .val (.int (g 1))] [(.int (g 1)), (.int ((0 : Int32) + (bo (g 0))))]))
    refine GoOn.step (fun t₀ k₀ => XS.iconst X150.here hx rfl (hb hby d4_20) k₀) ?_
    show GoOn p e below _ (T150.setTop (mkF m 21 #[.val (.ref a), .val (.int ((0 : Int32) + (bo (g 0)))), .val (.int (1 : Int32)), .val (.int (g 1))] [(.int (1 : Int32)), (.int (g 1)), (.int ((0 : Int32) + (bo (g 0))))]))
    have J1 : ∀ (q : Int32) (_ : q = bo (g 1)), GoOn p e below (EndQ s ({ frames := 5, cells := 0, slots := 0, locals := 90 } : Room) (PQ (some (.int ((((0 : Int32) + bo (g 0)) + bo (g 1)) + bo (g 2)))) h0)) (T150.setTop (mkF m 46 #[.val (.ref a), .val (.int ((0 : Int32) + (bo (g 0)))), .val (.int (1 : Int32)), .val (.int (g 1))] [(.int q), (.int ((0 : Int32) + (bo (g 0))))])) := by
      intro q hq
      subst hq
      show GoOn p e below _ (T150.setTop (mkF m 46 #[.val (.ref a), .val (.int ((0 : Int32) + (bo (g 0)))), .val (.int (1 : Int32)), .val (.int (g 1))] [(.int (bo (g 1))), (.int ((0 : Int32) + (bo (g 0))))]))
      refine GoOn.step (fun t₀ k₀ => XS.iadd X150.here hx rfl (hb hby d4_46) rfl k₀) ?_
      show GoOn p e below _ (T150.setTop (mkF m 47 #[.val (.ref a), .val (.int ((0 : Int32) + (bo (g 0)))), .val (.int (1 : Int32)), .val (.int (g 1))] [(.int (((0 : Int32) + (bo (g 0))) + (bo (g 1))))]))
      refine GoOn.step (fun t₀ k₀ => XS.istoreN X150.here hx rfl (hb hby d4_47) rfl (l' := #[.val (.ref a), .val (.int (((0 : Int32) + (bo (g 0))) + (bo (g 1)))), .val (.int (1 : Int32)), .val (.int (g 1))]) rfl k₀) ?_
      show GoOn p e below _ (T150.setTop (mkF m 48 #[.val (.ref a), .val (.int (((0 : Int32) + (bo (g 0))) + (bo (g 1)))), .val (.int (1 : Int32)), .val (.int (g 1))] []))
      refine GoOn.step (fun t₀ k₀ => XS.iinc X150.here hx rfl (hb hby d4_48) rfl (l' := #[.val (.ref a), .val (.int (((0 : Int32) + (bo (g 0))) + (bo (g 1)))), .val (.int ((1 : Int32) + (1 : Int32))), .val (.int (g 1))]) rfl k₀) ?_
      show GoOn p e below _ (T150.setTop (mkF m 51 #[.val (.ref a), .val (.int (((0 : Int32) + (bo (g 0))) + (bo (g 1)))), .val (.int ((1 : Int32) + (1 : Int32))), .val (.int (g 1))] []))
      rw [show ((1 : Int32) + (1 : Int32)) = (2 : Int32) from (by decide)]
      refine GoOn.step (fun t₀ k₀ => XS.goto X150.here hx rfl (pc0 := 51) (pc' := 4) rfl (hb hby d4_51) (by decide) (by decide) k₀) ?_
      show GoOn p e below _ (T150.setTop (mkF m 4 #[.val (.ref a), .val (.int (((0 : Int32) + (bo (g 0))) + (bo (g 1)))), .val (.int (2 : Int32)), .val (.int (g 1))] []))
      refine GoOn.step (fun t₀ k₀ => XS.iloadN X150.here hx rfl (hb hby d4_4) rfl k₀) ?_
      show GoOn p e below _ (T150.setTop (mkF m 5 #[.val (.ref a), .val (.int (((0 : Int32) + (bo (g 0))) + (bo (g 1)))), .val (.int (2 : Int32)), .val (.int (g 1))] [(.int (2 : Int32))]))
      refine GoOn.step (fun t₀ k₀ => XS.aloadN X150.here hx rfl (hb hby d4_5) rfl rfl k₀) ?_
      show GoOn p e below _ (T150.setTop (mkF m 6 #[.val (.ref a), .val (.int (((0 : Int32) + (bo (g 0))) + (bo (g 1)))), .val (.int (2 : Int32)), .val (.int (g 1))] [(.ref a), (.int (2 : Int32))]))
      obtain ⟨_, T151, L151, X151, hQ151, st151⟩ := kCallV X150 hx hZ (a := a) (argsL := []) (rest := [(.int (2 : Int32))]) (c_len l Z a0 hw a 3 g cs fv h0 n0 O SS SO (by decide)) hown (hw _ (List.mem_of_getElem? (i := 27) rfl)) (hw _ (List.mem_of_getElem? (i := 28) rfl)) (notFace_of_selects (args := #[]) (mvT hZ (hw _ (List.mem_of_getElem? (i := 30) rfl)))) (hw _ (List.mem_of_getElem? (i := 30) rfl)) (hw _ (List.mem_of_getElem? (i := 29) rfl)) (hw _ (List.mem_of_getElem? (i := 4) rfl)) (hw _ (List.mem_of_getElem? (i := 31) rfl)) (by decide) e150 Ex (g := (mkF m 6 #[.val (.ref a), .val (.int (((0 : Int32) + (bo (g 0))) + (bo (g 1)))), .val (.int (2 : Int32)), .val (.int (g 1))] [(.ref a), (.int (2 : Int32))])) rfl (by rw [hml]; rfl) (lenOf pd_14 rfl) rfl (W := 1) (by show 2 * 0 + _ ≤ _; exact Nat.le_of_eq rfl) (hb hby d4_6) (by decide) (by decide) (by decide) (by decide)
      obtain ⟨rfl, rfl, e151⟩ := hQ151
      rw [List.append_nil] at X151
      refine GoOn.step st151 ?_
      show GoOn p e below _ (T151.setTop (mkF m 9 #[.val (.ref a), .val (.int (((0 : Int32) + (bo (g 0))) + (bo (g 1)))), .val (.int (2 : Int32)), .val (.int (g 1))] [(.int (Nat.toInt32 3)), (.int (2 : Int32))]))
      rw [show (Nat.toInt32 3) = (3 : Int32) from (by decide)]
      have hf152 : (2 : Int32) < (3 : Int32) := (by decide)
      refine GoOn.step (fun t₀ k₀ => XS.icmpNo X151.here hx rfl (hb hby d4_9) rfl (tlt hf152).2.1 k₀) ?_
      show GoOn p e below _ (T151.setTop (mkF m 12 #[.val (.ref a), .val (.int (((0 : Int32) + (bo (g 0))) + (bo (g 1)))), .val (.int (2 : Int32)), .val (.int (g 1))] []))
      refine GoOn.step (fun t₀ k₀ => XS.aloadN X151.here hx rfl (hb hby d4_12) rfl rfl k₀) ?_
      show GoOn p e below _ (T151.setTop (mkF m 13 #[.val (.ref a), .val (.int (((0 : Int32) + (bo (g 0))) + (bo (g 1)))), .val (.int (2 : Int32)), .val (.int (g 1))] [(.ref a)]))
      refine GoOn.step (fun t₀ k₀ => XS.iloadN X151.here hx rfl (hb hby d4_13) rfl k₀) ?_
      show GoOn p e below _ (T151.setTop (mkF m 14 #[.val (.ref a), .val (.int (((0 : Int32) + (bo (g 0))) + (bo (g 1)))), .val (.int (2 : Int32)), .val (.int (g 1))] [(.int (2 : Int32)), (.ref a)]))
      obtain ⟨_, T153, L153, X153, hQ153, st153⟩ := kCallV X151 hx hZ (a := a) (argsL := [(.int (2 : Int32))]) (rest := []) (c_at l Z a0 hw a 3 g cs fv (2 : Int32) h0 n0 O SS SO (by decide) Cg ⟨by decide, by decide⟩) hown (hw _ (List.mem_of_getElem? (i := 52) rfl)) (hw _ (List.mem_of_getElem? (i := 53) rfl)) (notFace_of_selects (args := #[]) (mvT hZ (hw _ (List.mem_of_getElem? (i := 55) rfl)))) (hw _ (List.mem_of_getElem? (i := 55) rfl)) (hw _ (List.mem_of_getElem? (i := 54) rfl)) (hw _ (List.mem_of_getElem? (i := 4) rfl)) (hw _ (List.mem_of_getElem? (i := 56) rfl)) (by decide) e151 Ex (g := (mkF m 14 #[.val (.ref a), .val (.int (((0 : Int32) + (bo (g 0))) + (bo (g 1)))), .val (.int (2 : Int32)), .val (.int (g 1))] [(.int (2 : Int32)), (.ref a)])) rfl (by rw [hml]; rfl) (lenOf pd_15 rfl) rfl (W := 0) (by show 2 * 0 + _ ≤ _; exact Nat.le_of_eq rfl) (hb hby d4_14) (by decide) (by decide) (by decide) (by decide)
      obtain ⟨rfl, rfl, e153⟩ := hQ153
      rw [List.append_nil] at X153
      refine GoOn.step st153 ?_
      show GoOn p e below _ (T153.setTop (mkF m 17 #[.val (.ref a), .val (.int (((0 : Int32) + (bo (g 0))) + (bo (g 1)))), .val (.int (2 : Int32)), .val (.int (g 1))] [(.int (g (2 : Int32).toNatClampNeg))]))
      rw [show (g (2 : Int32).toNatClampNeg) = (g 2) from (congrArg g (by decide))]
      refine GoOn.step (fun t₀ k₀ => XS.istoreN X153.here hx rfl (hb hby d4_17) rfl (l' := #[.val (.ref a), .val (.int (((0 : Int32) + (bo (g 0))) + (bo (g 1)))), .val (.int (2 : Int32)), .val (.int (g 2))]) rfl k₀) ?_
      show GoOn p e below _ (T153.setTop (mkF m 18 #[.val (.ref a), .val (.int (((0 : Int32) + (bo (g 0))) + (bo (g 1)))), .val (.int (2 : Int32)), .val (.int (g 2))] []))
      refine GoOn.step (fun t₀ k₀ => XS.iloadN X153.here hx rfl (hb hby d4_18) rfl k₀) ?_
      show GoOn p e below _ (T153.setTop (mkF m 19 #[.val (.ref a), .val (.int (((0 : Int32) + (bo (g 0))) + (bo (g 1)))), .val (.int (2 : Int32)), .val (.int (g 2))] [(.int (((0 : Int32) + (bo (g 0))) + (bo (g 1))))]))
      refine GoOn.step (fun t₀ k₀ => XS.iloadN X153.here hx rfl (hb hby d4_19) rfl k₀) ?_
      show GoOn p e below _ (T153.setTop (mkF m 20 #[.val (.ref a), .val (.int (((0 : Int32) + (bo (g 0))) + (bo (g 1)))), .val (.int (2 : Int32)), .val (.int (g 2))] [(.int (g 2)), (.int (((0 : Int32) + (bo (g 0))) + (bo (g 1))))]))
      refine GoOn.step (fun t₀ k₀ => XS.iconst X153.here hx rfl (hb hby d4_20) k₀) ?_
      show GoOn p e below _ (T153.setTop (mkF m 21 #[.val (.ref a), .val (.int (((0 : Int32) + (bo (g 0))) + (bo (g 1)))), .val (.int (2 : Int32)), .val (.int (g 2))] [(.int (1 : Int32)), (.int (g 2)), (.int (((0 : Int32) + (bo (g 0))) + (bo (g 1))))]))
      have J2 : ∀ (q : Int32) (_ : q = bo (g 2)), GoOn p e below (EndQ s ({ frames := 5, cells := 0, slots := 0, locals := 90 } : Room) (PQ (some (.int ((((0 : Int32) + bo (g 0)) + bo (g 1)) + bo (g 2)))) h0)) (T153.setTop (mkF m 46 #[.val (.ref a), .val (.int (((0 : Int32) + (bo (g 0))) + (bo (g 1)))), .val (.int (2 : Int32)), .val (.int (g 2))] [(.int q), (.int (((0 : Int32) + (bo (g 0))) + (bo (g 1))))])) := by
        intro q hq
        subst hq
        show GoOn p e below _ (T153.setTop (mkF m 46 #[.val (.ref a), .val (.int (((0 : Int32) + (bo (g 0))) + (bo (g 1)))), .val (.int (2 : Int32)), .val (.int (g 2))] [(.int (bo (g 2))), (.int (((0 : Int32) + (bo (g 0))) + (bo (g 1))))]))
        refine GoOn.step (fun t₀ k₀ => XS.iadd X153.here hx rfl (hb hby d4_46) rfl k₀) ?_
        show GoOn p e below _ (T153.setTop (mkF m 47 #[.val (.ref a), .val (.int (((0 : Int32) + (bo (g 0))) + (bo (g 1)))), .val (.int (2 : Int32)), .val (.int (g 2))] [(.int ((((0 : Int32) + (bo (g 0))) + (bo (g 1))) + (bo (g 2))))]))
        refine GoOn.step (fun t₀ k₀ => XS.istoreN X153.here hx rfl (hb hby d4_47) rfl (l' := #[.val (.ref a), .val (.int ((((0 : Int32) + (bo (g 0))) + (bo (g 1))) + (bo (g 2)))), .val (.int (2 : Int32)), .val (.int (g 2))]) rfl k₀) ?_
        show GoOn p e below _ (T153.setTop (mkF m 48 #[.val (.ref a), .val (.int ((((0 : Int32) + (bo (g 0))) + (bo (g 1))) + (bo (g 2)))), .val (.int (2 : Int32)), .val (.int (g 2))] []))
        refine GoOn.step (fun t₀ k₀ => XS.iinc X153.here hx rfl (hb hby d4_48) rfl (l' := #[.val (.ref a), .val (.int ((((0 : Int32) + (bo (g 0))) + (bo (g 1))) + (bo (g 2)))), .val (.int ((2 : Int32) + (1 : Int32))), .val (.int (g 2))]) rfl k₀) ?_
        show GoOn p e below _ (T153.setTop (mkF m 51 #[.val (.ref a), .val (.int ((((0 : Int32) + (bo (g 0))) + (bo (g 1))) + (bo (g 2)))), .val (.int ((2 : Int32) + (1 : Int32))), .val (.int (g 2))] []))
        rw [show ((2 : Int32) + (1 : Int32)) = (3 : Int32) from (by decide)]
        refine GoOn.step (fun t₀ k₀ => XS.goto X153.here hx rfl (pc0 := 51) (pc' := 4) rfl (hb hby d4_51) (by decide) (by decide) k₀) ?_
        show GoOn p e below _ (T153.setTop (mkF m 4 #[.val (.ref a), .val (.int ((((0 : Int32) + (bo (g 0))) + (bo (g 1))) + (bo (g 2)))), .val (.int (3 : Int32)), .val (.int (g 2))] []))
        refine GoOn.step (fun t₀ k₀ => XS.iloadN X153.here hx rfl (hb hby d4_4) rfl k₀) ?_
        show GoOn p e below _ (T153.setTop (mkF m 5 #[.val (.ref a), .val (.int ((((0 : Int32) + (bo (g 0))) + (bo (g 1))) + (bo (g 2)))), .val (.int (3 : Int32)), .val (.int (g 2))] [(.int (3 : Int32))]))
        refine GoOn.step (fun t₀ k₀ => XS.aloadN X153.here hx rfl (hb hby d4_5) rfl rfl k₀) ?_
        show GoOn p e below _ (T153.setTop (mkF m 6 #[.val (.ref a), .val (.int ((((0 : Int32) + (bo (g 0))) + (bo (g 1))) + (bo (g 2)))), .val (.int (3 : Int32)), .val (.int (g 2))] [(.ref a), (.int (3 : Int32))]))
        obtain ⟨_, T154, L154, X154, hQ154, st154⟩ := kCallV X153 hx hZ (a := a) (argsL := []) (rest := [(.int (3 : Int32))]) (c_len l Z a0 hw a 3 g cs fv h0 n0 O SS SO (by decide)) hown (hw _ (List.mem_of_getElem? (i := 27) rfl)) (hw _ (List.mem_of_getElem? (i := 28) rfl)) (notFace_of_selects (args := #[]) (mvT hZ (hw _ (List.mem_of_getElem? (i := 30) rfl)))) (hw _ (List.mem_of_getElem? (i := 30) rfl)) (hw _ (List.mem_of_getElem? (i := 29) rfl)) (hw _ (List.mem_of_getElem? (i := 4) rfl)) (hw _ (List.mem_of_getElem? (i := 31) rfl)) (by decide) e153 Ex (g := (mkF m 6 #[.val (.ref a), .val (.int ((((0 : Int32) + (bo (g 0))) + (bo (g 1))) + (bo (g 2)))), .val (.int (3 : Int32)), .val (.int (g 2))] [(.ref a), (.int (3 : Int32))])) rfl (by rw [hml]; rfl) (lenOf pd_14 rfl) rfl (W := 1) (by show 2 * 0 + _ ≤ _; exact Nat.le_of_eq rfl) (hb hby d4_6) (by decide) (by decide) (by decide) (by decide)
        obtain ⟨rfl, rfl, e154⟩ := hQ154
        rw [List.append_nil] at X154
        refine GoOn.step st154 ?_
        show GoOn p e below _ (T154.setTop (mkF m 9 #[.val (.ref a), .val (.int ((((0 : Int32) + (bo (g 0))) + (bo (g 1))) + (bo (g 2)))), .val (.int (3 : Int32)), .val (.int (g 2))] [(.int (Nat.toInt32 3)), (.int (3 : Int32))]))
        rw [show (Nat.toInt32 3) = (3 : Int32) from (by decide)]
        have hf155 : ¬ ((3 : Int32) < (3 : Int32)) := (by decide)
        refine GoOn.step (fun t₀ k₀ => XS.icmpYes X154.here hx rfl (pc0 := 9) (pc' := 54) rfl (hb hby d4_9) rfl (flt hf155).2.1 (by decide) (by decide) k₀) ?_
        show GoOn p e below _ (T154.setTop (mkF m 54 #[.val (.ref a), .val (.int ((((0 : Int32) + (bo (g 0))) + (bo (g 1))) + (bo (g 2)))), .val (.int (3 : Int32)), .val (.int (g 2))] []))
        refine GoOn.step (fun t₀ k₀ => XS.iloadN X154.here hx rfl (hb hby d4_54) rfl k₀) ?_
        show GoOn p e below _ (T154.setTop (mkF m 55 #[.val (.ref a), .val (.int ((((0 : Int32) + (bo (g 0))) + (bo (g 1))) + (bo (g 2)))), .val (.int (3 : Int32)), .val (.int (g 2))] [(.int ((((0 : Int32) + (bo (g 0))) + (bo (g 1))) + (bo (g 2))))]))
        exact GoOn.retI X154 hx hrt hlk (hb hby d4_55) (by decide) (by decide) (by first | exact ⟨rfl, rfl, rfl⟩ | (rw [e154]; exact ⟨rfl, rfl, rfl⟩))
      by_cases p1 : (g 2) < (1 : Int32)
      · refine GoOn.step (fun t₀ k₀ => XS.icmpYes X153.here hx rfl (pc0 := 21) (pc' := 34) rfl (hb hby d4_21) rfl (tlt p1).1 (by decide) (by decide) k₀) ?_
        show GoOn p e below _ (T153.setTop (mkF m 34 #[.val (.ref a), .val (.int (((0 : Int32) + (bo (g 0))) + (bo (g 1)))), .val (.int (2 : Int32)), .val (.int (g 2))] [(.int (((0 : Int32) + (bo (g 0))) + (bo (g 1))))]))
        refine GoOn.step (fun t₀ k₀ => XS.iloadN X153.here hx rfl (hb hby d4_34) rfl k₀) ?_
        show GoOn p e below _ (T153.setTop (mkF m 35 #[.val (.ref a), .val (.int (((0 : Int32) + (bo (g 0))) + (bo (g 1)))), .val (.int (2 : Int32)), .val (.int (g 2))] [(.int (g 2)), (.int (((0 : Int32) + (bo (g 0))) + (bo (g 1))))]))
        refine GoOn.step (fun t₀ k₀ => XS.sipush X153.here hx rfl (hb hby d4_35) k₀) ?_
        show GoOn p e below _ (T153.setTop (mkF m 38 #[.val (.ref a), .val (.int (((0 : Int32) + (bo (g 0))) + (bo (g 1)))), .val (.int (2 : Int32)), .val (.int (g 2))] [(.int (2047 : Int32)), (.int (g 2)), (.int (((0 : Int32) + (bo (g 0))) + (bo (g 1))))]))
        by_cases p3 : (2047 : Int32) < (g 2)
        · refine GoOn.step (fun t₀ k₀ => XS.icmpYes X153.here hx rfl (pc0 := 38) (pc' := 45) rfl (hb hby d4_38) rfl (tlt p3).2.2.1 (by decide) (by decide) k₀) ?_
          show GoOn p e below _ (T153.setTop (mkF m 45 #[.val (.ref a), .val (.int (((0 : Int32) + (bo (g 0))) + (bo (g 1)))), .val (.int (2 : Int32)), .val (.int (g 2))] [(.int (((0 : Int32) + (bo (g 0))) + (bo (g 1))))]))
          refine GoOn.step (fun t₀ k₀ => XS.iconst X153.here hx rfl (hb hby d4_45) k₀) ?_
          show GoOn p e below _ (T153.setTop (mkF m 46 #[.val (.ref a), .val (.int (((0 : Int32) + (bo (g 0))) + (bo (g 1)))), .val (.int (2 : Int32)), .val (.int (g 2))] [(.int (3 : Int32)), (.int (((0 : Int32) + (bo (g 0))) + (bo (g 1))))]))
          exact J2 _ (bo3 p3)
        · refine GoOn.step (fun t₀ k₀ => XS.icmpNo X153.here hx rfl (hb hby d4_38) rfl (flt p3).2.2.1 k₀) ?_
          show GoOn p e below _ (T153.setTop (mkF m 41 #[.val (.ref a), .val (.int (((0 : Int32) + (bo (g 0))) + (bo (g 1)))), .val (.int (2 : Int32)), .val (.int (g 2))] [(.int (((0 : Int32) + (bo (g 0))) + (bo (g 1))))]))
          refine GoOn.step (fun t₀ k₀ => XS.iconst X153.here hx rfl (hb hby d4_41) k₀) ?_
          show GoOn p e below _ (T153.setTop (mkF m 42 #[.val (.ref a), .val (.int (((0 : Int32) + (bo (g 0))) + (bo (g 1)))), .val (.int (2 : Int32)), .val (.int (g 2))] [(.int (2 : Int32)), (.int (((0 : Int32) + (bo (g 0))) + (bo (g 1))))]))
          refine GoOn.step (fun t₀ k₀ => XS.goto X153.here hx rfl (pc0 := 42) (pc' := 46) rfl (hb hby d4_42) (by decide) (by decide) k₀) ?_
          show GoOn p e below _ (T153.setTop (mkF m 46 #[.val (.ref a), .val (.int (((0 : Int32) + (bo (g 0))) + (bo (g 1)))), .val (.int (2 : Int32)), .val (.int (g 2))] [(.int (2 : Int32)), (.int (((0 : Int32) + (bo (g 0))) + (bo (g 1))))]))
          exact J2 _ (bo2 (Cg _).1 (Or.inl p1) p3)
      · refine GoOn.step (fun t₀ k₀ => XS.icmpNo X153.here hx rfl (hb hby d4_21) rfl (flt p1).1 k₀) ?_
        show GoOn p e below _ (T153.setTop (mkF m 24 #[.val (.ref a), .val (.int (((0 : Int32) + (bo (g 0))) + (bo (g 1)))), .val (.int (2 : Int32)), .val (.int (g 2))] [(.int (((0 : Int32) + (bo (g 0))) + (bo (g 1))))]))
        refine GoOn.step (fun t₀ k₀ => XS.iloadN X153.here hx rfl (hb hby d4_24) rfl k₀) ?_
        show GoOn p e below _ (T153.setTop (mkF m 25 #[.val (.ref a), .val (.int (((0 : Int32) + (bo (g 0))) + (bo (g 1)))), .val (.int (2 : Int32)), .val (.int (g 2))] [(.int (g 2)), (.int (((0 : Int32) + (bo (g 0))) + (bo (g 1))))]))
        refine GoOn.step (fun t₀ k₀ => XS.bipush X153.here hx rfl (hb hby d4_25) k₀) ?_
        show GoOn p e below _ (T153.setTop (mkF m 27 #[.val (.ref a), .val (.int (((0 : Int32) + (bo (g 0))) + (bo (g 1)))), .val (.int (2 : Int32)), .val (.int (g 2))] [(.int (127 : Int32)), (.int (g 2)), (.int (((0 : Int32) + (bo (g 0))) + (bo (g 1))))]))
        by_cases p2 : (127 : Int32) < (g 2)
        · refine GoOn.step (fun t₀ k₀ => XS.icmpYes X153.here hx rfl (pc0 := 27) (pc' := 34) rfl (hb hby d4_27) rfl (tlt p2).2.2.1 (by decide) (by decide) k₀) ?_
          show GoOn p e below _ (T153.setTop (mkF m 34 #[.val (.ref a), .val (.int (((0 : Int32) + (bo (g 0))) + (bo (g 1)))), .val (.int (2 : Int32)), .val (.int (g 2))] [(.int (((0 : Int32) + (bo (g 0))) + (bo (g 1))))]))
          refine GoOn.step (fun t₀ k₀ => XS.iloadN X153.here hx rfl (hb hby d4_34) rfl k₀) ?_
          show GoOn p e below _ (T153.setTop (mkF m 35 #[.val (.ref a), .val (.int (((0 : Int32) + (bo (g 0))) + (bo (g 1)))), .val (.int (2 : Int32)), .val (.int (g 2))] [(.int (g 2)), (.int (((0 : Int32) + (bo (g 0))) + (bo (g 1))))]))
          refine GoOn.step (fun t₀ k₀ => XS.sipush X153.here hx rfl (hb hby d4_35) k₀) ?_
          show GoOn p e below _ (T153.setTop (mkF m 38 #[.val (.ref a), .val (.int (((0 : Int32) + (bo (g 0))) + (bo (g 1)))), .val (.int (2 : Int32)), .val (.int (g 2))] [(.int (2047 : Int32)), (.int (g 2)), (.int (((0 : Int32) + (bo (g 0))) + (bo (g 1))))]))
          by_cases p3 : (2047 : Int32) < (g 2)
          · refine GoOn.step (fun t₀ k₀ => XS.icmpYes X153.here hx rfl (pc0 := 38) (pc' := 45) rfl (hb hby d4_38) rfl (tlt p3).2.2.1 (by decide) (by decide) k₀) ?_
            show GoOn p e below _ (T153.setTop (mkF m 45 #[.val (.ref a), .val (.int (((0 : Int32) + (bo (g 0))) + (bo (g 1)))), .val (.int (2 : Int32)), .val (.int (g 2))] [(.int (((0 : Int32) + (bo (g 0))) + (bo (g 1))))]))
            refine GoOn.step (fun t₀ k₀ => XS.iconst X153.here hx rfl (hb hby d4_45) k₀) ?_
            show GoOn p e below _ (T153.setTop (mkF m 46 #[.val (.ref a), .val (.int (((0 : Int32) + (bo (g 0))) + (bo (g 1)))), .val (.int (2 : Int32)), .val (.int (g 2))] [(.int (3 : Int32)), (.int (((0 : Int32) + (bo (g 0))) + (bo (g 1))))]))
            exact J2 _ (bo3 p3)
          · refine GoOn.step (fun t₀ k₀ => XS.icmpNo X153.here hx rfl (hb hby d4_38) rfl (flt p3).2.2.1 k₀) ?_
            show GoOn p e below _ (T153.setTop (mkF m 41 #[.val (.ref a), .val (.int (((0 : Int32) + (bo (g 0))) + (bo (g 1)))), .val (.int (2 : Int32)), .val (.int (g 2))] [(.int (((0 : Int32) + (bo (g 0))) + (bo (g 1))))]))
            refine GoOn.step (fun t₀ k₀ => XS.iconst X153.here hx rfl (hb hby d4_41) k₀) ?_
            show GoOn p e below _ (T153.setTop (mkF m 42 #[.val (.ref a), .val (.int (((0 : Int32) + (bo (g 0))) + (bo (g 1)))), .val (.int (2 : Int32)), .val (.int (g 2))] [(.int (2 : Int32)), (.int (((0 : Int32) + (bo (g 0))) + (bo (g 1))))]))
            refine GoOn.step (fun t₀ k₀ => XS.goto X153.here hx rfl (pc0 := 42) (pc' := 46) rfl (hb hby d4_42) (by decide) (by decide) k₀) ?_
            show GoOn p e below _ (T153.setTop (mkF m 46 #[.val (.ref a), .val (.int (((0 : Int32) + (bo (g 0))) + (bo (g 1)))), .val (.int (2 : Int32)), .val (.int (g 2))] [(.int (2 : Int32)), (.int (((0 : Int32) + (bo (g 0))) + (bo (g 1))))]))
            exact J2 _ (bo2 (Cg _).1 (Or.inr p2) p3)
        · refine GoOn.step (fun t₀ k₀ => XS.icmpNo X153.here hx rfl (hb hby d4_27) rfl (flt p2).2.2.1 k₀) ?_
          show GoOn p e below _ (T153.setTop (mkF m 30 #[.val (.ref a), .val (.int (((0 : Int32) + (bo (g 0))) + (bo (g 1)))), .val (.int (2 : Int32)), .val (.int (g 2))] [(.int (((0 : Int32) + (bo (g 0))) + (bo (g 1))))]))
          refine GoOn.step (fun t₀ k₀ => XS.iconst X153.here hx rfl (hb hby d4_30) k₀) ?_
          show GoOn p e below _ (T153.setTop (mkF m 31 #[.val (.ref a), .val (.int (((0 : Int32) + (bo (g 0))) + (bo (g 1)))), .val (.int (2 : Int32)), .val (.int (g 2))] [(.int (1 : Int32)), (.int (((0 : Int32) + (bo (g 0))) + (bo (g 1))))]))
          refine GoOn.step (fun t₀ k₀ => XS.goto X153.here hx rfl (pc0 := 31) (pc' := 46) rfl (hb hby d4_31) (by decide) (by decide) k₀) ?_
          show GoOn p e below _ (T153.setTop (mkF m 46 #[.val (.ref a), .val (.int (((0 : Int32) + (bo (g 0))) + (bo (g 1)))), .val (.int (2 : Int32)), .val (.int (g 2))] [(.int (1 : Int32)), (.int (((0 : Int32) + (bo (g 0))) + (bo (g 1))))]))
          exact J2 _ (bo1 p1 p2)
    by_cases p1 : (g 1) < (1 : Int32)
    · refine GoOn.step (fun t₀ k₀ => XS.icmpYes X150.here hx rfl (pc0 := 21) (pc' := 34) rfl (hb hby d4_21) rfl (tlt p1).1 (by decide) (by decide) k₀) ?_
      show GoOn p e below _ (T150.setTop (mkF m 34 #[.val (.ref a), .val (.int ((0 : Int32) + (bo (g 0)))), .val (.int (1 : Int32)), .val (.int (g 1))] [(.int ((0 : Int32) + (bo (g 0))))]))
      refine GoOn.step (fun t₀ k₀ => XS.iloadN X150.here hx rfl (hb hby d4_34) rfl k₀) ?_
      show GoOn p e below _ (T150.setTop (mkF m 35 #[.val (.ref a), .val (.int ((0 : Int32) + (bo (g 0)))), .val (.int (1 : Int32)), .val (.int (g 1))] [(.int (g 1)), (.int ((0 : Int32) + (bo (g 0))))]))
      refine GoOn.step (fun t₀ k₀ => XS.sipush X150.here hx rfl (hb hby d4_35) k₀) ?_
      show GoOn p e below _ (T150.setTop (mkF m 38 #[.val (.ref a), .val (.int ((0 : Int32) + (bo (g 0)))), .val (.int (1 : Int32)), .val (.int (g 1))] [(.int (2047 : Int32)), (.int (g 1)), (.int ((0 : Int32) + (bo (g 0))))]))
      by_cases p3 : (2047 : Int32) < (g 1)
      · refine GoOn.step (fun t₀ k₀ => XS.icmpYes X150.here hx rfl (pc0 := 38) (pc' := 45) rfl (hb hby d4_38) rfl (tlt p3).2.2.1 (by decide) (by decide) k₀) ?_
        show GoOn p e below _ (T150.setTop (mkF m 45 #[.val (.ref a), .val (.int ((0 : Int32) + (bo (g 0)))), .val (.int (1 : Int32)), .val (.int (g 1))] [(.int ((0 : Int32) + (bo (g 0))))]))
        refine GoOn.step (fun t₀ k₀ => XS.iconst X150.here hx rfl (hb hby d4_45) k₀) ?_
        show GoOn p e below _ (T150.setTop (mkF m 46 #[.val (.ref a), .val (.int ((0 : Int32) + (bo (g 0)))), .val (.int (1 : Int32)), .val (.int (g 1))] [(.int (3 : Int32)), (.int ((0 : Int32) + (bo (g 0))))]))
        exact J1 _ (bo3 p3)
      · refine GoOn.step (fun t₀ k₀ => XS.icmpNo X150.here hx rfl (hb hby d4_38) rfl (flt p3).2.2.1 k₀) ?_
        show GoOn p e below _ (T150.setTop (mkF m 41 #[.val (.ref a), .val (.int ((0 : Int32) + (bo (g 0)))), .val (.int (1 : Int32)), .val (.int (g 1))] [(.int ((0 : Int32) + (bo (g 0))))]))
        refine GoOn.step (fun t₀ k₀ => XS.iconst X150.here hx rfl (hb hby d4_41) k₀) ?_
        show GoOn p e below _ (T150.setTop (mkF m 42 #[.val (.ref a), .val (.int ((0 : Int32) + (bo (g 0)))), .val (.int (1 : Int32)), .val (.int (g 1))] [(.int (2 : Int32)), (.int ((0 : Int32) + (bo (g 0))))]))
        refine GoOn.step (fun t₀ k₀ => XS.goto X150.here hx rfl (pc0 := 42) (pc' := 46) rfl (hb hby d4_42) (by decide) (by decide) k₀) ?_
        show GoOn p e below _ (T150.setTop (mkF m 46 #[.val (.ref a), .val (.int ((0 : Int32) + (bo (g 0)))), .val (.int (1 : Int32)), .val (.int (g 1))] [(.int (2 : Int32)), (.int ((0 : Int32) + (bo (g 0))))]))
        exact J1 _ (bo2 (Cg _).1 (Or.inl p1) p3)
    · refine GoOn.step (fun t₀ k₀ => XS.icmpNo X150.here hx rfl (hb hby d4_21) rfl (flt p1).1 k₀) ?_
      show GoOn p e below _ (T150.setTop (mkF m 24 #[.val (.ref a), .val (.int ((0 : Int32) + (bo (g 0)))), .val (.int (1 : Int32)), .val (.int (g 1))] [(.int ((0 : Int32) + (bo (g 0))))]))
      refine GoOn.step (fun t₀ k₀ => XS.iloadN X150.here hx rfl (hb hby d4_24) rfl k₀) ?_
      show GoOn p e below _ (T150.setTop (mkF m 25 #[.val (.ref a), .val (.int ((0 : Int32) + (bo (g 0)))), .val (.int (1 : Int32)), .val (.int (g 1))] [(.int (g 1)), (.int ((0 : Int32) + (bo (g 0))))]))
      refine GoOn.step (fun t₀ k₀ => XS.bipush X150.here hx rfl (hb hby d4_25) k₀) ?_
      show GoOn p e below _ (T150.setTop (mkF m 27 #[.val (.ref a), .val (.int ((0 : Int32) + (bo (g 0)))), .val (.int (1 : Int32)), .val (.int (g 1))] [(.int (127 : Int32)), (.int (g 1)), (.int ((0 : Int32) + (bo (g 0))))]))
      by_cases p2 : (127 : Int32) < (g 1)
      · refine GoOn.step (fun t₀ k₀ => XS.icmpYes X150.here hx rfl (pc0 := 27) (pc' := 34) rfl (hb hby d4_27) rfl (tlt p2).2.2.1 (by decide) (by decide) k₀) ?_
        show GoOn p e below _ (T150.setTop (mkF m 34 #[.val (.ref a), .val (.int ((0 : Int32) + (bo (g 0)))), .val (.int (1 : Int32)), .val (.int (g 1))] [(.int ((0 : Int32) + (bo (g 0))))]))
        refine GoOn.step (fun t₀ k₀ => XS.iloadN X150.here hx rfl (hb hby d4_34) rfl k₀) ?_
        show GoOn p e below _ (T150.setTop (mkF m 35 #[.val (.ref a), .val (.int ((0 : Int32) + (bo (g 0)))), .val (.int (1 : Int32)), .val (.int (g 1))] [(.int (g 1)), (.int ((0 : Int32) + (bo (g 0))))]))
        refine GoOn.step (fun t₀ k₀ => XS.sipush X150.here hx rfl (hb hby d4_35) k₀) ?_
        show GoOn p e below _ (T150.setTop (mkF m 38 #[.val (.ref a), .val (.int ((0 : Int32) + (bo (g 0)))), .val (.int (1 : Int32)), .val (.int (g 1))] [(.int (2047 : Int32)), (.int (g 1)), (.int ((0 : Int32) + (bo (g 0))))]))
        by_cases p3 : (2047 : Int32) < (g 1)
        · refine GoOn.step (fun t₀ k₀ => XS.icmpYes X150.here hx rfl (pc0 := 38) (pc' := 45) rfl (hb hby d4_38) rfl (tlt p3).2.2.1 (by decide) (by decide) k₀) ?_
          show GoOn p e below _ (T150.setTop (mkF m 45 #[.val (.ref a), .val (.int ((0 : Int32) + (bo (g 0)))), .val (.int (1 : Int32)), .val (.int (g 1))] [(.int ((0 : Int32) + (bo (g 0))))]))
          refine GoOn.step (fun t₀ k₀ => XS.iconst X150.here hx rfl (hb hby d4_45) k₀) ?_
          show GoOn p e below _ (T150.setTop (mkF m 46 #[.val (.ref a), .val (.int ((0 : Int32) + (bo (g 0)))), .val (.int (1 : Int32)), .val (.int (g 1))] [(.int (3 : Int32)), (.int ((0 : Int32) + (bo (g 0))))]))
          exact J1 _ (bo3 p3)
        · refine GoOn.step (fun t₀ k₀ => XS.icmpNo X150.here hx rfl (hb hby d4_38) rfl (flt p3).2.2.1 k₀) ?_
          show GoOn p e below _ (T150.setTop (mkF m 41 #[.val (.ref a), .val (.int ((0 : Int32) + (bo (g 0)))), .val (.int (1 : Int32)), .val (.int (g 1))] [(.int ((0 : Int32) + (bo (g 0))))]))
          refine GoOn.step (fun t₀ k₀ => XS.iconst X150.here hx rfl (hb hby d4_41) k₀) ?_
          show GoOn p e below _ (T150.setTop (mkF m 42 #[.val (.ref a), .val (.int ((0 : Int32) + (bo (g 0)))), .val (.int (1 : Int32)), .val (.int (g 1))] [(.int (2 : Int32)), (.int ((0 : Int32) + (bo (g 0))))]))
          refine GoOn.step (fun t₀ k₀ => XS.goto X150.here hx rfl (pc0 := 42) (pc' := 46) rfl (hb hby d4_42) (by decide) (by decide) k₀) ?_
          show GoOn p e below _ (T150.setTop (mkF m 46 #[.val (.ref a), .val (.int ((0 : Int32) + (bo (g 0)))), .val (.int (1 : Int32)), .val (.int (g 1))] [(.int (2 : Int32)), (.int ((0 : Int32) + (bo (g 0))))]))
          exact J1 _ (bo2 (Cg _).1 (Or.inr p2) p3)
      · refine GoOn.step (fun t₀ k₀ => XS.icmpNo X150.here hx rfl (hb hby d4_27) rfl (flt p2).2.2.1 k₀) ?_
        show GoOn p e below _ (T150.setTop (mkF m 30 #[.val (.ref a), .val (.int ((0 : Int32) + (bo (g 0)))), .val (.int (1 : Int32)), .val (.int (g 1))] [(.int ((0 : Int32) + (bo (g 0))))]))
        refine GoOn.step (fun t₀ k₀ => XS.iconst X150.here hx rfl (hb hby d4_30) k₀) ?_
        show GoOn p e below _ (T150.setTop (mkF m 31 #[.val (.ref a), .val (.int ((0 : Int32) + (bo (g 0)))), .val (.int (1 : Int32)), .val (.int (g 1))] [(.int (1 : Int32)), (.int ((0 : Int32) + (bo (g 0))))]))
        refine GoOn.step (fun t₀ k₀ => XS.goto X150.here hx rfl (pc0 := 31) (pc' := 46) rfl (hb hby d4_31) (by decide) (by decide) k₀) ?_
        show GoOn p e below _ (T150.setTop (mkF m 46 #[.val (.ref a), .val (.int ((0 : Int32) + (bo (g 0)))), .val (.int (1 : Int32)), .val (.int (g 1))] [(.int (1 : Int32)), (.int ((0 : Int32) + (bo (g 0))))]))
        exact J1 _ (bo1 p1 p2)
  by_cases p1 : (g 0) < (1 : Int32)
  · refine GoOn.step (fun t₀ k₀ => XS.icmpYes X147.here hx rfl (pc0 := 21) (pc' := 34) rfl (hb hby d4_21) rfl (tlt p1).1 (by decide) (by decide) k₀) ?_
    show GoOn p e below _ (T147.setTop (mkF m 34 #[.val (.ref a), .val (.int (0 : Int32)), .val (.int (0 : Int32)), .val (.int (g 0))] [(.int (0 : Int32))]))
    refine GoOn.step (fun t₀ k₀ => XS.iloadN X147.here hx rfl (hb hby d4_34) rfl k₀) ?_
    show GoOn p e below _ (T147.setTop (mkF m 35 #[.val (.ref a), .val (.int (0 : Int32)), .val (.int (0 : Int32)), .val (.int (g 0))] [(.int (g 0)), (.int (0 : Int32))]))
    refine GoOn.step (fun t₀ k₀ => XS.sipush X147.here hx rfl (hb hby d4_35) k₀) ?_
    show GoOn p e below _ (T147.setTop (mkF m 38 #[.val (.ref a), .val (.int (0 : Int32)), .val (.int (0 : Int32)), .val (.int (g 0))] [(.int (2047 : Int32)), (.int (g 0)), (.int (0 : Int32))]))
    by_cases p3 : (2047 : Int32) < (g 0)
    · refine GoOn.step (fun t₀ k₀ => XS.icmpYes X147.here hx rfl (pc0 := 38) (pc' := 45) rfl (hb hby d4_38) rfl (tlt p3).2.2.1 (by decide) (by decide) k₀) ?_
      show GoOn p e below _ (T147.setTop (mkF m 45 #[.val (.ref a), .val (.int (0 : Int32)), .val (.int (0 : Int32)), .val (.int (g 0))] [(.int (0 : Int32))]))
      refine GoOn.step (fun t₀ k₀ => XS.iconst X147.here hx rfl (hb hby d4_45) k₀) ?_
      show GoOn p e below _ (T147.setTop (mkF m 46 #[.val (.ref a), .val (.int (0 : Int32)), .val (.int (0 : Int32)), .val (.int (g 0))] [(.int (3 : Int32)), (.int (0 : Int32))]))
      exact J0 _ (bo3 p3)
    · refine GoOn.step (fun t₀ k₀ => XS.icmpNo X147.here hx rfl (hb hby d4_38) rfl (flt p3).2.2.1 k₀) ?_
      show GoOn p e below _ (T147.setTop (mkF m 41 #[.val (.ref a), .val (.int (0 : Int32)), .val (.int (0 : Int32)), .val (.int (g 0))] [(.int (0 : Int32))]))
      refine GoOn.step (fun t₀ k₀ => XS.iconst X147.here hx rfl (hb hby d4_41) k₀) ?_
      show GoOn p e below _ (T147.setTop (mkF m 42 #[.val (.ref a), .val (.int (0 : Int32)), .val (.int (0 : Int32)), .val (.int (g 0))] [(.int (2 : Int32)), (.int (0 : Int32))]))
      refine GoOn.step (fun t₀ k₀ => XS.goto X147.here hx rfl (pc0 := 42) (pc' := 46) rfl (hb hby d4_42) (by decide) (by decide) k₀) ?_
      show GoOn p e below _ (T147.setTop (mkF m 46 #[.val (.ref a), .val (.int (0 : Int32)), .val (.int (0 : Int32)), .val (.int (g 0))] [(.int (2 : Int32)), (.int (0 : Int32))]))
      exact J0 _ (bo2 (Cg _).1 (Or.inl p1) p3)
  · refine GoOn.step (fun t₀ k₀ => XS.icmpNo X147.here hx rfl (hb hby d4_21) rfl (flt p1).1 k₀) ?_
    show GoOn p e below _ (T147.setTop (mkF m 24 #[.val (.ref a), .val (.int (0 : Int32)), .val (.int (0 : Int32)), .val (.int (g 0))] [(.int (0 : Int32))]))
    refine GoOn.step (fun t₀ k₀ => XS.iloadN X147.here hx rfl (hb hby d4_24) rfl k₀) ?_
    show GoOn p e below _ (T147.setTop (mkF m 25 #[.val (.ref a), .val (.int (0 : Int32)), .val (.int (0 : Int32)), .val (.int (g 0))] [(.int (g 0)), (.int (0 : Int32))]))
    refine GoOn.step (fun t₀ k₀ => XS.bipush X147.here hx rfl (hb hby d4_25) k₀) ?_
    show GoOn p e below _ (T147.setTop (mkF m 27 #[.val (.ref a), .val (.int (0 : Int32)), .val (.int (0 : Int32)), .val (.int (g 0))] [(.int (127 : Int32)), (.int (g 0)), (.int (0 : Int32))]))
    by_cases p2 : (127 : Int32) < (g 0)
    · refine GoOn.step (fun t₀ k₀ => XS.icmpYes X147.here hx rfl (pc0 := 27) (pc' := 34) rfl (hb hby d4_27) rfl (tlt p2).2.2.1 (by decide) (by decide) k₀) ?_
      show GoOn p e below _ (T147.setTop (mkF m 34 #[.val (.ref a), .val (.int (0 : Int32)), .val (.int (0 : Int32)), .val (.int (g 0))] [(.int (0 : Int32))]))
      refine GoOn.step (fun t₀ k₀ => XS.iloadN X147.here hx rfl (hb hby d4_34) rfl k₀) ?_
      show GoOn p e below _ (T147.setTop (mkF m 35 #[.val (.ref a), .val (.int (0 : Int32)), .val (.int (0 : Int32)), .val (.int (g 0))] [(.int (g 0)), (.int (0 : Int32))]))
      refine GoOn.step (fun t₀ k₀ => XS.sipush X147.here hx rfl (hb hby d4_35) k₀) ?_
      show GoOn p e below _ (T147.setTop (mkF m 38 #[.val (.ref a), .val (.int (0 : Int32)), .val (.int (0 : Int32)), .val (.int (g 0))] [(.int (2047 : Int32)), (.int (g 0)), (.int (0 : Int32))]))
      by_cases p3 : (2047 : Int32) < (g 0)
      · refine GoOn.step (fun t₀ k₀ => XS.icmpYes X147.here hx rfl (pc0 := 38) (pc' := 45) rfl (hb hby d4_38) rfl (tlt p3).2.2.1 (by decide) (by decide) k₀) ?_
        show GoOn p e below _ (T147.setTop (mkF m 45 #[.val (.ref a), .val (.int (0 : Int32)), .val (.int (0 : Int32)), .val (.int (g 0))] [(.int (0 : Int32))]))
        refine GoOn.step (fun t₀ k₀ => XS.iconst X147.here hx rfl (hb hby d4_45) k₀) ?_
        show GoOn p e below _ (T147.setTop (mkF m 46 #[.val (.ref a), .val (.int (0 : Int32)), .val (.int (0 : Int32)), .val (.int (g 0))] [(.int (3 : Int32)), (.int (0 : Int32))]))
        exact J0 _ (bo3 p3)
      · refine GoOn.step (fun t₀ k₀ => XS.icmpNo X147.here hx rfl (hb hby d4_38) rfl (flt p3).2.2.1 k₀) ?_
        show GoOn p e below _ (T147.setTop (mkF m 41 #[.val (.ref a), .val (.int (0 : Int32)), .val (.int (0 : Int32)), .val (.int (g 0))] [(.int (0 : Int32))]))
        refine GoOn.step (fun t₀ k₀ => XS.iconst X147.here hx rfl (hb hby d4_41) k₀) ?_
        show GoOn p e below _ (T147.setTop (mkF m 42 #[.val (.ref a), .val (.int (0 : Int32)), .val (.int (0 : Int32)), .val (.int (g 0))] [(.int (2 : Int32)), (.int (0 : Int32))]))
        refine GoOn.step (fun t₀ k₀ => XS.goto X147.here hx rfl (pc0 := 42) (pc' := 46) rfl (hb hby d4_42) (by decide) (by decide) k₀) ?_
        show GoOn p e below _ (T147.setTop (mkF m 46 #[.val (.ref a), .val (.int (0 : Int32)), .val (.int (0 : Int32)), .val (.int (g 0))] [(.int (2 : Int32)), (.int (0 : Int32))]))
        exact J0 _ (bo2 (Cg _).1 (Or.inr p2) p3)
    · refine GoOn.step (fun t₀ k₀ => XS.icmpNo X147.here hx rfl (hb hby d4_27) rfl (flt p2).2.2.1 k₀) ?_
      show GoOn p e below _ (T147.setTop (mkF m 30 #[.val (.ref a), .val (.int (0 : Int32)), .val (.int (0 : Int32)), .val (.int (g 0))] [(.int (0 : Int32))]))
      refine GoOn.step (fun t₀ k₀ => XS.iconst X147.here hx rfl (hb hby d4_30) k₀) ?_
      show GoOn p e below _ (T147.setTop (mkF m 31 #[.val (.ref a), .val (.int (0 : Int32)), .val (.int (0 : Int32)), .val (.int (g 0))] [(.int (1 : Int32)), (.int (0 : Int32))]))
      refine GoOn.step (fun t₀ k₀ => XS.goto X147.here hx rfl (pc0 := 31) (pc' := 46) rfl (hb hby d4_31) (by decide) (by decide) k₀) ?_
      show GoOn p e below _ (T147.setTop (mkF m 46 #[.val (.ref a), .val (.int (0 : Int32)), .val (.int (0 : Int32)), .val (.int (g 0))] [(.int (1 : Int32)), (.int (0 : Int32))]))
      exact J0 _ (bo1 p1 p2)
theorem ew_1 {Z : State} {a0 : Array Value} (hw : ∀ d ∈ tables_1, d.before a0 Z = true) : EW Z a0 consts_1 := EW.cons (text := "") (hw _ (List.mem_of_getElem? (i := 15) rfl)) (by simp) EW.nil
theorem ws_1 {Z : State} {a0 : Array Value} (hw : ∀ d ∈ tables_1, d.before a0 Z = true) : ∀ d ∈ Bundle.stringAtoms, d.before a0 Z = true := by
  intro d hd
  simp only [Bundle.stringAtoms, List.mem_cons, List.not_mem_nil, or_false] at hd
  rcases hd with rfl | rfl | rfl | rfl | rfl | rfl | rfl
  · exact (hw _ (List.mem_of_getElem? (i := 4) rfl))
  · exact (hw _ (List.mem_of_getElem? (i := 3) rfl))
  · exact (hw _ (List.mem_of_getElem? (i := 16) rfl))
  · exact (hw _ (List.mem_of_getElem? (i := 17) rfl))
  · exact (hw _ (List.mem_of_getElem? (i := 18) rfl))
  · exact (hw _ (List.mem_of_getElem? (i := 19) rfl))
  · exact (hw _ (List.mem_of_getElem? (i := 20) rfl))
theorem heldAll {Z s : State} {a0 : Array Value} {L : List (String × Nat)} {h : Heap} {a : Addr} (hZ : Z.Warmed39 s.vm) (w : EW Z a0 L) (H : CHv Z L s.vm h) (S : Safe Z L s.vm h a) (ha : a < h.size) {vm : Vm} (q : s.WarmedH vm) : CHv Z L vm h ∧ Safe Z L vm h a := by
  have A := CHv.later (h' := h) hZ (show (Wst Z s.vm h).Warmed39 vm from q.wide) w ⟨Nat.le_refl _, fun _ _ q => q⟩ (Or.inl q.interned_eq) H
  have B : CHr Z L s.vm h vm h := ⟨A.1, Nat.le_refl _, A.2⟩
  exact ⟨B.1, B.safe ha S⟩
theorem arv0 {Z : State} {h : Heap} {b : Addr} {k : ClassId} (A : Arv Z h b k .byte 0 [] (.int 0)) : ∃ f, Jar Z h b .byte 0 f := by
  obtain ⟨c, A1, -, A3, -⟩ := A
  exact ⟨fun _ => .null, c, A1, A3, fun i hi => absurd hi (Nat.not_lt_zero _)⟩
theorem ef_c_vd0 (m : MethodId) (x0 : Addr) (x1 : Addr) (x2 : Int32) (x3 : Int32) : entryFrame m #[(.ref x0), (.ref x1), (.int x2), (.int x3), .null] 6 = mkF m 0 #[.val (.ref x0), .val (.ref x1), .val (.int x2), .val (.int x3), .val .null, .unset] [] := by first | (simp [entryFrame, mkF, argsToLocals, Value.category]; done) | rfl
set_option maxRecDepth 65536 in
set_option maxHeartbeats 40000000 in
theorem c_vd0 (l : Launch) (Z : State) (a0 : Array Value) (hw : ∀ d ∈ tables_1, d.before a0 Z = true) (a ca : Addr) (g : Nat → Int32) (h0 : Heap) (n0 : Nat) (Z0 : n0 ≤ h0.size) (O : Old Z n0 h0) (Ex : Exa Z h0 a "java/lang/String") (Fv : Fld Z h0 a "java/lang/String" "value" "[B" .null) (Fc : Fld Z h0 a "java/lang/String" "coder" "B" (.int (0 : Int32))) (ga : n0 ≤ a) :
    ConS l Z (⟨"java/lang/String", "<init>", "([CIILjava/lang/Void;)V"⟩ : MethodName) jdk_42_method_149_code 6 none ({ frames := 1, cells := 2, slots := 4, locals := 20 } : Room) #[(.ref a), (.ref ca), (.int (0 : Int32)), (.int (0 : Int32)), .null] h0 (fun vm => CHv Z consts_1 vm h0 ∧ Safe Z consts_1 vm h0 a) (VdQ Z a 0 g h0 n0) := by
  refine ConS.intro (plainFor_of_name pn_1) ?_
  intro p e s m below meth c s₁ hx hby hml hrt hlk hZ hown hnm hPv X0 e0
  replace hown : s.vm.findClass "java/lang/String" = some m.cls := hown
  have N0 := Fr.nil n0
  refine GoOn.cast (ef_c_vd0 m a ca (0 : Int32) (0 : Int32)) ?_
  show GoOn p e below _ (s₁.setTop (mkF m 0 #[.val (.ref a), .val (.ref ca), .val (.int (0 : Int32)), .val (.int (0 : Int32)), .val .null, .unset] []))
  have K0 : Keep h0 h0 [a] := Keep.refl _ _
  refine GoOn.step (fun t₀ k₀ => XS.aloadN X0.here hx rfl (hb hby d2_0) rfl rfl k₀) ?_
  show GoOn p e below _ (s₁.setTop (mkF m 1 #[.val (.ref a), .val (.ref ca), .val (.int (0 : Int32)), .val (.int (0 : Int32)), .val .null, .unset] [(.ref a)]))
  obtain ⟨T156, X156, e156, st156⟩ := initO X0 hx hZ hown (hw _ (List.mem_of_getElem? (i := 12) rfl)) (hw _ (List.mem_of_getElem? (i := 13) rfl)) (hw _ (List.mem_of_getElem? (i := 14) rfl)) e0 (g := (mkF m 1 #[.val (.ref a), .val (.ref ca), .val (.int (0 : Int32)), .val (.int (0 : Int32)), .val .null, .unset] [(.ref a)])) rfl (by rw [hml]; rfl) rfl (hb hby d2_1) (by decide) (W := 0) (by show 2 * 0 + _ ≤ _; exact Nat.le_of_eq rfl) (by decide)
  refine GoOn.step st156 ?_
  show GoOn p e below _ (T156.setTop (mkF m 4 #[.val (.ref a), .val (.ref ca), .val (.int (0 : Int32)), .val (.int (0 : Int32)), .val .null, .unset] []))
  refine GoOn.step (fun t₀ k₀ => XS.iloadN X156.here hx rfl (hb hby d2_4) rfl k₀) ?_
  show GoOn p e below _ (T156.setTop (mkF m 5 #[.val (.ref a), .val (.ref ca), .val (.int (0 : Int32)), .val (.int (0 : Int32)), .val .null, .unset] [(.int (0 : Int32))]))
  have hf157 : (0 : Int32) = (0 : Int32) := rfl
  refine GoOn.step (fun t₀ k₀ => XS.ifNo X156.here hx rfl (hb hby d2_5) rfl ((if0 _ _).trans (teq hf157).2) k₀) ?_
  show GoOn p e below _ (T156.setTop (mkF m 8 #[.val (.ref a), .val (.ref ca), .val (.int (0 : Int32)), .val (.int (0 : Int32)), .val .null, .unset] []))
  refine GoOn.step (fun t₀ k₀ => XS.aloadN X156.here hx rfl (hb hby d2_8) rfl rfl k₀) ?_
  show GoOn p e below _ (T156.setTop (mkF m 9 #[.val (.ref a), .val (.ref ca), .val (.int (0 : Int32)), .val (.int (0 : Int32)), .val .null, .unset] [(.ref a)]))
  have ha := Ex.lt
  obtain ⟨la, T158, h158, k158, bb, kk, X158, e158, E158, hS158, hk158, hZ158, hO158, Exl, Fcl, Fvl, Al, hla, hbb, hC158, hL158, hne158, st158⟩ := ldcCH (s := s) (vm0 := s.vm) X156 hx hZ hown (hw _ (List.mem_of_getElem? (i := 15) rfl)) (ws_1 hw) e156 ((State.WarmedH.refl s).since h0.size) (Nat.le_refl _) (ew_1 hw) (by simp [consts_1]) hPv.1 (text := "") (vs := []) (z := 0) ⟨by simp, rfl⟩ (by decide) rfl (g := (mkF m 9 #[.val (.ref a), .val (.ref ca), .val (.int (0 : Int32)), .val (.int (0 : Int32)), .val .null, .unset] [(.ref a)])) rfl (hb hby d2_9) (n := 0) (by decide) (by decide) (by decide) (by decide)
  replace Ex := Ex.ext E158
  replace Fv := Fv.ext E158
  replace Fc := Fc.ext E158
  replace O := O.ext E158
  replace Z0 := Nat.le_trans Z0 E158.1
  replace K0 := K0.ext E158
  have hsf := hne158 a (hC158.safe ha hPv.2)
  obtain ⟨fl, Jl⟩ := arv0 Al
  replace hZ := hZ158
  replace hown := hO158
  refine GoOn.step st158 ?_
  show GoOn p e below _ (T158.setTop (mkF m 11 #[.val (.ref a), .val (.ref ca), .val (.int (0 : Int32)), .val (.int (0 : Int32)), .val .null, .unset] [(.ref la), (.ref a)]))
  obtain ⟨T159, X159, e159, st159⟩ := getF X158 hx hZ hown (host := "") (Or.inl (hw _ (List.mem_of_getElem? (i := 21) rfl))) Via.refl e158 Fvl (g := (mkF m 11 #[.val (.ref a), .val (.ref ca), .val (.int (0 : Int32)), .val (.int (0 : Int32)), .val .null, .unset] [(.ref la), (.ref a)])) rfl rfl (hb hby d2_11)
  refine GoOn.step st159 ?_
  show GoOn p e below _ (T159.setTop (mkF m 14 #[.val (.ref a), .val (.ref ca), .val (.int (0 : Int32)), .val (.int (0 : Int32)), .val .null, .unset] [(.ref bb), (.ref a)]))
  obtain ⟨T160, h160, X160, e160, W160, st160⟩ := putF X159 hx hZ hown (host := "") (Or.inl (hw _ (List.mem_of_getElem? (i := 21) rfl))) Via.refl e159 Fv Ex (Or.inr ⟨(hw _ (List.mem_of_getElem? (i := 17) rfl)), rfl, hnm⟩) (hw _ (List.mem_of_getElem? (i := 3) rfl)) (ty := (.array .byte)) (by decide) rfl rfl (g := (mkF m 14 #[.val (.ref a), .val (.ref ca), .val (.int (0 : Int32)), .val (.int (0 : Int32)), .val .null, .unset] [(.ref bb), (.ref a)])) rfl rfl (hb hby d2_14)
  replace N0 := Fr.snoc X160 N0 ga
  replace Ex := Ex.wr W160
  replace Fv := Fld.same W160 Fv
  replace Fc := Fc.other W160 (Or.inr (slot_ne (Or.inr (hw _ (List.mem_of_getElem? (i := 18) rfl))) (Or.inr (hw _ (List.mem_of_getElem? (i := 17) rfl))) (by decide) (t := .byte) (t' := (.array .byte)) (by decide) (by decide)))
  replace Exl := Exl.wr W160
  replace Fcl := Fcl.other W160 (Or.inl (Ne.symm hsf.1))
  replace Fvl := Fvl.other W160 (Or.inl (Ne.symm hsf.1))
  replace Jl := Jl.other W160 (Ne.symm hsf.2)
  replace O := O.wr W160 ga
  replace hk158 := Nat.le_trans hk158 (Nat.le_of_eq W160.size.symm)
  replace Z0 := Nat.le_trans Z0 (Nat.le_of_eq W160.size.symm)
  replace K0 := K0.wr W160 (Or.inl (by simp))
  refine GoOn.step st160 ?_
  show GoOn p e below _ (T160.setTop (mkF m 17 #[.val (.ref a), .val (.ref ca), .val (.int (0 : Int32)), .val (.int (0 : Int32)), .val .null, .unset] []))
  refine GoOn.step (fun t₀ k₀ => XS.aloadN X160.here hx rfl (hb hby d2_17) rfl rfl k₀) ?_
  show GoOn p e below _ (T160.setTop (mkF m 18 #[.val (.ref a), .val (.ref ca), .val (.int (0 : Int32)), .val (.int (0 : Int32)), .val .null, .unset] [(.ref a)]))
  refine GoOn.step (fun t₀ k₀ => ldcAgain (s := s) (vm0 := T158.vm) X160 hx hZ hown (hw _ (List.mem_of_getElem? (i := 15) rfl)) (a := la) hL158 (g := (mkF m 18 #[.val (.ref a), .val (.ref ca), .val (.int (0 : Int32)), .val (.int (0 : Int32)), .val .null, .unset] [(.ref a)])) rfl (hb hby d2_18) t₀ k₀) ?_
  show GoOn p e below _ (T160.setTop (mkF m 20 #[.val (.ref a), .val (.ref ca), .val (.int (0 : Int32)), .val (.int (0 : Int32)), .val .null, .unset] [(.ref la), (.ref a)]))
  obtain ⟨T161, X161, e161, st161⟩ := getF X160 hx hZ hown (host := "") (Or.inl (hw _ (List.mem_of_getElem? (i := 22) rfl))) Via.refl e160 Fcl (g := (mkF m 20 #[.val (.ref a), .val (.ref ca), .val (.int (0 : Int32)), .val (.int (0 : Int32)), .val .null, .unset] [(.ref la), (.ref a)])) rfl rfl (hb hby d2_20)
  refine GoOn.step st161 ?_
  show GoOn p e below _ (T161.setTop (mkF m 23 #[.val (.ref a), .val (.ref ca), .val (.int (0 : Int32)), .val (.int (0 : Int32)), .val .null, .unset] [(.int (0 : Int32)), (.ref a)]))
  obtain ⟨T162, h162, X162, e162, W162, st162⟩ := putFN X161 hx hZ hown (hw _ (List.mem_of_getElem? (i := 22) rfl)) Via.refl e161 Fc Ex (Or.inr ⟨(hw _ (List.mem_of_getElem? (i := 18) rfl)), rfl, hnm⟩) (hw _ (List.mem_of_getElem? (i := 3) rfl)) (ty := .byte) (v' := .int (nar .byte (0 : Int32))) (by decide) rfl (fits_nar_byte _) (g := (mkF m 23 #[.val (.ref a), .val (.ref ca), .val (.int (0 : Int32)), .val (.int (0 : Int32)), .val .null, .unset] [(.int (0 : Int32)), (.ref a)])) rfl rfl (hb hby d2_23)
  replace N0 := Fr.snoc X162 N0 ga
  replace Ex := Ex.wr W162
  replace Fv := Fv.other W162 (Or.inr (slot_ne (Or.inr (hw _ (List.mem_of_getElem? (i := 17) rfl))) (Or.inr (hw _ (List.mem_of_getElem? (i := 18) rfl))) (by decide) (t := (.array .byte)) (t' := .byte) (by decide) (by decide)))
  replace Fc := Fld.same W162 Fc
  replace Exl := Exl.wr W162
  replace Fcl := Fcl.other W162 (Or.inl (Ne.symm hsf.1))
  replace Fvl := Fvl.other W162 (Or.inl (Ne.symm hsf.1))
  replace Jl := Jl.other W162 (Ne.symm hsf.2)
  replace O := O.wr W162 ga
  replace hk158 := Nat.le_trans hk158 (Nat.le_of_eq W162.size.symm)
  replace Z0 := Nat.le_trans Z0 (Nat.le_of_eq W162.size.symm)
  replace K0 := K0.wr W162 (Or.inl (by simp))
  refine GoOn.step st162 ?_
  show GoOn p e below _ (T162.setTop (mkF m 26 #[.val (.ref a), .val (.ref ca), .val (.int (0 : Int32)), .val (.int (0 : Int32)), .val .null, .unset] []))
  exact GoOn.ret0S X162 hS158 (by rw [e162]; exact hk158) hx hrt hlk (hb hby d2_26) (by decide) (by decide) (by first | exact ⟨rfl, N0, K0, Ex, bb, _, 0, fl, Fv, Fc, Jl, Or.inl ⟨rfl, rfl, fun i hi => absurd hi (Nat.not_lt_zero _)⟩⟩ | (rw [e162]; exact ⟨rfl, N0, K0, Ex, bb, _, 0, fl, Fv, Fc, Jl, Or.inl ⟨rfl, rfl, fun i hi => absurd hi (Nat.not_lt_zero _)⟩⟩))
theorem ef_c_in0 (m : MethodId) (x0 : Addr) (x1 : Addr) : entryFrame m #[(.ref x0), (.ref x1)] 2 = mkF m 0 #[.val (.ref x0), .val (.ref x1)] [] := by first | (simp [entryFrame, mkF, argsToLocals, Value.category]; done) | rfl
set_option maxRecDepth 65536 in
set_option maxHeartbeats 40000000 in
theorem c_in0 (l : Launch) (Z : State) (a0 : Array Value) (hw : ∀ d ∈ tables_1, d.before a0 Z = true) (a ca : Addr) (g : Nat → Int32) (h0 : Heap) (n0 : Nat) (Z0 : n0 ≤ h0.size) (O : Old Z n0 h0) (Ex : Exa Z h0 a "java/lang/String") (Fv : Fld Z h0 a "java/lang/String" "value" "[B" .null) (Fc : Fld Z h0 a "java/lang/String" "coder" "B" (.int (0 : Int32))) (ga : n0 ≤ a) (Jc : Jar Z h0 ca .char 0 (fun i => .int (g i))) :
    ConS l Z (⟨"java/lang/String", "<init>", "([C)V"⟩ : MethodName) jdk_42_method_3_code 2 none ({ frames := 2, cells := 2, slots := 4, locals := 40 } : Room) #[(.ref a), (.ref ca)] h0 (fun vm => CHv Z consts_1 vm h0 ∧ Safe Z consts_1 vm h0 a) (VdQ Z a 0 g h0 n0) := by
  refine ConS.intro (plainFor_of_name pn_1) ?_
  intro p e s m below meth c s₁ hx hby hml hrt hlk hZ hown hnm hPv X0 e0
  replace hown : s.vm.findClass "java/lang/String" = some m.cls := hown
  have N0 := Fr.nil n0
  refine GoOn.cast (ef_c_in0 m a ca) ?_
  show GoOn p e below _ (s₁.setTop (mkF m 0 #[.val (.ref a), .val (.ref ca)] []))
  have K0 : Keep h0 h0 [a] := Keep.refl _ _
  refine GoOn.step (fun t₀ k₀ => XS.aloadN X0.here hx rfl (hb hby d1_0) rfl rfl k₀) ?_
  show GoOn p e below _ (s₁.setTop (mkF m 1 #[.val (.ref a), .val (.ref ca)] [(.ref a)]))
  refine GoOn.step (fun t₀ k₀ => XS.aloadN X0.here hx rfl (hb hby d1_1) rfl rfl k₀) ?_
  show GoOn p e below _ (s₁.setTop (mkF m 2 #[.val (.ref a), .val (.ref ca)] [(.ref ca), (.ref a)]))
  refine GoOn.step (fun t₀ k₀ => XS.iconst X0.here hx rfl (hb hby d1_2) k₀) ?_
  show GoOn p e below _ (s₁.setTop (mkF m 3 #[.val (.ref a), .val (.ref ca)] [(.int (0 : Int32)), (.ref ca), (.ref a)]))
  refine GoOn.step (fun t₀ k₀ => XS.aloadN X0.here hx rfl (hb hby d1_3) rfl rfl k₀) ?_
  show GoOn p e below _ (s₁.setTop (mkF m 4 #[.val (.ref a), .val (.ref ca)] [(.ref ca), (.int (0 : Int32)), (.ref ca), (.ref a)]))
  refine GoOn.step (fun t₀ k₀ => kLen X0 hx hZ e0 Jc (z := (0 : Int32)) rfl (g := (mkF m 4 #[.val (.ref a), .val (.ref ca)] [(.ref ca), (.int (0 : Int32)), (.ref ca), (.ref a)])) rfl rfl (hb hby d1_4) t₀ k₀) ?_
  show GoOn p e below _ (s₁.setTop (mkF m 5 #[.val (.ref a), .val (.ref ca)] [(.int (0 : Int32)), (.int (0 : Int32)), (.ref ca), (.ref a)]))
  refine GoOn.step (fun t₀ k₀ => XS.aconstNull X0.here hx rfl (hb hby d1_5) k₀) ?_
  show GoOn p e below _ (s₁.setTop (mkF m 6 #[.val (.ref a), .val (.ref ca)] [.null, (.int (0 : Int32)), (.int (0 : Int32)), (.ref ca), (.ref a)]))
  obtain ⟨_, T163, L163, X163, hQ163, hS163, hZ163, hO163, st163⟩ := kCallIS X0 hx hZ (a := a) (argsL := [(.ref ca), (.int (0 : Int32)), (.int (0 : Int32)), .null]) (rest := []) (c_vd0 l Z a0 hw a ca g h0 n0 Z0 O Ex Fv Fc ga) (fun vm q => heldAll hZ (ew_1 hw) hPv.1 hPv.2 Ex.lt q) rfl hown (hw _ (List.mem_of_getElem? (i := 8) rfl)) (hw _ (List.mem_of_getElem? (i := 9) rfl)) (hw _ (List.mem_of_getElem? (i := 4) rfl)) (hw _ (List.mem_of_getElem? (i := 11) rfl)) (by decide) e0 (g := (mkF m 6 #[.val (.ref a), .val (.ref ca)] [.null, (.int (0 : Int32)), (.int (0 : Int32)), (.ref ca), (.ref a)])) rfl (by rw [hml]; rfl) (lenOf pd_13 rfl) rfl (W := 0) (by show 2 * 0 + _ ≤ _; exact Nat.le_of_eq rfl) (hb hby d1_6) (by decide) (by decide) (by decide) (by decide)
  have hk163 : T163.heap.size ≤ T163.heap.size := Nat.le_refl _
  replace hZ := hZ163
  replace hown := hO163
  obtain ⟨rfl, N163, K163, SO⟩ := hQ163
  replace N0 := Fr.app N0 N163
  replace K0 := K0.trans K163 (allS (Or.inl (by simp)) all0)
  refine GoOn.step st163 ?_
  show GoOn p e below _ (T163.setTop (mkF m 9 #[.val (.ref a), .val (.ref ca)] []))
  exact GoOn.ret0S X163 hS163 hk163 hx hrt hlk (hb hby d1_9) (by decide) (by decide) ⟨rfl, N0, K0, SO⟩
def gg (x y z : Int32) : Nat → Int32 := fun i => if i = 0 then x else if i = 1 then y else z
theorem gg_chr {x y z : Int32} (hx : 0 ≤ x.toInt ∧ x.toInt < 65536) (hy : 0 ≤ y.toInt ∧ y.toInt < 65536) (hz : 0 ≤ z.toInt ∧ z.toInt < 65536) : Chr (gg x y z) := fun i => by
  unfold gg; split
  · exact hx
  · split
    · exact hy
    · exact hz
theorem jc1 {Z : State} {h : Heap} {a : Addr} {f : Nat → Value} {g : Nat → Int32} (J : Jar Z h a .char 1 f) (h0 : f 0 = .int (g 0)) : Jar Z h a .char 1 (fun i => .int (g i)) := J.congr fun i hi => K1 (P := fun i => f i = .int (g i)) h0 hi
theorem jc2 {Z : State} {h : Heap} {a : Addr} {f : Nat → Value} {g : Nat → Int32} (J : Jar Z h a .char 2 f) (h0 : f 0 = .int (g 0)) (h1 : f 1 = .int (g 1)) : Jar Z h a .char 2 (fun i => .int (g i)) := J.congr fun i hi => K2 (P := fun i => f i = .int (g i)) h0 h1 hi
theorem jc3 {Z : State} {h : Heap} {a : Addr} {f : Nat → Value} {g : Nat → Int32} (J : Jar Z h a .char 3 f) (h0 : f 0 = .int (g 0)) (h1 : f 1 = .int (g 1)) (h2 : f 2 = .int (g 2)) : Jar Z h a .char 3 (fun i => .int (g i)) := J.congr fun i hi => K3 (P := fun i => f i = .int (g i)) h0 h1 h2 hi
theorem jc0 {Z : State} {h : Heap} {a : Addr} {f : Nat → Value} {g : Nat → Int32} (J : Jar Z h a .char 0 f) : Jar Z h a .char 0 (fun i => .int (g i)) := J.congr fun i hi => absurd hi (Nat.not_lt_zero _)
theorem ef_law_ok (m : MethodId) (x0 : Int32) (x1 : Int32) (x2 : Int32) (x3 : Int32) : entryFrame m #[(.int x0), (.int x1), (.int x2), (.int x3)] maxLocals = mkF m 0 #[.val (.int x0), .val (.int x1), .val (.int x2), .val (.int x3), .unset, .unset, .unset, .unset, .unset, .unset] [] := by first | (simp [entryFrame, mkF, argsToLocals, Value.category, maxLocals]; done) | rfl
set_option maxRecDepth 65536 in
set_option maxHeartbeats 40000000 in
theorem law_ok (l : Launch) (Z : State) (a0 : Array Value) (hw : ∀ d ∈ tables_1, d.before a0 Z = true) (q0 q1 q2 q3 : Int32) (cs : Int32) (fv : Value) (h0 : Heap) (n0 : Nat) (Z0 : n0 ≤ h0.size) (O : Old Z n0 h0) (SS : Stt Z cs fv) :
    ConS l Z x code maxLocals ret room_1 #[(.int q0), (.int q1), (.int q2), (.int q3)] h0 (fun vm => CHv Z consts_1 vm h0) (LQ n0) := by
  refine ConS.intro (plainFor_of_name pn_0) ?_
  intro p e s m below meth c s₁ hx hby hml hrt hlk hZ hown hnm hPv X0 e0
  replace hown : s.vm.findClass "com/example/lanthorn/lanthorn/core/ModifiedUtf8LengthPinLaw" = some m.cls := hown
  have N0 := Fr.nil n0
  refine GoOn.cast (ef_law_ok m q0 q1 q2 q3) ?_
  show GoOn p e below _ (s₁.setTop (mkF m 0 #[.val (.int q0), .val (.int q1), .val (.int q2), .val (.int q3), .unset, .unset, .unset, .unset, .unset, .unset] []))
  refine GoOn.step (fun t₀ k₀ => XS.iloadN X0.here hx rfl (hb hby at_0) rfl k₀) ?_
  show GoOn p e below _ (s₁.setTop (mkF m 1 #[.val (.int q0), .val (.int q1), .val (.int q2), .val (.int q3), .unset, .unset, .unset, .unset, .unset, .unset] [(.int q0)]))
  refine GoOn.step (fun t₀ k₀ => XS.iconst X0.here hx rfl (hb hby at_1) k₀) ?_
  show GoOn p e below _ (s₁.setTop (mkF m 2 #[.val (.int q0), .val (.int q1), .val (.int q2), .val (.int q3), .unset, .unset, .unset, .unset, .unset, .unset] [(.int (3 : Int32)), (.int q0)]))
  refine GoOn.step (fun t₀ k₀ => XS.iand X0.here hx rfl (hb hby at_2) rfl k₀) ?_
  show GoOn p e below _ (s₁.setTop (mkF m 3 #[.val (.int q0), .val (.int q1), .val (.int q2), .val (.int q3), .unset, .unset, .unset, .unset, .unset, .unset] [(.int (q0 &&& (3 : Int32)))]))
  refine GoOn.step (fun t₀ k₀ => XS.istore X0.here hx rfl (hb hby at_3) rfl (l' := #[.val (.int q0), .val (.int q1), .val (.int q2), .val (.int q3), .val (.int (q0 &&& (3 : Int32))), .unset, .unset, .unset, .unset, .unset]) rfl k₀) ?_
  show GoOn p e below _ (s₁.setTop (mkF m 5 #[.val (.int q0), .val (.int q1), .val (.int q2), .val (.int q3), .val (.int (q0 &&& (3 : Int32))), .unset, .unset, .unset, .unset, .unset] []))
  refine GoOn.step (fun t₀ k₀ => XS.iloadN X0.here hx rfl (hb hby at_5) rfl k₀) ?_
  show GoOn p e below _ (s₁.setTop (mkF m 6 #[.val (.int q0), .val (.int q1), .val (.int q2), .val (.int q3), .val (.int (q0 &&& (3 : Int32))), .unset, .unset, .unset, .unset, .unset] [(.int q1)]))
  refine GoOn.step (fun t₀ k₀ => X0.ldcInt hx hown (mvT hZ (hw _ (List.mem_of_getElem? (i := 0) rfl))) (g := (mkF m 6 #[.val (.int q0), .val (.int q1), .val (.int q2), .val (.int q3), .val (.int (q0 &&& (3 : Int32))), .unset, .unset, .unset, .unset, .unset] [(.int q1)])) rfl (hb hby at_6) t₀ k₀) ?_
  show GoOn p e below _ (s₁.setTop (mkF m 8 #[.val (.int q0), .val (.int q1), .val (.int q2), .val (.int q3), .val (.int (q0 &&& (3 : Int32))), .unset, .unset, .unset, .unset, .unset] [(.int (65535 : Int32)), (.int q1)]))
  refine GoOn.step (fun t₀ k₀ => XS.iand X0.here hx rfl (hb hby at_8) rfl k₀) ?_
  show GoOn p e below _ (s₁.setTop (mkF m 9 #[.val (.int q0), .val (.int q1), .val (.int q2), .val (.int q3), .val (.int (q0 &&& (3 : Int32))), .unset, .unset, .unset, .unset, .unset] [(.int (q1 &&& (65535 : Int32)))]))
  refine GoOn.step (fun t₀ k₀ => XS.i2c X0.here hx rfl (hb hby at_9) rfl k₀) ?_
  show GoOn p e below _ (s₁.setTop (mkF m 10 #[.val (.int q0), .val (.int q1), .val (.int q2), .val (.int q3), .val (.int (q0 &&& (3 : Int32))), .unset, .unset, .unset, .unset, .unset] [(.int ((q1 &&& (65535 : Int32)).toUInt32.toUInt16.toUInt32.toInt32))]))
  have b_x : 0 ≤ ((q1 &&& (65535 : Int32)).toUInt32.toUInt16.toUInt32.toInt32).toInt ∧ ((q1 &&& (65535 : Int32)).toUInt32.toUInt16.toUInt32.toInt32).toInt < 65536 := ⟨(c_i2c _).2.1, (c_i2c _).2.2⟩
  generalize h_x : ((q1 &&& (65535 : Int32)).toUInt32.toUInt16.toUInt32.toInt32) = x
  have h_xI := congrArg Int32.toInt h_x
  rw [h_x] at b_x
  refine GoOn.step (fun t₀ k₀ => XS.istore X0.here hx rfl (hb hby at_10) rfl (l' := #[.val (.int q0), .val (.int q1), .val (.int q2), .val (.int q3), .val (.int (q0 &&& (3 : Int32))), .val (.int x), .unset, .unset, .unset, .unset]) rfl k₀) ?_
  show GoOn p e below _ (s₁.setTop (mkF m 12 #[.val (.int q0), .val (.int q1), .val (.int q2), .val (.int q3), .val (.int (q0 &&& (3 : Int32))), .val (.int x), .unset, .unset, .unset, .unset] []))
  refine GoOn.step (fun t₀ k₀ => XS.iloadN X0.here hx rfl (hb hby at_12) rfl k₀) ?_
  show GoOn p e below _ (s₁.setTop (mkF m 13 #[.val (.int q0), .val (.int q1), .val (.int q2), .val (.int q3), .val (.int (q0 &&& (3 : Int32))), .val (.int x), .unset, .unset, .unset, .unset] [(.int q2)]))
  refine GoOn.step (fun t₀ k₀ => X0.ldcInt hx hown (mvT hZ (hw _ (List.mem_of_getElem? (i := 0) rfl))) (g := (mkF m 13 #[.val (.int q0), .val (.int q1), .val (.int q2), .val (.int q3), .val (.int (q0 &&& (3 : Int32))), .val (.int x), .unset, .unset, .unset, .unset] [(.int q2)])) rfl (hb hby at_13) t₀ k₀) ?_
  show GoOn p e below _ (s₁.setTop (mkF m 15 #[.val (.int q0), .val (.int q1), .val (.int q2), .val (.int q3), .val (.int (q0 &&& (3 : Int32))), .val (.int x), .unset, .unset, .unset, .unset] [(.int (65535 : Int32)), (.int q2)]))
  refine GoOn.step (fun t₀ k₀ => XS.iand X0.here hx rfl (hb hby at_15) rfl k₀) ?_
  show GoOn p e below _ (s₁.setTop (mkF m 16 #[.val (.int q0), .val (.int q1), .val (.int q2), .val (.int q3), .val (.int (q0 &&& (3 : Int32))), .val (.int x), .unset, .unset, .unset, .unset] [(.int (q2 &&& (65535 : Int32)))]))
  refine GoOn.step (fun t₀ k₀ => XS.i2c X0.here hx rfl (hb hby at_16) rfl k₀) ?_
  show GoOn p e below _ (s₁.setTop (mkF m 17 #[.val (.int q0), .val (.int q1), .val (.int q2), .val (.int q3), .val (.int (q0 &&& (3 : Int32))), .val (.int x), .unset, .unset, .unset, .unset] [(.int ((q2 &&& (65535 : Int32)).toUInt32.toUInt16.toUInt32.toInt32))]))
  have b_y : 0 ≤ ((q2 &&& (65535 : Int32)).toUInt32.toUInt16.toUInt32.toInt32).toInt ∧ ((q2 &&& (65535 : Int32)).toUInt32.toUInt16.toUInt32.toInt32).toInt < 65536 := ⟨(c_i2c _).2.1, (c_i2c _).2.2⟩
  generalize h_y : ((q2 &&& (65535 : Int32)).toUInt32.toUInt16.toUInt32.toInt32) = y
  have h_yI := congrArg Int32.toInt h_y
  rw [h_y] at b_y
  refine GoOn.step (fun t₀ k₀ => XS.istore X0.here hx rfl (hb hby at_17) rfl (l' := #[.val (.int q0), .val (.int q1), .val (.int q2), .val (.int q3), .val (.int (q0 &&& (3 : Int32))), .val (.int x), .val (.int y), .unset, .unset, .unset]) rfl k₀) ?_
  show GoOn p e below _ (s₁.setTop (mkF m 19 #[.val (.int q0), .val (.int q1), .val (.int q2), .val (.int q3), .val (.int (q0 &&& (3 : Int32))), .val (.int x), .val (.int y), .unset, .unset, .unset] []))
  refine GoOn.step (fun t₀ k₀ => XS.iloadN X0.here hx rfl (hb hby at_19) rfl k₀) ?_
  show GoOn p e below _ (s₁.setTop (mkF m 20 #[.val (.int q0), .val (.int q1), .val (.int q2), .val (.int q3), .val (.int (q0 &&& (3 : Int32))), .val (.int x), .val (.int y), .unset, .unset, .unset] [(.int q3)]))
  refine GoOn.step (fun t₀ k₀ => X0.ldcInt hx hown (mvT hZ (hw _ (List.mem_of_getElem? (i := 0) rfl))) (g := (mkF m 20 #[.val (.int q0), .val (.int q1), .val (.int q2), .val (.int q3), .val (.int (q0 &&& (3 : Int32))), .val (.int x), .val (.int y), .unset, .unset, .unset] [(.int q3)])) rfl (hb hby at_20) t₀ k₀) ?_
  show GoOn p e below _ (s₁.setTop (mkF m 22 #[.val (.int q0), .val (.int q1), .val (.int q2), .val (.int q3), .val (.int (q0 &&& (3 : Int32))), .val (.int x), .val (.int y), .unset, .unset, .unset] [(.int (65535 : Int32)), (.int q3)]))
  refine GoOn.step (fun t₀ k₀ => XS.iand X0.here hx rfl (hb hby at_22) rfl k₀) ?_
  show GoOn p e below _ (s₁.setTop (mkF m 23 #[.val (.int q0), .val (.int q1), .val (.int q2), .val (.int q3), .val (.int (q0 &&& (3 : Int32))), .val (.int x), .val (.int y), .unset, .unset, .unset] [(.int (q3 &&& (65535 : Int32)))]))
  refine GoOn.step (fun t₀ k₀ => XS.i2c X0.here hx rfl (hb hby at_23) rfl k₀) ?_
  show GoOn p e below _ (s₁.setTop (mkF m 24 #[.val (.int q0), .val (.int q1), .val (.int q2), .val (.int q3), .val (.int (q0 &&& (3 : Int32))), .val (.int x), .val (.int y), .unset, .unset, .unset] [(.int ((q3 &&& (65535 : Int32)).toUInt32.toUInt16.toUInt32.toInt32))]))
  have b_z : 0 ≤ ((q3 &&& (65535 : Int32)).toUInt32.toUInt16.toUInt32.toInt32).toInt ∧ ((q3 &&& (65535 : Int32)).toUInt32.toUInt16.toUInt32.toInt32).toInt < 65536 := ⟨(c_i2c _).2.1, (c_i2c _).2.2⟩
  generalize h_z : ((q3 &&& (65535 : Int32)).toUInt32.toUInt16.toUInt32.toInt32) = z
  have h_zI := congrArg Int32.toInt h_z
  rw [h_z] at b_z
  have Cg := gg_chr b_x b_y b_z
  refine GoOn.step (fun t₀ k₀ => XS.istore X0.here hx rfl (hb hby at_24) rfl (l' := #[.val (.int q0), .val (.int q1), .val (.int q2), .val (.int q3), .val (.int (q0 &&& (3 : Int32))), .val (.int x), .val (.int y), .val (.int z), .unset, .unset]) rfl k₀) ?_
  show GoOn p e below _ (s₁.setTop (mkF m 26 #[.val (.int q0), .val (.int q1), .val (.int q2), .val (.int q3), .val (.int (q0 &&& (3 : Int32))), .val (.int x), .val (.int y), .val (.int z), .unset, .unset] []))
  refine GoOn.step (fun t₀ k₀ => XS.iload X0.here hx rfl (hb hby at_26) rfl k₀) ?_
  show GoOn p e below _ (s₁.setTop (mkF m 28 #[.val (.int q0), .val (.int q1), .val (.int q2), .val (.int q3), .val (.int (q0 &&& (3 : Int32))), .val (.int x), .val (.int y), .val (.int z), .unset, .unset] [(.int (q0 &&& (3 : Int32)))]))
  by_cases f0 : (q0 &&& (3 : Int32)) = (0 : Int32)
  · refine GoOn.step (fun t₀ k₀ => XS.ifNo X0.here hx rfl (hb hby at_28) rfl ((if0 _ _).trans (teq f0).2) k₀) ?_
    show GoOn p e below _ (s₁.setTop (mkF m 31 #[.val (.int q0), .val (.int q1), .val (.int q2), .val (.int q3), .val (.int (q0 &&& (3 : Int32))), .val (.int x), .val (.int y), .val (.int z), .unset, .unset] []))
    refine GoOn.step (fun t₀ k₀ => XS.iconst X0.here hx rfl (hb hby at_31) k₀) ?_
    show GoOn p e below _ (s₁.setTop (mkF m 32 #[.val (.int q0), .val (.int q1), .val (.int q2), .val (.int q3), .val (.int (q0 &&& (3 : Int32))), .val (.int x), .val (.int y), .val (.int z), .unset, .unset] [(.int (0 : Int32))]))
    obtain ⟨T164, h164, k164, X164, e164, E164, A164, st164⟩ := newP X0 hx hZ (hw _ (List.mem_of_getElem? (i := 1) rfl)) e0 (g := (mkF m 32 #[.val (.int q0), .val (.int q1), .val (.int q2), .val (.int q3), .val (.int (q0 &&& (3 : Int32))), .val (.int x), .val (.int y), .val (.int z), .unset, .unset] [(.int (0 : Int32))])) rfl (hb hby at_32) rfl (by decide) (cap := 0) (by decide) (by decide) (by decide) (by decide)
    obtain ⟨ca, g164⟩ : ∃ z, z = h0.size := ⟨_, rfl⟩
    rw [← g164] at A164 st164
    have le_ca : n0 ≤ ca := by rw [g164]; exact Z0
    replace O := O.ext E164
    replace Z0 := Nat.le_trans Z0 E164.1
    have J_ca : Jar Z h164 ca .char 0 (fun _ => defaultValue .char) := Jar.new A164 (by decide)
    refine GoOn.step st164 ?_
    show GoOn p e below _ (T164.setTop (mkF m 34 #[.val (.int q0), .val (.int q1), .val (.int q2), .val (.int q3), .val (.int (q0 &&& (3 : Int32))), .val (.int x), .val (.int y), .val (.int z), .unset, .unset] [(.ref ca)]))
    refine GoOn.step (fun t₀ k₀ => XS.astore X164.here hx rfl (hb hby at_34) rfl rfl (l' := #[.val (.int q0), .val (.int q1), .val (.int q2), .val (.int q3), .val (.int (q0 &&& (3 : Int32))), .val (.int x), .val (.int y), .val (.int z), .val (.ref ca), .unset]) rfl k₀) ?_
    show GoOn p e below _ (T164.setTop (mkF m 36 #[.val (.int q0), .val (.int q1), .val (.int q2), .val (.int q3), .val (.int (q0 &&& (3 : Int32))), .val (.int x), .val (.int y), .val (.int z), .val (.ref ca), .unset] []))
    refine GoOn.step (fun t₀ k₀ => XS.iconst X164.here hx rfl (hb hby at_36) k₀) ?_
    show GoOn p e below _ (T164.setTop (mkF m 37 #[.val (.int q0), .val (.int q1), .val (.int q2), .val (.int q3), .val (.int (q0 &&& (3 : Int32))), .val (.int x), .val (.int y), .val (.int z), .val (.ref ca), .unset] [(.int (0 : Int32))]))
    refine GoOn.step (fun t₀ k₀ => XS.istore X164.here hx rfl (hb hby at_37) rfl (l' := #[.val (.int q0), .val (.int q1), .val (.int q2), .val (.int q3), .val (.int (q0 &&& (3 : Int32))), .val (.int x), .val (.int y), .val (.int z), .val (.ref ca), .val (.int (0 : Int32))]) rfl k₀) ?_
    show GoOn p e below _ (T164.setTop (mkF m 39 #[.val (.int q0), .val (.int q1), .val (.int q2), .val (.int q3), .val (.int (q0 &&& (3 : Int32))), .val (.int x), .val (.int y), .val (.int z), .val (.ref ca), .val (.int (0 : Int32))] []))
    refine GoOn.step (fun t₀ k₀ => XS.goto X164.here hx rfl (pc0 := 39) (pc' := 144) rfl (hb hby at_39) (by decide) (by decide) k₀) ?_
    show GoOn p e below _ (T164.setTop (mkF m 144 #[.val (.int q0), .val (.int q1), .val (.int q2), .val (.int q3), .val (.int (q0 &&& (3 : Int32))), .val (.int x), .val (.int y), .val (.int z), .val (.ref ca), .val (.int (0 : Int32))] []))
    have Jc : Jar Z h164 ca .char 0 (fun i => .int ((gg x y z) i)) := jc0 J_ca 
    replace hPv := hPv.ext E164
    obtain ⟨T165, h165, X165, e165, E165, A165, D165, -, st165⟩ := newO X164 hx hZ hown (hw _ (List.mem_of_getElem? (i := 2) rfl)) (hw _ (List.mem_of_getElem? (i := 3) rfl)) (hw _ (List.mem_of_getElem? (i := 4) rfl)) e164 (g := (mkF m 144 #[.val (.int q0), .val (.int q1), .val (.int q2), .val (.int q3), .val (.int (q0 &&& (3 : Int32))), .val (.int x), .val (.int y), .val (.int z), .val (.ref ca), .val (.int (0 : Int32))] [])) rfl (hb hby at_144) (by decide) (by decide)
    obtain ⟨st, g165⟩ : ∃ z, z = h164.size := ⟨_, rfl⟩
    rw [← g165] at A165 D165 st165
    have lt_ca_st : ca < st := by rw [g165]; exact Jc.lt
    have ne_ca_st : ca ≠ st := Nat.ne_of_lt lt_ca_st
    have le_st : n0 ≤ st := by rw [g165]; exact Z0
    replace Jc := Jc.ext E165
    replace O := O.ext E165
    replace Z0 := Nat.le_trans Z0 E165.1
    have Ex_st : Exa Z h165 st "java/lang/String" := A165
    have F_value_st : Fld Z h165 st "java/lang/String" "value" "[B" .null := D165 (Or.inr (hw _ (List.mem_of_getElem? (i := 17) rfl))) (ty := (.array .byte)) (by decide)
    have F_coder_st : Fld Z h165 st "java/lang/String" "coder" "B" (.int (0 : Int32)) := D165 (Or.inr (hw _ (List.mem_of_getElem? (i := 18) rfl))) (ty := .byte) (by decide)
    refine GoOn.step st165 ?_
    show GoOn p e below _ (T165.setTop (mkF m 147 #[.val (.int q0), .val (.int q1), .val (.int q2), .val (.int q3), .val (.int (q0 &&& (3 : Int32))), .val (.int x), .val (.int y), .val (.int z), .val (.ref ca), .val (.int (0 : Int32))] [(.ref st)]))
    have Ss := Safe.ext E165 hPv (Safe.new (EL := consts_1) (Z := Z) (vm := s.vm) (Nat.le_of_eq g165.symm))
    replace hPv := hPv.ext E165
    refine GoOn.step (fun t₀ k₀ => XS.dup X165.here hx rfl (hb hby at_147) rfl rfl k₀) ?_
    show GoOn p e below _ (T165.setTop (mkF m 148 #[.val (.int q0), .val (.int q1), .val (.int q2), .val (.int q3), .val (.int (q0 &&& (3 : Int32))), .val (.int x), .val (.int y), .val (.int z), .val (.ref ca), .val (.int (0 : Int32))] [(.ref st), (.ref st)]))
    refine GoOn.step (fun t₀ k₀ => XS.aload X165.here hx rfl (hb hby at_148) rfl rfl k₀) ?_
    show GoOn p e below _ (T165.setTop (mkF m 150 #[.val (.int q0), .val (.int q1), .val (.int q2), .val (.int q3), .val (.int (q0 &&& (3 : Int32))), .val (.int x), .val (.int y), .val (.int z), .val (.ref ca), .val (.int (0 : Int32))] [(.ref ca), (.ref st), (.ref st)]))
    obtain ⟨_, T166, L166, X166, hQ166, hS166, hZ166, hO166, st166⟩ := kCallIS X165 hx hZ (a := st) (argsL := [(.ref ca)]) (rest := [(.ref st)]) (c_in0 l Z a0 hw st ca (gg x y z) h165 n0 Z0 O Ex_st F_value_st F_coder_st le_st Jc) (fun vm q => heldAll hZ (ew_1 hw) hPv Ss Ex_st.lt q) rfl hown (hw _ (List.mem_of_getElem? (i := 5) rfl)) (hw _ (List.mem_of_getElem? (i := 6) rfl)) (hw _ (List.mem_of_getElem? (i := 4) rfl)) (hw _ (List.mem_of_getElem? (i := 7) rfl)) (by decide) e165 (g := (mkF m 150 #[.val (.int q0), .val (.int q1), .val (.int q2), .val (.int q3), .val (.int (q0 &&& (3 : Int32))), .val (.int x), .val (.int y), .val (.int z), .val (.ref ca), .val (.int (0 : Int32))] [(.ref ca), (.ref st), (.ref st)])) rfl (by rw [hml]; rfl) (lenOf pd_16 rfl) rfl (W := 1) (by show 2 * 0 + _ ≤ _; exact Nat.le_of_eq rfl) (hb hby at_150) (by decide) (by decide) (by decide) (by decide)
    have hk166 : T166.heap.size ≤ T166.heap.size := Nat.le_refl _
    replace hZ := hZ166
    replace hown := hO166
    obtain ⟨rfl, N166, K166, SO⟩ := hQ166
    replace N0 := Fr.app N0 N166
    replace O := O.keep K166 (allS le_st all0)
    have Ex := SO.1
    refine GoOn.step st166 ?_
    show GoOn p e below _ (T166.setTop (mkF m 153 #[.val (.int q0), .val (.int q1), .val (.int q2), .val (.int q3), .val (.int (q0 &&& (3 : Int32))), .val (.int x), .val (.int y), .val (.int z), .val (.ref ca), .val (.int (0 : Int32))] [(.ref st)]))
    obtain ⟨_, T167, L167, X167, hQ167, st167⟩ := kCallS X166 hx hZ (argsL := [(.ref st)]) (rest := []) (c_ml0 l Z a0 hw st (gg x y z) cs fv T166.heap n0 O SS SO Cg) hown (hw _ (List.mem_of_getElem? (i := 23) rfl)) (hw _ (List.mem_of_getElem? (i := 24) rfl)) (hw _ (List.mem_of_getElem? (i := 25) rfl)) (hw _ (List.mem_of_getElem? (i := 26) rfl)) (by decide) rfl (g := (mkF m 153 #[.val (.int q0), .val (.int q1), .val (.int q2), .val (.int q3), .val (.int (q0 &&& (3 : Int32))), .val (.int x), .val (.int y), .val (.int z), .val (.ref ca), .val (.int (0 : Int32))] [(.ref st)])) rfl (by rw [hml]; rfl) (lenOf pd_17 rfl) rfl (W := 0) (by show 2 * 0 + _ ≤ _; exact Nat.le_of_eq rfl) (hb hby at_153) (by decide) (by decide) (by decide) (by decide)
    obtain ⟨rfl, rfl, e167⟩ := hQ167
    rw [List.append_nil] at X167
    refine GoOn.step st167 ?_
    show GoOn p e below _ (T167.setTop (mkF m 156 #[.val (.int q0), .val (.int q1), .val (.int q2), .val (.int q3), .val (.int (q0 &&& (3 : Int32))), .val (.int x), .val (.int y), .val (.int z), .val (.ref ca), .val (.int (0 : Int32))] [(.int (0 : Int32))]))
    refine GoOn.step (fun t₀ k₀ => XS.iload X167.here hx rfl (hb hby at_156) rfl k₀) ?_
    show GoOn p e below _ (T167.setTop (mkF m 158 #[.val (.int q0), .val (.int q1), .val (.int q2), .val (.int q3), .val (.int (q0 &&& (3 : Int32))), .val (.int x), .val (.int y), .val (.int z), .val (.ref ca), .val (.int (0 : Int32))] [(.int (0 : Int32)), (.int (0 : Int32))]))
    have hf168 : (0 : Int32) = (0 : Int32) := (by simp [gg])
    refine GoOn.step (fun t₀ k₀ => XS.icmpNo X167.here hx rfl (hb hby at_158) rfl (teq hf168).2 k₀) ?_
    show GoOn p e below _ (T167.setTop (mkF m 161 #[.val (.int q0), .val (.int q1), .val (.int q2), .val (.int q3), .val (.int (q0 &&& (3 : Int32))), .val (.int x), .val (.int y), .val (.int z), .val (.ref ca), .val (.int (0 : Int32))] []))
    refine GoOn.step (fun t₀ k₀ => XS.iconst X167.here hx rfl (hb hby at_161) k₀) ?_
    show GoOn p e below _ (T167.setTop (mkF m 162 #[.val (.int q0), .val (.int q1), .val (.int q2), .val (.int q3), .val (.int (q0 &&& (3 : Int32))), .val (.int x), .val (.int y), .val (.int z), .val (.ref ca), .val (.int (0 : Int32))] [(.int (1 : Int32))]))
    refine GoOn.step (fun t₀ k₀ => XS.goto X167.here hx rfl (pc0 := 162) (pc' := 166) rfl (hb hby at_162) (by decide) (by decide) k₀) ?_
    show GoOn p e below _ (T167.setTop (mkF m 166 #[.val (.int q0), .val (.int q1), .val (.int q2), .val (.int q3), .val (.int (q0 &&& (3 : Int32))), .val (.int x), .val (.int y), .val (.int z), .val (.ref ca), .val (.int (0 : Int32))] [(.int (1 : Int32))]))
    exact GoOn.retNS X167 hS166 (by rw [e167]; exact hk166) hx hrt hlk (by simp) (hb hby at_166) (by decide) (by decide) (by first | exact ⟨rfl, N0⟩ | (rw [e167]; exact ⟨rfl, N0⟩))
  · refine GoOn.step (fun t₀ k₀ => XS.ifYes X0.here hx rfl (pc0 := 28) (pc' := 42) rfl (hb hby at_28) rfl ((if0 _ _).trans (feq f0).2) (by decide) (by decide) k₀) ?_
    show GoOn p e below _ (s₁.setTop (mkF m 42 #[.val (.int q0), .val (.int q1), .val (.int q2), .val (.int q3), .val (.int (q0 &&& (3 : Int32))), .val (.int x), .val (.int y), .val (.int z), .unset, .unset] []))
    refine GoOn.step (fun t₀ k₀ => XS.iload X0.here hx rfl (hb hby at_42) rfl k₀) ?_
    show GoOn p e below _ (s₁.setTop (mkF m 44 #[.val (.int q0), .val (.int q1), .val (.int q2), .val (.int q3), .val (.int (q0 &&& (3 : Int32))), .val (.int x), .val (.int y), .val (.int z), .unset, .unset] [(.int (q0 &&& (3 : Int32)))]))
    refine GoOn.step (fun t₀ k₀ => XS.iconst X0.here hx rfl (hb hby at_44) k₀) ?_
    show GoOn p e below _ (s₁.setTop (mkF m 45 #[.val (.int q0), .val (.int q1), .val (.int q2), .val (.int q3), .val (.int (q0 &&& (3 : Int32))), .val (.int x), .val (.int y), .val (.int z), .unset, .unset] [(.int (1 : Int32)), (.int (q0 &&& (3 : Int32)))]))
    by_cases f1 : (q0 &&& (3 : Int32)) = (1 : Int32)
    · refine GoOn.step (fun t₀ k₀ => XS.icmpNo X0.here hx rfl (hb hby at_45) rfl (teq f1).2 k₀) ?_
      show GoOn p e below _ (s₁.setTop (mkF m 48 #[.val (.int q0), .val (.int q1), .val (.int q2), .val (.int q3), .val (.int (q0 &&& (3 : Int32))), .val (.int x), .val (.int y), .val (.int z), .unset, .unset] []))
      refine GoOn.step (fun t₀ k₀ => XS.iconst X0.here hx rfl (hb hby at_48) k₀) ?_
      show GoOn p e below _ (s₁.setTop (mkF m 49 #[.val (.int q0), .val (.int q1), .val (.int q2), .val (.int q3), .val (.int (q0 &&& (3 : Int32))), .val (.int x), .val (.int y), .val (.int z), .unset, .unset] [(.int (1 : Int32))]))
      obtain ⟨T169, h169, k169, X169, e169, E169, A169, st169⟩ := newP X0 hx hZ (hw _ (List.mem_of_getElem? (i := 1) rfl)) e0 (g := (mkF m 49 #[.val (.int q0), .val (.int q1), .val (.int q2), .val (.int q3), .val (.int (q0 &&& (3 : Int32))), .val (.int x), .val (.int y), .val (.int z), .unset, .unset] [(.int (1 : Int32))])) rfl (hb hby at_49) rfl (by decide) (cap := 1) (by decide) (by decide) (by decide) (by decide)
      obtain ⟨ca, g169⟩ : ∃ z, z = h0.size := ⟨_, rfl⟩
      rw [← g169] at A169 st169
      have le_ca : n0 ≤ ca := by rw [g169]; exact Z0
      replace O := O.ext E169
      replace Z0 := Nat.le_trans Z0 E169.1
      have J_ca : Jar Z h169 ca .char 1 (fun _ => defaultValue .char) := Jar.new A169 (by decide)
      refine GoOn.step st169 ?_
      show GoOn p e below _ (T169.setTop (mkF m 51 #[.val (.int q0), .val (.int q1), .val (.int q2), .val (.int q3), .val (.int (q0 &&& (3 : Int32))), .val (.int x), .val (.int y), .val (.int z), .unset, .unset] [(.ref ca)]))
      refine GoOn.step (fun t₀ k₀ => XS.dup X169.here hx rfl (hb hby at_51) rfl rfl k₀) ?_
      show GoOn p e below _ (T169.setTop (mkF m 52 #[.val (.int q0), .val (.int q1), .val (.int q2), .val (.int q3), .val (.int (q0 &&& (3 : Int32))), .val (.int x), .val (.int y), .val (.int z), .unset, .unset] [(.ref ca), (.ref ca)]))
      refine GoOn.step (fun t₀ k₀ => XS.iconst X169.here hx rfl (hb hby at_52) k₀) ?_
      show GoOn p e below _ (T169.setTop (mkF m 53 #[.val (.int q0), .val (.int q1), .val (.int q2), .val (.int q3), .val (.int (q0 &&& (3 : Int32))), .val (.int x), .val (.int y), .val (.int z), .unset, .unset] [(.int (0 : Int32)), (.ref ca), (.ref ca)]))
      refine GoOn.step (fun t₀ k₀ => XS.iload X169.here hx rfl (hb hby at_53) rfl k₀) ?_
      show GoOn p e below _ (T169.setTop (mkF m 55 #[.val (.int q0), .val (.int q1), .val (.int q2), .val (.int q3), .val (.int (q0 &&& (3 : Int32))), .val (.int x), .val (.int y), .val (.int z), .unset, .unset] [(.int x), (.int (0 : Int32)), (.ref ca), (.ref ca)]))
      obtain ⟨T170, h170, X170, e170, W170, st170⟩ := kStC X169 hx hZ e169 J_ca (j := (0 : Int32)) ⟨by decide, by decide⟩ (g := (mkF m 55 #[.val (.int q0), .val (.int q1), .val (.int q2), .val (.int q3), .val (.int (q0 &&& (3 : Int32))), .val (.int x), .val (.int y), .val (.int z), .unset, .unset] [(.int x), (.int (0 : Int32)), (.ref ca), (.ref ca)])) rfl rfl (hb hby at_55)
      replace N0 := Fr.snoc X170 N0 le_ca
      replace J_ca := J_ca.set W170
      replace O := O.wr W170 le_ca
      replace Z0 := Nat.le_trans Z0 (Nat.le_of_eq W170.size.symm)
      refine GoOn.step st170 ?_
      show GoOn p e below _ (T170.setTop (mkF m 56 #[.val (.int q0), .val (.int q1), .val (.int q2), .val (.int q3), .val (.int (q0 &&& (3 : Int32))), .val (.int x), .val (.int y), .val (.int z), .unset, .unset] [(.ref ca)]))
      refine GoOn.step (fun t₀ k₀ => XS.astore X170.here hx rfl (hb hby at_56) rfl rfl (l' := #[.val (.int q0), .val (.int q1), .val (.int q2), .val (.int q3), .val (.int (q0 &&& (3 : Int32))), .val (.int x), .val (.int y), .val (.int z), .val (.ref ca), .unset]) rfl k₀) ?_
      show GoOn p e below _ (T170.setTop (mkF m 58 #[.val (.int q0), .val (.int q1), .val (.int q2), .val (.int q3), .val (.int (q0 &&& (3 : Int32))), .val (.int x), .val (.int y), .val (.int z), .val (.ref ca), .unset] []))
      refine GoOn.step (fun t₀ k₀ => XS.iload X170.here hx rfl (hb hby at_58) rfl k₀) ?_
      show GoOn p e below _ (T170.setTop (mkF m 60 #[.val (.int q0), .val (.int q1), .val (.int q2), .val (.int q3), .val (.int (q0 &&& (3 : Int32))), .val (.int x), .val (.int y), .val (.int z), .val (.ref ca), .unset] [(.int x)]))
      obtain ⟨_, T171, L171, X171, hQ171, st171⟩ := kCallS X170 hx hZ (argsL := [(.int x)]) (rest := []) (c_bo l Z a0 hw x h170) hown (hw _ (List.mem_of_getElem? (i := 38) rfl)) (hw _ (List.mem_of_getElem? (i := 39) rfl)) (hw _ (List.mem_of_getElem? (i := 40) rfl)) (hw _ (List.mem_of_getElem? (i := 41) rfl)) (by decide) e170 (g := (mkF m 60 #[.val (.int q0), .val (.int q1), .val (.int q2), .val (.int q3), .val (.int (q0 &&& (3 : Int32))), .val (.int x), .val (.int y), .val (.int z), .val (.ref ca), .unset] [(.int x)])) rfl (by rw [hml]; rfl) (lenOf pd_18 rfl) rfl (W := 0) (by show 2 * 0 + _ ≤ _; exact Nat.le_of_eq rfl) (hb hby at_60) (by decide) (by decide) (by decide) (by decide)
      obtain ⟨rfl, rfl, e171⟩ := hQ171
      rw [List.append_nil] at X171
      refine GoOn.step st171 ?_
      show GoOn p e below _ (T171.setTop (mkF m 63 #[.val (.int q0), .val (.int q1), .val (.int q2), .val (.int q3), .val (.int (q0 &&& (3 : Int32))), .val (.int x), .val (.int y), .val (.int z), .val (.ref ca), .unset] [(.int (bo x))]))
      refine GoOn.step (fun t₀ k₀ => XS.istore X171.here hx rfl (hb hby at_63) rfl (l' := #[.val (.int q0), .val (.int q1), .val (.int q2), .val (.int q3), .val (.int (q0 &&& (3 : Int32))), .val (.int x), .val (.int y), .val (.int z), .val (.ref ca), .val (.int (bo x))]) rfl k₀) ?_
      show GoOn p e below _ (T171.setTop (mkF m 65 #[.val (.int q0), .val (.int q1), .val (.int q2), .val (.int q3), .val (.int (q0 &&& (3 : Int32))), .val (.int x), .val (.int y), .val (.int z), .val (.ref ca), .val (.int (bo x))] []))
      refine GoOn.step (fun t₀ k₀ => XS.goto X171.here hx rfl (pc0 := 65) (pc' := 144) rfl (hb hby at_65) (by decide) (by decide) k₀) ?_
      show GoOn p e below _ (T171.setTop (mkF m 144 #[.val (.int q0), .val (.int q1), .val (.int q2), .val (.int q3), .val (.int (q0 &&& (3 : Int32))), .val (.int x), .val (.int y), .val (.int z), .val (.ref ca), .val (.int (bo x))] []))
      have Jc : Jar Z h170 ca .char 1 (fun i => .int ((gg x y z) i)) := jc1 J_ca (by simp [gg, nc0, nc1, nc2, narC b_x, narC b_y, narC b_z])
      obtain ⟨T172, h172, X172, e172, E172, A172, D172, -, st172⟩ := newO X171 hx hZ hown (hw _ (List.mem_of_getElem? (i := 2) rfl)) (hw _ (List.mem_of_getElem? (i := 3) rfl)) (hw _ (List.mem_of_getElem? (i := 4) rfl)) e171 (g := (mkF m 144 #[.val (.int q0), .val (.int q1), .val (.int q2), .val (.int q3), .val (.int (q0 &&& (3 : Int32))), .val (.int x), .val (.int y), .val (.int z), .val (.ref ca), .val (.int (bo x))] [])) rfl (hb hby at_144) (by decide) (by decide)
      obtain ⟨st, g172⟩ : ∃ z, z = h170.size := ⟨_, rfl⟩
      rw [← g172] at A172 D172 st172
      have lt_ca_st : ca < st := by rw [g172]; exact Jc.lt
      have ne_ca_st : ca ≠ st := Nat.ne_of_lt lt_ca_st
      have le_st : n0 ≤ st := by rw [g172]; exact Z0
      replace Jc := Jc.ext E172
      replace O := O.ext E172
      replace Z0 := Nat.le_trans Z0 E172.1
      have Ex_st : Exa Z h172 st "java/lang/String" := A172
      have F_value_st : Fld Z h172 st "java/lang/String" "value" "[B" .null := D172 (Or.inr (hw _ (List.mem_of_getElem? (i := 17) rfl))) (ty := (.array .byte)) (by decide)
      have F_coder_st : Fld Z h172 st "java/lang/String" "coder" "B" (.int (0 : Int32)) := D172 (Or.inr (hw _ (List.mem_of_getElem? (i := 18) rfl))) (ty := .byte) (by decide)
      refine GoOn.step st172 ?_
      show GoOn p e below _ (T172.setTop (mkF m 147 #[.val (.int q0), .val (.int q1), .val (.int q2), .val (.int q3), .val (.int (q0 &&& (3 : Int32))), .val (.int x), .val (.int y), .val (.int z), .val (.ref ca), .val (.int (bo x))] [(.ref st)]))
      refine GoOn.step (fun t₀ k₀ => XS.dup X172.here hx rfl (hb hby at_147) rfl rfl k₀) ?_
      show GoOn p e below _ (T172.setTop (mkF m 148 #[.val (.int q0), .val (.int q1), .val (.int q2), .val (.int q3), .val (.int (q0 &&& (3 : Int32))), .val (.int x), .val (.int y), .val (.int z), .val (.ref ca), .val (.int (bo x))] [(.ref st), (.ref st)]))
      refine GoOn.step (fun t₀ k₀ => XS.aload X172.here hx rfl (hb hby at_148) rfl rfl k₀) ?_
      show GoOn p e below _ (T172.setTop (mkF m 150 #[.val (.int q0), .val (.int q1), .val (.int q2), .val (.int q3), .val (.int (q0 &&& (3 : Int32))), .val (.int x), .val (.int y), .val (.int z), .val (.ref ca), .val (.int (bo x))] [(.ref ca), (.ref st), (.ref st)]))
      obtain ⟨_, T173, L173, X173, hQ173, st173⟩ := kCallI X172 hx hZ (a := st) (argsL := [(.ref ca)]) (rest := [(.ref st)]) (c_in1 l Z a0 hw st ca (gg x y z) cs fv h172 n0 Z0 O SS Ex_st F_value_st F_coder_st le_st Jc Cg) rfl hown (hw _ (List.mem_of_getElem? (i := 5) rfl)) (hw _ (List.mem_of_getElem? (i := 6) rfl)) (hw _ (List.mem_of_getElem? (i := 4) rfl)) (hw _ (List.mem_of_getElem? (i := 7) rfl)) (by decide) e172 (g := (mkF m 150 #[.val (.int q0), .val (.int q1), .val (.int q2), .val (.int q3), .val (.int (q0 &&& (3 : Int32))), .val (.int x), .val (.int y), .val (.int z), .val (.ref ca), .val (.int (bo x))] [(.ref ca), (.ref st), (.ref st)])) rfl (by rw [hml]; rfl) (lenOf pd_16 rfl) rfl (W := 1) (by show 2 * 0 + _ ≤ _; exact Nat.le_of_eq rfl) (hb hby at_150) (by decide) (by decide) (by decide) (by decide)
      obtain ⟨rfl, N173, K173, SO⟩ := hQ173
      replace N0 := Fr.app N0 N173
      replace O := O.keep K173 (allS le_st all0)
      have Ex := SO.1
      refine GoOn.step st173 ?_
      show GoOn p e below _ (T173.setTop (mkF m 153 #[.val (.int q0), .val (.int q1), .val (.int q2), .val (.int q3), .val (.int (q0 &&& (3 : Int32))), .val (.int x), .val (.int y), .val (.int z), .val (.ref ca), .val (.int (bo x))] [(.ref st)]))
      obtain ⟨_, T174, L174, X174, hQ174, st174⟩ := kCallS X173 hx hZ (argsL := [(.ref st)]) (rest := []) (c_ml1 l Z a0 hw st (gg x y z) cs fv T173.heap n0 O SS SO Cg) hown (hw _ (List.mem_of_getElem? (i := 23) rfl)) (hw _ (List.mem_of_getElem? (i := 24) rfl)) (hw _ (List.mem_of_getElem? (i := 25) rfl)) (hw _ (List.mem_of_getElem? (i := 26) rfl)) (by decide) rfl (g := (mkF m 153 #[.val (.int q0), .val (.int q1), .val (.int q2), .val (.int q3), .val (.int (q0 &&& (3 : Int32))), .val (.int x), .val (.int y), .val (.int z), .val (.ref ca), .val (.int (bo x))] [(.ref st)])) rfl (by rw [hml]; rfl) (lenOf pd_17 rfl) rfl (W := 0) (by show 2 * 0 + _ ≤ _; exact Nat.le_of_eq rfl) (hb hby at_153) (by decide) (by decide) (by decide) (by decide)
      obtain ⟨rfl, rfl, e174⟩ := hQ174
      rw [List.append_nil] at X174
      refine GoOn.step st174 ?_
      show GoOn p e below _ (T174.setTop (mkF m 156 #[.val (.int q0), .val (.int q1), .val (.int q2), .val (.int q3), .val (.int (q0 &&& (3 : Int32))), .val (.int x), .val (.int y), .val (.int z), .val (.ref ca), .val (.int (bo x))] [(.int ((0 : Int32) + bo ((gg x y z) 0)))]))
      refine GoOn.step (fun t₀ k₀ => XS.iload X174.here hx rfl (hb hby at_156) rfl k₀) ?_
      show GoOn p e below _ (T174.setTop (mkF m 158 #[.val (.int q0), .val (.int q1), .val (.int q2), .val (.int q3), .val (.int (q0 &&& (3 : Int32))), .val (.int x), .val (.int y), .val (.int z), .val (.ref ca), .val (.int (bo x))] [(.int (bo x)), (.int ((0 : Int32) + bo ((gg x y z) 0)))]))
      have hf175 : ((0 : Int32) + bo ((gg x y z) 0)) = (bo x) := (by simp [gg])
      refine GoOn.step (fun t₀ k₀ => XS.icmpNo X174.here hx rfl (hb hby at_158) rfl (teq hf175).2 k₀) ?_
      show GoOn p e below _ (T174.setTop (mkF m 161 #[.val (.int q0), .val (.int q1), .val (.int q2), .val (.int q3), .val (.int (q0 &&& (3 : Int32))), .val (.int x), .val (.int y), .val (.int z), .val (.ref ca), .val (.int (bo x))] []))
      refine GoOn.step (fun t₀ k₀ => XS.iconst X174.here hx rfl (hb hby at_161) k₀) ?_
      show GoOn p e below _ (T174.setTop (mkF m 162 #[.val (.int q0), .val (.int q1), .val (.int q2), .val (.int q3), .val (.int (q0 &&& (3 : Int32))), .val (.int x), .val (.int y), .val (.int z), .val (.ref ca), .val (.int (bo x))] [(.int (1 : Int32))]))
      refine GoOn.step (fun t₀ k₀ => XS.goto X174.here hx rfl (pc0 := 162) (pc' := 166) rfl (hb hby at_162) (by decide) (by decide) k₀) ?_
      show GoOn p e below _ (T174.setTop (mkF m 166 #[.val (.int q0), .val (.int q1), .val (.int q2), .val (.int q3), .val (.int (q0 &&& (3 : Int32))), .val (.int x), .val (.int y), .val (.int z), .val (.ref ca), .val (.int (bo x))] [(.int (1 : Int32))]))
      exact GoOn.retNS (X174.retabled X174.warmed.wide) (X174.warmed.since _) (Nat.le_refl _) hx hrt hlk (by simp) (hb hby at_166) (by decide) (by decide) (by first | exact ⟨rfl, N0⟩ | (rw [e174]; exact ⟨rfl, N0⟩))
    · refine GoOn.step (fun t₀ k₀ => XS.icmpYes X0.here hx rfl (pc0 := 45) (pc' := 68) rfl (hb hby at_45) rfl (feq f1).2 (by decide) (by decide) k₀) ?_
      show GoOn p e below _ (s₁.setTop (mkF m 68 #[.val (.int q0), .val (.int q1), .val (.int q2), .val (.int q3), .val (.int (q0 &&& (3 : Int32))), .val (.int x), .val (.int y), .val (.int z), .unset, .unset] []))
      refine GoOn.step (fun t₀ k₀ => XS.iload X0.here hx rfl (hb hby at_68) rfl k₀) ?_
      show GoOn p e below _ (s₁.setTop (mkF m 70 #[.val (.int q0), .val (.int q1), .val (.int q2), .val (.int q3), .val (.int (q0 &&& (3 : Int32))), .val (.int x), .val (.int y), .val (.int z), .unset, .unset] [(.int (q0 &&& (3 : Int32)))]))
      refine GoOn.step (fun t₀ k₀ => XS.iconst X0.here hx rfl (hb hby at_70) k₀) ?_
      show GoOn p e below _ (s₁.setTop (mkF m 71 #[.val (.int q0), .val (.int q1), .val (.int q2), .val (.int q3), .val (.int (q0 &&& (3 : Int32))), .val (.int x), .val (.int y), .val (.int z), .unset, .unset] [(.int (2 : Int32)), (.int (q0 &&& (3 : Int32)))]))
      by_cases f2 : (q0 &&& (3 : Int32)) = (2 : Int32)
      · refine GoOn.step (fun t₀ k₀ => XS.icmpNo X0.here hx rfl (hb hby at_71) rfl (teq f2).2 k₀) ?_
        show GoOn p e below _ (s₁.setTop (mkF m 74 #[.val (.int q0), .val (.int q1), .val (.int q2), .val (.int q3), .val (.int (q0 &&& (3 : Int32))), .val (.int x), .val (.int y), .val (.int z), .unset, .unset] []))
        refine GoOn.step (fun t₀ k₀ => XS.iconst X0.here hx rfl (hb hby at_74) k₀) ?_
        show GoOn p e below _ (s₁.setTop (mkF m 75 #[.val (.int q0), .val (.int q1), .val (.int q2), .val (.int q3), .val (.int (q0 &&& (3 : Int32))), .val (.int x), .val (.int y), .val (.int z), .unset, .unset] [(.int (2 : Int32))]))
        obtain ⟨T176, h176, k176, X176, e176, E176, A176, st176⟩ := newP X0 hx hZ (hw _ (List.mem_of_getElem? (i := 1) rfl)) e0 (g := (mkF m 75 #[.val (.int q0), .val (.int q1), .val (.int q2), .val (.int q3), .val (.int (q0 &&& (3 : Int32))), .val (.int x), .val (.int y), .val (.int z), .unset, .unset] [(.int (2 : Int32))])) rfl (hb hby at_75) rfl (by decide) (cap := 2) (by decide) (by decide) (by decide) (by decide)
        obtain ⟨ca, g176⟩ : ∃ z, z = h0.size := ⟨_, rfl⟩
        rw [← g176] at A176 st176
        have le_ca : n0 ≤ ca := by rw [g176]; exact Z0
        replace O := O.ext E176
        replace Z0 := Nat.le_trans Z0 E176.1
        have J_ca : Jar Z h176 ca .char 2 (fun _ => defaultValue .char) := Jar.new A176 (by decide)
        refine GoOn.step st176 ?_
        show GoOn p e below _ (T176.setTop (mkF m 77 #[.val (.int q0), .val (.int q1), .val (.int q2), .val (.int q3), .val (.int (q0 &&& (3 : Int32))), .val (.int x), .val (.int y), .val (.int z), .unset, .unset] [(.ref ca)]))
        refine GoOn.step (fun t₀ k₀ => XS.dup X176.here hx rfl (hb hby at_77) rfl rfl k₀) ?_
        show GoOn p e below _ (T176.setTop (mkF m 78 #[.val (.int q0), .val (.int q1), .val (.int q2), .val (.int q3), .val (.int (q0 &&& (3 : Int32))), .val (.int x), .val (.int y), .val (.int z), .unset, .unset] [(.ref ca), (.ref ca)]))
        refine GoOn.step (fun t₀ k₀ => XS.iconst X176.here hx rfl (hb hby at_78) k₀) ?_
        show GoOn p e below _ (T176.setTop (mkF m 79 #[.val (.int q0), .val (.int q1), .val (.int q2), .val (.int q3), .val (.int (q0 &&& (3 : Int32))), .val (.int x), .val (.int y), .val (.int z), .unset, .unset] [(.int (0 : Int32)), (.ref ca), (.ref ca)]))
        refine GoOn.step (fun t₀ k₀ => XS.iload X176.here hx rfl (hb hby at_79) rfl k₀) ?_
        show GoOn p e below _ (T176.setTop (mkF m 81 #[.val (.int q0), .val (.int q1), .val (.int q2), .val (.int q3), .val (.int (q0 &&& (3 : Int32))), .val (.int x), .val (.int y), .val (.int z), .unset, .unset] [(.int x), (.int (0 : Int32)), (.ref ca), (.ref ca)]))
        obtain ⟨T177, h177, X177, e177, W177, st177⟩ := kStC X176 hx hZ e176 J_ca (j := (0 : Int32)) ⟨by decide, by decide⟩ (g := (mkF m 81 #[.val (.int q0), .val (.int q1), .val (.int q2), .val (.int q3), .val (.int (q0 &&& (3 : Int32))), .val (.int x), .val (.int y), .val (.int z), .unset, .unset] [(.int x), (.int (0 : Int32)), (.ref ca), (.ref ca)])) rfl rfl (hb hby at_81)
        replace N0 := Fr.snoc X177 N0 le_ca
        replace J_ca := J_ca.set W177
        replace O := O.wr W177 le_ca
        replace Z0 := Nat.le_trans Z0 (Nat.le_of_eq W177.size.symm)
        refine GoOn.step st177 ?_
        show GoOn p e below _ (T177.setTop (mkF m 82 #[.val (.int q0), .val (.int q1), .val (.int q2), .val (.int q3), .val (.int (q0 &&& (3 : Int32))), .val (.int x), .val (.int y), .val (.int z), .unset, .unset] [(.ref ca)]))
        refine GoOn.step (fun t₀ k₀ => XS.dup X177.here hx rfl (hb hby at_82) rfl rfl k₀) ?_
        show GoOn p e below _ (T177.setTop (mkF m 83 #[.val (.int q0), .val (.int q1), .val (.int q2), .val (.int q3), .val (.int (q0 &&& (3 : Int32))), .val (.int x), .val (.int y), .val (.int z), .unset, .unset] [(.ref ca), (.ref ca)]))
        refine GoOn.step (fun t₀ k₀ => XS.iconst X177.here hx rfl (hb hby at_83) k₀) ?_
        show GoOn p e below _ (T177.setTop (mkF m 84 #[.val (.int q0), .val (.int q1), .val (.int q2), .val (.int q3), .val (.int (q0 &&& (3 : Int32))), .val (.int x), .val (.int y), .val (.int z), .unset, .unset] [(.int (1 : Int32)), (.ref ca), (.ref ca)]))
        refine GoOn.step (fun t₀ k₀ => XS.iload X177.here hx rfl (hb hby at_84) rfl k₀) ?_
        show GoOn p e below _ (T177.setTop (mkF m 86 #[.val (.int q0), .val (.int q1), .val (.int q2), .val (.int q3), .val (.int (q0 &&& (3 : Int32))), .val (.int x), .val (.int y), .val (.int z), .unset, .unset] [(.int y), (.int (1 : Int32)), (.ref ca), (.ref ca)]))
        obtain ⟨T178, h178, X178, e178, W178, st178⟩ := kStC X177 hx hZ e177 J_ca (j := (1 : Int32)) ⟨by decide, by decide⟩ (g := (mkF m 86 #[.val (.int q0), .val (.int q1), .val (.int q2), .val (.int q3), .val (.int (q0 &&& (3 : Int32))), .val (.int x), .val (.int y), .val (.int z), .unset, .unset] [(.int y), (.int (1 : Int32)), (.ref ca), (.ref ca)])) rfl rfl (hb hby at_86)
        replace N0 := Fr.snoc X178 N0 le_ca
        replace J_ca := J_ca.set W178
        replace O := O.wr W178 le_ca
        replace Z0 := Nat.le_trans Z0 (Nat.le_of_eq W178.size.symm)
        refine GoOn.step st178 ?_
        show GoOn p e below _ (T178.setTop (mkF m 87 #[.val (.int q0), .val (.int q1), .val (.int q2), .val (.int q3), .val (.int (q0 &&& (3 : Int32))), .val (.int x), .val (.int y), .val (.int z), .unset, .unset] [(.ref ca)]))
        refine GoOn.step (fun t₀ k₀ => XS.astore X178.here hx rfl (hb hby at_87) rfl rfl (l' := #[.val (.int q0), .val (.int q1), .val (.int q2), .val (.int q3), .val (.int (q0 &&& (3 : Int32))), .val (.int x), .val (.int y), .val (.int z), .val (.ref ca), .unset]) rfl k₀) ?_
        show GoOn p e below _ (T178.setTop (mkF m 89 #[.val (.int q0), .val (.int q1), .val (.int q2), .val (.int q3), .val (.int (q0 &&& (3 : Int32))), .val (.int x), .val (.int y), .val (.int z), .val (.ref ca), .unset] []))
        refine GoOn.step (fun t₀ k₀ => XS.iload X178.here hx rfl (hb hby at_89) rfl k₀) ?_
        show GoOn p e below _ (T178.setTop (mkF m 91 #[.val (.int q0), .val (.int q1), .val (.int q2), .val (.int q3), .val (.int (q0 &&& (3 : Int32))), .val (.int x), .val (.int y), .val (.int z), .val (.ref ca), .unset] [(.int x)]))
        obtain ⟨_, T179, L179, X179, hQ179, st179⟩ := kCallS X178 hx hZ (argsL := [(.int x)]) (rest := []) (c_bo l Z a0 hw x h178) hown (hw _ (List.mem_of_getElem? (i := 38) rfl)) (hw _ (List.mem_of_getElem? (i := 39) rfl)) (hw _ (List.mem_of_getElem? (i := 40) rfl)) (hw _ (List.mem_of_getElem? (i := 41) rfl)) (by decide) e178 (g := (mkF m 91 #[.val (.int q0), .val (.int q1), .val (.int q2), .val (.int q3), .val (.int (q0 &&& (3 : Int32))), .val (.int x), .val (.int y), .val (.int z), .val (.ref ca), .unset] [(.int x)])) rfl (by rw [hml]; rfl) (lenOf pd_18 rfl) rfl (W := 0) (by show 2 * 0 + _ ≤ _; exact Nat.le_of_eq rfl) (hb hby at_91) (by decide) (by decide) (by decide) (by decide)
        obtain ⟨rfl, rfl, e179⟩ := hQ179
        rw [List.append_nil] at X179
        refine GoOn.step st179 ?_
        show GoOn p e below _ (T179.setTop (mkF m 94 #[.val (.int q0), .val (.int q1), .val (.int q2), .val (.int q3), .val (.int (q0 &&& (3 : Int32))), .val (.int x), .val (.int y), .val (.int z), .val (.ref ca), .unset] [(.int (bo x))]))
        refine GoOn.step (fun t₀ k₀ => XS.iload X179.here hx rfl (hb hby at_94) rfl k₀) ?_
        show GoOn p e below _ (T179.setTop (mkF m 96 #[.val (.int q0), .val (.int q1), .val (.int q2), .val (.int q3), .val (.int (q0 &&& (3 : Int32))), .val (.int x), .val (.int y), .val (.int z), .val (.ref ca), .unset] [(.int y), (.int (bo x))]))
        obtain ⟨_, T180, L180, X180, hQ180, st180⟩ := kCallS X179 hx hZ (argsL := [(.int y)]) (rest := [(.int (bo x))]) (c_bo l Z a0 hw y h178) hown (hw _ (List.mem_of_getElem? (i := 38) rfl)) (hw _ (List.mem_of_getElem? (i := 39) rfl)) (hw _ (List.mem_of_getElem? (i := 40) rfl)) (hw _ (List.mem_of_getElem? (i := 41) rfl)) (by decide) e179 (g := (mkF m 96 #[.val (.int q0), .val (.int q1), .val (.int q2), .val (.int q3), .val (.int (q0 &&& (3 : Int32))), .val (.int x), .val (.int y), .val (.int z), .val (.ref ca), .unset] [(.int y), (.int (bo x))])) rfl (by rw [hml]; rfl) (lenOf pd_18 rfl) rfl (W := 1) (by show 2 * 0 + _ ≤ _; exact Nat.le_of_eq rfl) (hb hby at_96) (by decide) (by decide) (by decide) (by decide)
        obtain ⟨rfl, rfl, e180⟩ := hQ180
        rw [List.append_nil] at X180
        refine GoOn.step st180 ?_
        show GoOn p e below _ (T180.setTop (mkF m 99 #[.val (.int q0), .val (.int q1), .val (.int q2), .val (.int q3), .val (.int (q0 &&& (3 : Int32))), .val (.int x), .val (.int y), .val (.int z), .val (.ref ca), .unset] [(.int (bo y)), (.int (bo x))]))
        refine GoOn.step (fun t₀ k₀ => XS.iadd X180.here hx rfl (hb hby at_99) rfl k₀) ?_
        show GoOn p e below _ (T180.setTop (mkF m 100 #[.val (.int q0), .val (.int q1), .val (.int q2), .val (.int q3), .val (.int (q0 &&& (3 : Int32))), .val (.int x), .val (.int y), .val (.int z), .val (.ref ca), .unset] [(.int ((bo x) + (bo y)))]))
        refine GoOn.step (fun t₀ k₀ => XS.istore X180.here hx rfl (hb hby at_100) rfl (l' := #[.val (.int q0), .val (.int q1), .val (.int q2), .val (.int q3), .val (.int (q0 &&& (3 : Int32))), .val (.int x), .val (.int y), .val (.int z), .val (.ref ca), .val (.int ((bo x) + (bo y)))]) rfl k₀) ?_
        show GoOn p e below _ (T180.setTop (mkF m 102 #[.val (.int q0), .val (.int q1), .val (.int q2), .val (.int q3), .val (.int (q0 &&& (3 : Int32))), .val (.int x), .val (.int y), .val (.int z), .val (.ref ca), .val (.int ((bo x) + (bo y)))] []))
        refine GoOn.step (fun t₀ k₀ => XS.goto X180.here hx rfl (pc0 := 102) (pc' := 144) rfl (hb hby at_102) (by decide) (by decide) k₀) ?_
        show GoOn p e below _ (T180.setTop (mkF m 144 #[.val (.int q0), .val (.int q1), .val (.int q2), .val (.int q3), .val (.int (q0 &&& (3 : Int32))), .val (.int x), .val (.int y), .val (.int z), .val (.ref ca), .val (.int ((bo x) + (bo y)))] []))
        have Jc : Jar Z h178 ca .char 2 (fun i => .int ((gg x y z) i)) := jc2 J_ca (by simp [gg, nc0, nc1, nc2, narC b_x, narC b_y, narC b_z]) (by simp [gg, nc0, nc1, nc2, narC b_x, narC b_y, narC b_z])
        obtain ⟨T181, h181, X181, e181, E181, A181, D181, -, st181⟩ := newO X180 hx hZ hown (hw _ (List.mem_of_getElem? (i := 2) rfl)) (hw _ (List.mem_of_getElem? (i := 3) rfl)) (hw _ (List.mem_of_getElem? (i := 4) rfl)) e180 (g := (mkF m 144 #[.val (.int q0), .val (.int q1), .val (.int q2), .val (.int q3), .val (.int (q0 &&& (3 : Int32))), .val (.int x), .val (.int y), .val (.int z), .val (.ref ca), .val (.int ((bo x) + (bo y)))] [])) rfl (hb hby at_144) (by decide) (by decide)
        obtain ⟨st, g181⟩ : ∃ z, z = h178.size := ⟨_, rfl⟩
        rw [← g181] at A181 D181 st181
        have lt_ca_st : ca < st := by rw [g181]; exact Jc.lt
        have ne_ca_st : ca ≠ st := Nat.ne_of_lt lt_ca_st
        have le_st : n0 ≤ st := by rw [g181]; exact Z0
        replace Jc := Jc.ext E181
        replace O := O.ext E181
        replace Z0 := Nat.le_trans Z0 E181.1
        have Ex_st : Exa Z h181 st "java/lang/String" := A181
        have F_value_st : Fld Z h181 st "java/lang/String" "value" "[B" .null := D181 (Or.inr (hw _ (List.mem_of_getElem? (i := 17) rfl))) (ty := (.array .byte)) (by decide)
        have F_coder_st : Fld Z h181 st "java/lang/String" "coder" "B" (.int (0 : Int32)) := D181 (Or.inr (hw _ (List.mem_of_getElem? (i := 18) rfl))) (ty := .byte) (by decide)
        refine GoOn.step st181 ?_
        show GoOn p e below _ (T181.setTop (mkF m 147 #[.val (.int q0), .val (.int q1), .val (.int q2), .val (.int q3), .val (.int (q0 &&& (3 : Int32))), .val (.int x), .val (.int y), .val (.int z), .val (.ref ca), .val (.int ((bo x) + (bo y)))] [(.ref st)]))
        refine GoOn.step (fun t₀ k₀ => XS.dup X181.here hx rfl (hb hby at_147) rfl rfl k₀) ?_
        show GoOn p e below _ (T181.setTop (mkF m 148 #[.val (.int q0), .val (.int q1), .val (.int q2), .val (.int q3), .val (.int (q0 &&& (3 : Int32))), .val (.int x), .val (.int y), .val (.int z), .val (.ref ca), .val (.int ((bo x) + (bo y)))] [(.ref st), (.ref st)]))
        refine GoOn.step (fun t₀ k₀ => XS.aload X181.here hx rfl (hb hby at_148) rfl rfl k₀) ?_
        show GoOn p e below _ (T181.setTop (mkF m 150 #[.val (.int q0), .val (.int q1), .val (.int q2), .val (.int q3), .val (.int (q0 &&& (3 : Int32))), .val (.int x), .val (.int y), .val (.int z), .val (.ref ca), .val (.int ((bo x) + (bo y)))] [(.ref ca), (.ref st), (.ref st)]))
        obtain ⟨_, T182, L182, X182, hQ182, st182⟩ := kCallI X181 hx hZ (a := st) (argsL := [(.ref ca)]) (rest := [(.ref st)]) (c_in2 l Z a0 hw st ca (gg x y z) cs fv h181 n0 Z0 O SS Ex_st F_value_st F_coder_st le_st Jc Cg) rfl hown (hw _ (List.mem_of_getElem? (i := 5) rfl)) (hw _ (List.mem_of_getElem? (i := 6) rfl)) (hw _ (List.mem_of_getElem? (i := 4) rfl)) (hw _ (List.mem_of_getElem? (i := 7) rfl)) (by decide) e181 (g := (mkF m 150 #[.val (.int q0), .val (.int q1), .val (.int q2), .val (.int q3), .val (.int (q0 &&& (3 : Int32))), .val (.int x), .val (.int y), .val (.int z), .val (.ref ca), .val (.int ((bo x) + (bo y)))] [(.ref ca), (.ref st), (.ref st)])) rfl (by rw [hml]; rfl) (lenOf pd_16 rfl) rfl (W := 1) (by show 2 * 0 + _ ≤ _; exact Nat.le_of_eq rfl) (hb hby at_150) (by decide) (by decide) (by decide) (by decide)
        obtain ⟨rfl, N182, K182, SO⟩ := hQ182
        replace N0 := Fr.app N0 N182
        replace O := O.keep K182 (allS le_st all0)
        have Ex := SO.1
        refine GoOn.step st182 ?_
        show GoOn p e below _ (T182.setTop (mkF m 153 #[.val (.int q0), .val (.int q1), .val (.int q2), .val (.int q3), .val (.int (q0 &&& (3 : Int32))), .val (.int x), .val (.int y), .val (.int z), .val (.ref ca), .val (.int ((bo x) + (bo y)))] [(.ref st)]))
        obtain ⟨_, T183, L183, X183, hQ183, st183⟩ := kCallS X182 hx hZ (argsL := [(.ref st)]) (rest := []) (c_ml2 l Z a0 hw st (gg x y z) cs fv T182.heap n0 O SS SO Cg) hown (hw _ (List.mem_of_getElem? (i := 23) rfl)) (hw _ (List.mem_of_getElem? (i := 24) rfl)) (hw _ (List.mem_of_getElem? (i := 25) rfl)) (hw _ (List.mem_of_getElem? (i := 26) rfl)) (by decide) rfl (g := (mkF m 153 #[.val (.int q0), .val (.int q1), .val (.int q2), .val (.int q3), .val (.int (q0 &&& (3 : Int32))), .val (.int x), .val (.int y), .val (.int z), .val (.ref ca), .val (.int ((bo x) + (bo y)))] [(.ref st)])) rfl (by rw [hml]; rfl) (lenOf pd_17 rfl) rfl (W := 0) (by show 2 * 0 + _ ≤ _; exact Nat.le_of_eq rfl) (hb hby at_153) (by decide) (by decide) (by decide) (by decide)
        obtain ⟨rfl, rfl, e183⟩ := hQ183
        rw [List.append_nil] at X183
        refine GoOn.step st183 ?_
        show GoOn p e below _ (T183.setTop (mkF m 156 #[.val (.int q0), .val (.int q1), .val (.int q2), .val (.int q3), .val (.int (q0 &&& (3 : Int32))), .val (.int x), .val (.int y), .val (.int z), .val (.ref ca), .val (.int ((bo x) + (bo y)))] [(.int (((0 : Int32) + bo ((gg x y z) 0)) + bo ((gg x y z) 1)))]))
        refine GoOn.step (fun t₀ k₀ => XS.iload X183.here hx rfl (hb hby at_156) rfl k₀) ?_
        show GoOn p e below _ (T183.setTop (mkF m 158 #[.val (.int q0), .val (.int q1), .val (.int q2), .val (.int q3), .val (.int (q0 &&& (3 : Int32))), .val (.int x), .val (.int y), .val (.int z), .val (.ref ca), .val (.int ((bo x) + (bo y)))] [(.int ((bo x) + (bo y))), (.int (((0 : Int32) + bo ((gg x y z) 0)) + bo ((gg x y z) 1)))]))
        have hf184 : (((0 : Int32) + bo ((gg x y z) 0)) + bo ((gg x y z) 1)) = ((bo x) + (bo y)) := (by simp [gg])
        refine GoOn.step (fun t₀ k₀ => XS.icmpNo X183.here hx rfl (hb hby at_158) rfl (teq hf184).2 k₀) ?_
        show GoOn p e below _ (T183.setTop (mkF m 161 #[.val (.int q0), .val (.int q1), .val (.int q2), .val (.int q3), .val (.int (q0 &&& (3 : Int32))), .val (.int x), .val (.int y), .val (.int z), .val (.ref ca), .val (.int ((bo x) + (bo y)))] []))
        refine GoOn.step (fun t₀ k₀ => XS.iconst X183.here hx rfl (hb hby at_161) k₀) ?_
        show GoOn p e below _ (T183.setTop (mkF m 162 #[.val (.int q0), .val (.int q1), .val (.int q2), .val (.int q3), .val (.int (q0 &&& (3 : Int32))), .val (.int x), .val (.int y), .val (.int z), .val (.ref ca), .val (.int ((bo x) + (bo y)))] [(.int (1 : Int32))]))
        refine GoOn.step (fun t₀ k₀ => XS.goto X183.here hx rfl (pc0 := 162) (pc' := 166) rfl (hb hby at_162) (by decide) (by decide) k₀) ?_
        show GoOn p e below _ (T183.setTop (mkF m 166 #[.val (.int q0), .val (.int q1), .val (.int q2), .val (.int q3), .val (.int (q0 &&& (3 : Int32))), .val (.int x), .val (.int y), .val (.int z), .val (.ref ca), .val (.int ((bo x) + (bo y)))] [(.int (1 : Int32))]))
        exact GoOn.retNS (X183.retabled X183.warmed.wide) (X183.warmed.since _) (Nat.le_refl _) hx hrt hlk (by simp) (hb hby at_166) (by decide) (by decide) (by first | exact ⟨rfl, N0⟩ | (rw [e183]; exact ⟨rfl, N0⟩))
      · refine GoOn.step (fun t₀ k₀ => XS.icmpYes X0.here hx rfl (pc0 := 71) (pc' := 105) rfl (hb hby at_71) rfl (feq f2).2 (by decide) (by decide) k₀) ?_
        show GoOn p e below _ (s₁.setTop (mkF m 105 #[.val (.int q0), .val (.int q1), .val (.int q2), .val (.int q3), .val (.int (q0 &&& (3 : Int32))), .val (.int x), .val (.int y), .val (.int z), .unset, .unset] []))
        refine GoOn.step (fun t₀ k₀ => XS.iconst X0.here hx rfl (hb hby at_105) k₀) ?_
        show GoOn p e below _ (s₁.setTop (mkF m 106 #[.val (.int q0), .val (.int q1), .val (.int q2), .val (.int q3), .val (.int (q0 &&& (3 : Int32))), .val (.int x), .val (.int y), .val (.int z), .unset, .unset] [(.int (3 : Int32))]))
        obtain ⟨T185, h185, k185, X185, e185, E185, A185, st185⟩ := newP X0 hx hZ (hw _ (List.mem_of_getElem? (i := 1) rfl)) e0 (g := (mkF m 106 #[.val (.int q0), .val (.int q1), .val (.int q2), .val (.int q3), .val (.int (q0 &&& (3 : Int32))), .val (.int x), .val (.int y), .val (.int z), .unset, .unset] [(.int (3 : Int32))])) rfl (hb hby at_106) rfl (by decide) (cap := 3) (by decide) (by decide) (by decide) (by decide)
        obtain ⟨ca, g185⟩ : ∃ z, z = h0.size := ⟨_, rfl⟩
        rw [← g185] at A185 st185
        have le_ca : n0 ≤ ca := by rw [g185]; exact Z0
        replace O := O.ext E185
        replace Z0 := Nat.le_trans Z0 E185.1
        have J_ca : Jar Z h185 ca .char 3 (fun _ => defaultValue .char) := Jar.new A185 (by decide)
        refine GoOn.step st185 ?_
        show GoOn p e below _ (T185.setTop (mkF m 108 #[.val (.int q0), .val (.int q1), .val (.int q2), .val (.int q3), .val (.int (q0 &&& (3 : Int32))), .val (.int x), .val (.int y), .val (.int z), .unset, .unset] [(.ref ca)]))
        refine GoOn.step (fun t₀ k₀ => XS.dup X185.here hx rfl (hb hby at_108) rfl rfl k₀) ?_
        show GoOn p e below _ (T185.setTop (mkF m 109 #[.val (.int q0), .val (.int q1), .val (.int q2), .val (.int q3), .val (.int (q0 &&& (3 : Int32))), .val (.int x), .val (.int y), .val (.int z), .unset, .unset] [(.ref ca), (.ref ca)]))
        refine GoOn.step (fun t₀ k₀ => XS.iconst X185.here hx rfl (hb hby at_109) k₀) ?_
        show GoOn p e below _ (T185.setTop (mkF m 110 #[.val (.int q0), .val (.int q1), .val (.int q2), .val (.int q3), .val (.int (q0 &&& (3 : Int32))), .val (.int x), .val (.int y), .val (.int z), .unset, .unset] [(.int (0 : Int32)), (.ref ca), (.ref ca)]))
        refine GoOn.step (fun t₀ k₀ => XS.iload X185.here hx rfl (hb hby at_110) rfl k₀) ?_
        show GoOn p e below _ (T185.setTop (mkF m 112 #[.val (.int q0), .val (.int q1), .val (.int q2), .val (.int q3), .val (.int (q0 &&& (3 : Int32))), .val (.int x), .val (.int y), .val (.int z), .unset, .unset] [(.int x), (.int (0 : Int32)), (.ref ca), (.ref ca)]))
        obtain ⟨T186, h186, X186, e186, W186, st186⟩ := kStC X185 hx hZ e185 J_ca (j := (0 : Int32)) ⟨by decide, by decide⟩ (g := (mkF m 112 #[.val (.int q0), .val (.int q1), .val (.int q2), .val (.int q3), .val (.int (q0 &&& (3 : Int32))), .val (.int x), .val (.int y), .val (.int z), .unset, .unset] [(.int x), (.int (0 : Int32)), (.ref ca), (.ref ca)])) rfl rfl (hb hby at_112)
        replace N0 := Fr.snoc X186 N0 le_ca
        replace J_ca := J_ca.set W186
        replace O := O.wr W186 le_ca
        replace Z0 := Nat.le_trans Z0 (Nat.le_of_eq W186.size.symm)
        refine GoOn.step st186 ?_
        show GoOn p e below _ (T186.setTop (mkF m 113 #[.val (.int q0), .val (.int q1), .val (.int q2), .val (.int q3), .val (.int (q0 &&& (3 : Int32))), .val (.int x), .val (.int y), .val (.int z), .unset, .unset] [(.ref ca)]))
        refine GoOn.step (fun t₀ k₀ => XS.dup X186.here hx rfl (hb hby at_113) rfl rfl k₀) ?_
        show GoOn p e below _ (T186.setTop (mkF m 114 #[.val (.int q0), .val (.int q1), .val (.int q2), .val (.int q3), .val (.int (q0 &&& (3 : Int32))), .val (.int x), .val (.int y), .val (.int z), .unset, .unset] [(.ref ca), (.ref ca)]))
        refine GoOn.step (fun t₀ k₀ => XS.iconst X186.here hx rfl (hb hby at_114) k₀) ?_
        show GoOn p e below _ (T186.setTop (mkF m 115 #[.val (.int q0), .val (.int q1), .val (.int q2), .val (.int q3), .val (.int (q0 &&& (3 : Int32))), .val (.int x), .val (.int y), .val (.int z), .unset, .unset] [(.int (1 : Int32)), (.ref ca), (.ref ca)]))
        refine GoOn.step (fun t₀ k₀ => XS.iload X186.here hx rfl (hb hby at_115) rfl k₀) ?_
        show GoOn p e below _ (T186.setTop (mkF m 117 #[.val (.int q0), .val (.int q1), .val (.int q2), .val (.int q3), .val (.int (q0 &&& (3 : Int32))), .val (.int x), .val (.int y), .val (.int z), .unset, .unset] [(.int y), (.int (1 : Int32)), (.ref ca), (.ref ca)]))
        obtain ⟨T187, h187, X187, e187, W187, st187⟩ := kStC X186 hx hZ e186 J_ca (j := (1 : Int32)) ⟨by decide, by decide⟩ (g := (mkF m 117 #[.val (.int q0), .val (.int q1), .val (.int q2), .val (.int q3), .val (.int (q0 &&& (3 : Int32))), .val (.int x), .val (.int y), .val (.int z), .unset, .unset] [(.int y), (.int (1 : Int32)), (.ref ca), (.ref ca)])) rfl rfl (hb hby at_117)
        replace N0 := Fr.snoc X187 N0 le_ca
        replace J_ca := J_ca.set W187
        replace O := O.wr W187 le_ca
        replace Z0 := Nat.le_trans Z0 (Nat.le_of_eq W187.size.symm)
        refine GoOn.step st187 ?_
        show GoOn p e below _ (T187.setTop (mkF m 118 #[.val (.int q0), .val (.int q1), .val (.int q2), .val (.int q3), .val (.int (q0 &&& (3 : Int32))), .val (.int x), .val (.int y), .val (.int z), .unset, .unset] [(.ref ca)]))
        refine GoOn.step (fun t₀ k₀ => XS.dup X187.here hx rfl (hb hby at_118) rfl rfl k₀) ?_
        show GoOn p e below _ (T187.setTop (mkF m 119 #[.val (.int q0), .val (.int q1), .val (.int q2), .val (.int q3), .val (.int (q0 &&& (3 : Int32))), .val (.int x), .val (.int y), .val (.int z), .unset, .unset] [(.ref ca), (.ref ca)]))
        refine GoOn.step (fun t₀ k₀ => XS.iconst X187.here hx rfl (hb hby at_119) k₀) ?_
        show GoOn p e below _ (T187.setTop (mkF m 120 #[.val (.int q0), .val (.int q1), .val (.int q2), .val (.int q3), .val (.int (q0 &&& (3 : Int32))), .val (.int x), .val (.int y), .val (.int z), .unset, .unset] [(.int (2 : Int32)), (.ref ca), (.ref ca)]))
        refine GoOn.step (fun t₀ k₀ => XS.iload X187.here hx rfl (hb hby at_120) rfl k₀) ?_
        show GoOn p e below _ (T187.setTop (mkF m 122 #[.val (.int q0), .val (.int q1), .val (.int q2), .val (.int q3), .val (.int (q0 &&& (3 : Int32))), .val (.int x), .val (.int y), .val (.int z), .unset, .unset] [(.int z), (.int (2 : Int32)), (.ref ca), (.ref ca)]))
        obtain ⟨T188, h188, X188, e188, W188, st188⟩ := kStC X187 hx hZ e187 J_ca (j := (2 : Int32)) ⟨by decide, by decide⟩ (g := (mkF m 122 #[.val (.int q0), .val (.int q1), .val (.int q2), .val (.int q3), .val (.int (q0 &&& (3 : Int32))), .val (.int x), .val (.int y), .val (.int z), .unset, .unset] [(.int z), (.int (2 : Int32)), (.ref ca), (.ref ca)])) rfl rfl (hb hby at_122)
        replace N0 := Fr.snoc X188 N0 le_ca
        replace J_ca := J_ca.set W188
        replace O := O.wr W188 le_ca
        replace Z0 := Nat.le_trans Z0 (Nat.le_of_eq W188.size.symm)
        refine GoOn.step st188 ?_
        show GoOn p e below _ (T188.setTop (mkF m 123 #[.val (.int q0), .val (.int q1), .val (.int q2), .val (.int q3), .val (.int (q0 &&& (3 : Int32))), .val (.int x), .val (.int y), .val (.int z), .unset, .unset] [(.ref ca)]))
        refine GoOn.step (fun t₀ k₀ => XS.astore X188.here hx rfl (hb hby at_123) rfl rfl (l' := #[.val (.int q0), .val (.int q1), .val (.int q2), .val (.int q3), .val (.int (q0 &&& (3 : Int32))), .val (.int x), .val (.int y), .val (.int z), .val (.ref ca), .unset]) rfl k₀) ?_
        show GoOn p e below _ (T188.setTop (mkF m 125 #[.val (.int q0), .val (.int q1), .val (.int q2), .val (.int q3), .val (.int (q0 &&& (3 : Int32))), .val (.int x), .val (.int y), .val (.int z), .val (.ref ca), .unset] []))
        refine GoOn.step (fun t₀ k₀ => XS.iload X188.here hx rfl (hb hby at_125) rfl k₀) ?_
        show GoOn p e below _ (T188.setTop (mkF m 127 #[.val (.int q0), .val (.int q1), .val (.int q2), .val (.int q3), .val (.int (q0 &&& (3 : Int32))), .val (.int x), .val (.int y), .val (.int z), .val (.ref ca), .unset] [(.int x)]))
        obtain ⟨_, T189, L189, X189, hQ189, st189⟩ := kCallS X188 hx hZ (argsL := [(.int x)]) (rest := []) (c_bo l Z a0 hw x h188) hown (hw _ (List.mem_of_getElem? (i := 38) rfl)) (hw _ (List.mem_of_getElem? (i := 39) rfl)) (hw _ (List.mem_of_getElem? (i := 40) rfl)) (hw _ (List.mem_of_getElem? (i := 41) rfl)) (by decide) e188 (g := (mkF m 127 #[.val (.int q0), .val (.int q1), .val (.int q2), .val (.int q3), .val (.int (q0 &&& (3 : Int32))), .val (.int x), .val (.int y), .val (.int z), .val (.ref ca), .unset] [(.int x)])) rfl (by rw [hml]; rfl) (lenOf pd_18 rfl) rfl (W := 0) (by show 2 * 0 + _ ≤ _; exact Nat.le_of_eq rfl) (hb hby at_127) (by decide) (by decide) (by decide) (by decide)
        obtain ⟨rfl, rfl, e189⟩ := hQ189
        rw [List.append_nil] at X189
        refine GoOn.step st189 ?_
        show GoOn p e below _ (T189.setTop (mkF m 130 #[.val (.int q0), .val (.int q1), .val (.int q2), .val (.int q3), .val (.int (q0 &&& (3 : Int32))), .val (.int x), .val (.int y), .val (.int z), .val (.ref ca), .unset] [(.int (bo x))]))
        refine GoOn.step (fun t₀ k₀ => XS.iload X189.here hx rfl (hb hby at_130) rfl k₀) ?_
        show GoOn p e below _ (T189.setTop (mkF m 132 #[.val (.int q0), .val (.int q1), .val (.int q2), .val (.int q3), .val (.int (q0 &&& (3 : Int32))), .val (.int x), .val (.int y), .val (.int z), .val (.ref ca), .unset] [(.int y), (.int (bo x))]))
        obtain ⟨_, T190, L190, X190, hQ190, st190⟩ := kCallS X189 hx hZ (argsL := [(.int y)]) (rest := [(.int (bo x))]) (c_bo l Z a0 hw y h188) hown (hw _ (List.mem_of_getElem? (i := 38) rfl)) (hw _ (List.mem_of_getElem? (i := 39) rfl)) (hw _ (List.mem_of_getElem? (i := 40) rfl)) (hw _ (List.mem_of_getElem? (i := 41) rfl)) (by decide) e189 (g := (mkF m 132 #[.val (.int q0), .val (.int q1), .val (.int q2), .val (.int q3), .val (.int (q0 &&& (3 : Int32))), .val (.int x), .val (.int y), .val (.int z), .val (.ref ca), .unset] [(.int y), (.int (bo x))])) rfl (by rw [hml]; rfl) (lenOf pd_18 rfl) rfl (W := 1) (by show 2 * 0 + _ ≤ _; exact Nat.le_of_eq rfl) (hb hby at_132) (by decide) (by decide) (by decide) (by decide)
        obtain ⟨rfl, rfl, e190⟩ := hQ190
        rw [List.append_nil] at X190
        refine GoOn.step st190 ?_
        show GoOn p e below _ (T190.setTop (mkF m 135 #[.val (.int q0), .val (.int q1), .val (.int q2), .val (.int q3), .val (.int (q0 &&& (3 : Int32))), .val (.int x), .val (.int y), .val (.int z), .val (.ref ca), .unset] [(.int (bo y)), (.int (bo x))]))
        refine GoOn.step (fun t₀ k₀ => XS.iadd X190.here hx rfl (hb hby at_135) rfl k₀) ?_
        show GoOn p e below _ (T190.setTop (mkF m 136 #[.val (.int q0), .val (.int q1), .val (.int q2), .val (.int q3), .val (.int (q0 &&& (3 : Int32))), .val (.int x), .val (.int y), .val (.int z), .val (.ref ca), .unset] [(.int ((bo x) + (bo y)))]))
        refine GoOn.step (fun t₀ k₀ => XS.iload X190.here hx rfl (hb hby at_136) rfl k₀) ?_
        show GoOn p e below _ (T190.setTop (mkF m 138 #[.val (.int q0), .val (.int q1), .val (.int q2), .val (.int q3), .val (.int (q0 &&& (3 : Int32))), .val (.int x), .val (.int y), .val (.int z), .val (.ref ca), .unset] [(.int z), (.int ((bo x) + (bo y)))]))
        obtain ⟨_, T191, L191, X191, hQ191, st191⟩ := kCallS X190 hx hZ (argsL := [(.int z)]) (rest := [(.int ((bo x) + (bo y)))]) (c_bo l Z a0 hw z h188) hown (hw _ (List.mem_of_getElem? (i := 38) rfl)) (hw _ (List.mem_of_getElem? (i := 39) rfl)) (hw _ (List.mem_of_getElem? (i := 40) rfl)) (hw _ (List.mem_of_getElem? (i := 41) rfl)) (by decide) e190 (g := (mkF m 138 #[.val (.int q0), .val (.int q1), .val (.int q2), .val (.int q3), .val (.int (q0 &&& (3 : Int32))), .val (.int x), .val (.int y), .val (.int z), .val (.ref ca), .unset] [(.int z), (.int ((bo x) + (bo y)))])) rfl (by rw [hml]; rfl) (lenOf pd_18 rfl) rfl (W := 1) (by show 2 * 0 + _ ≤ _; exact Nat.le_of_eq rfl) (hb hby at_138) (by decide) (by decide) (by decide) (by decide)
        obtain ⟨rfl, rfl, e191⟩ := hQ191
        rw [List.append_nil] at X191
        refine GoOn.step st191 ?_
        show GoOn p e below _ (T191.setTop (mkF m 141 #[.val (.int q0), .val (.int q1), .val (.int q2), .val (.int q3), .val (.int (q0 &&& (3 : Int32))), .val (.int x), .val (.int y), .val (.int z), .val (.ref ca), .unset] [(.int (bo z)), (.int ((bo x) + (bo y)))]))
        refine GoOn.step (fun t₀ k₀ => XS.iadd X191.here hx rfl (hb hby at_141) rfl k₀) ?_
        show GoOn p e below _ (T191.setTop (mkF m 142 #[.val (.int q0), .val (.int q1), .val (.int q2), .val (.int q3), .val (.int (q0 &&& (3 : Int32))), .val (.int x), .val (.int y), .val (.int z), .val (.ref ca), .unset] [(.int (((bo x) + (bo y)) + (bo z)))]))
        refine GoOn.step (fun t₀ k₀ => XS.istore X191.here hx rfl (hb hby at_142) rfl (l' := #[.val (.int q0), .val (.int q1), .val (.int q2), .val (.int q3), .val (.int (q0 &&& (3 : Int32))), .val (.int x), .val (.int y), .val (.int z), .val (.ref ca), .val (.int (((bo x) + (bo y)) + (bo z)))]) rfl k₀) ?_
        show GoOn p e below _ (T191.setTop (mkF m 144 #[.val (.int q0), .val (.int q1), .val (.int q2), .val (.int q3), .val (.int (q0 &&& (3 : Int32))), .val (.int x), .val (.int y), .val (.int z), .val (.ref ca), .val (.int (((bo x) + (bo y)) + (bo z)))] []))
        have Jc : Jar Z h188 ca .char 3 (fun i => .int ((gg x y z) i)) := jc3 J_ca (by simp [gg, nc0, nc1, nc2, narC b_x, narC b_y, narC b_z]) (by simp [gg, nc0, nc1, nc2, narC b_x, narC b_y, narC b_z]) (by simp [gg, nc0, nc1, nc2, narC b_x, narC b_y, narC b_z])
        obtain ⟨T192, h192, X192, e192, E192, A192, D192, -, st192⟩ := newO X191 hx hZ hown (hw _ (List.mem_of_getElem? (i := 2) rfl)) (hw _ (List.mem_of_getElem? (i := 3) rfl)) (hw _ (List.mem_of_getElem? (i := 4) rfl)) e191 (g := (mkF m 144 #[.val (.int q0), .val (.int q1), .val (.int q2), .val (.int q3), .val (.int (q0 &&& (3 : Int32))), .val (.int x), .val (.int y), .val (.int z), .val (.ref ca), .val (.int (((bo x) + (bo y)) + (bo z)))] [])) rfl (hb hby at_144) (by decide) (by decide)
        obtain ⟨st, g192⟩ : ∃ z, z = h188.size := ⟨_, rfl⟩
        rw [← g192] at A192 D192 st192
        have lt_ca_st : ca < st := by rw [g192]; exact Jc.lt
        have ne_ca_st : ca ≠ st := Nat.ne_of_lt lt_ca_st
        have le_st : n0 ≤ st := by rw [g192]; exact Z0
        replace Jc := Jc.ext E192
        replace O := O.ext E192
        replace Z0 := Nat.le_trans Z0 E192.1
        have Ex_st : Exa Z h192 st "java/lang/String" := A192
        have F_value_st : Fld Z h192 st "java/lang/String" "value" "[B" .null := D192 (Or.inr (hw _ (List.mem_of_getElem? (i := 17) rfl))) (ty := (.array .byte)) (by decide)
        have F_coder_st : Fld Z h192 st "java/lang/String" "coder" "B" (.int (0 : Int32)) := D192 (Or.inr (hw _ (List.mem_of_getElem? (i := 18) rfl))) (ty := .byte) (by decide)
        refine GoOn.step st192 ?_
        show GoOn p e below _ (T192.setTop (mkF m 147 #[.val (.int q0), .val (.int q1), .val (.int q2), .val (.int q3), .val (.int (q0 &&& (3 : Int32))), .val (.int x), .val (.int y), .val (.int z), .val (.ref ca), .val (.int (((bo x) + (bo y)) + (bo z)))] [(.ref st)]))
        refine GoOn.step (fun t₀ k₀ => XS.dup X192.here hx rfl (hb hby at_147) rfl rfl k₀) ?_
        show GoOn p e below _ (T192.setTop (mkF m 148 #[.val (.int q0), .val (.int q1), .val (.int q2), .val (.int q3), .val (.int (q0 &&& (3 : Int32))), .val (.int x), .val (.int y), .val (.int z), .val (.ref ca), .val (.int (((bo x) + (bo y)) + (bo z)))] [(.ref st), (.ref st)]))
        refine GoOn.step (fun t₀ k₀ => XS.aload X192.here hx rfl (hb hby at_148) rfl rfl k₀) ?_
        show GoOn p e below _ (T192.setTop (mkF m 150 #[.val (.int q0), .val (.int q1), .val (.int q2), .val (.int q3), .val (.int (q0 &&& (3 : Int32))), .val (.int x), .val (.int y), .val (.int z), .val (.ref ca), .val (.int (((bo x) + (bo y)) + (bo z)))] [(.ref ca), (.ref st), (.ref st)]))
        obtain ⟨_, T193, L193, X193, hQ193, st193⟩ := kCallI X192 hx hZ (a := st) (argsL := [(.ref ca)]) (rest := [(.ref st)]) (c_in3 l Z a0 hw st ca (gg x y z) cs fv h192 n0 Z0 O SS Ex_st F_value_st F_coder_st le_st Jc Cg) rfl hown (hw _ (List.mem_of_getElem? (i := 5) rfl)) (hw _ (List.mem_of_getElem? (i := 6) rfl)) (hw _ (List.mem_of_getElem? (i := 4) rfl)) (hw _ (List.mem_of_getElem? (i := 7) rfl)) (by decide) e192 (g := (mkF m 150 #[.val (.int q0), .val (.int q1), .val (.int q2), .val (.int q3), .val (.int (q0 &&& (3 : Int32))), .val (.int x), .val (.int y), .val (.int z), .val (.ref ca), .val (.int (((bo x) + (bo y)) + (bo z)))] [(.ref ca), (.ref st), (.ref st)])) rfl (by rw [hml]; rfl) (lenOf pd_16 rfl) rfl (W := 1) (by show 2 * 0 + _ ≤ _; exact Nat.le_of_eq rfl) (hb hby at_150) (by decide) (by decide) (by decide) (by decide)
        obtain ⟨rfl, N193, K193, SO⟩ := hQ193
        replace N0 := Fr.app N0 N193
        replace O := O.keep K193 (allS le_st all0)
        have Ex := SO.1
        refine GoOn.step st193 ?_
        show GoOn p e below _ (T193.setTop (mkF m 153 #[.val (.int q0), .val (.int q1), .val (.int q2), .val (.int q3), .val (.int (q0 &&& (3 : Int32))), .val (.int x), .val (.int y), .val (.int z), .val (.ref ca), .val (.int (((bo x) + (bo y)) + (bo z)))] [(.ref st)]))
        obtain ⟨_, T194, L194, X194, hQ194, st194⟩ := kCallS X193 hx hZ (argsL := [(.ref st)]) (rest := []) (c_ml3 l Z a0 hw st (gg x y z) cs fv T193.heap n0 O SS SO Cg) hown (hw _ (List.mem_of_getElem? (i := 23) rfl)) (hw _ (List.mem_of_getElem? (i := 24) rfl)) (hw _ (List.mem_of_getElem? (i := 25) rfl)) (hw _ (List.mem_of_getElem? (i := 26) rfl)) (by decide) rfl (g := (mkF m 153 #[.val (.int q0), .val (.int q1), .val (.int q2), .val (.int q3), .val (.int (q0 &&& (3 : Int32))), .val (.int x), .val (.int y), .val (.int z), .val (.ref ca), .val (.int (((bo x) + (bo y)) + (bo z)))] [(.ref st)])) rfl (by rw [hml]; rfl) (lenOf pd_17 rfl) rfl (W := 0) (by show 2 * 0 + _ ≤ _; exact Nat.le_of_eq rfl) (hb hby at_153) (by decide) (by decide) (by decide) (by decide)
        obtain ⟨rfl, rfl, e194⟩ := hQ194
        rw [List.append_nil] at X194
        refine GoOn.step st194 ?_
        show GoOn p e below _ (T194.setTop (mkF m 156 #[.val (.int q0), .val (.int q1), .val (.int q2), .val (.int q3), .val (.int (q0 &&& (3 : Int32))), .val (.int x), .val (.int y), .val (.int z), .val (.ref ca), .val (.int (((bo x) + (bo y)) + (bo z)))] [(.int ((((0 : Int32) + bo ((gg x y z) 0)) + bo ((gg x y z) 1)) + bo ((gg x y z) 2)))]))
        refine GoOn.step (fun t₀ k₀ => XS.iload X194.here hx rfl (hb hby at_156) rfl k₀) ?_
        show GoOn p e below _ (T194.setTop (mkF m 158 #[.val (.int q0), .val (.int q1), .val (.int q2), .val (.int q3), .val (.int (q0 &&& (3 : Int32))), .val (.int x), .val (.int y), .val (.int z), .val (.ref ca), .val (.int (((bo x) + (bo y)) + (bo z)))] [(.int (((bo x) + (bo y)) + (bo z))), (.int ((((0 : Int32) + bo ((gg x y z) 0)) + bo ((gg x y z) 1)) + bo ((gg x y z) 2)))]))
        have hf195 : ((((0 : Int32) + bo ((gg x y z) 0)) + bo ((gg x y z) 1)) + bo ((gg x y z) 2)) = (((bo x) + (bo y)) + (bo z)) := (by simp [gg])
        refine GoOn.step (fun t₀ k₀ => XS.icmpNo X194.here hx rfl (hb hby at_158) rfl (teq hf195).2 k₀) ?_
        show GoOn p e below _ (T194.setTop (mkF m 161 #[.val (.int q0), .val (.int q1), .val (.int q2), .val (.int q3), .val (.int (q0 &&& (3 : Int32))), .val (.int x), .val (.int y), .val (.int z), .val (.ref ca), .val (.int (((bo x) + (bo y)) + (bo z)))] []))
        refine GoOn.step (fun t₀ k₀ => XS.iconst X194.here hx rfl (hb hby at_161) k₀) ?_
        show GoOn p e below _ (T194.setTop (mkF m 162 #[.val (.int q0), .val (.int q1), .val (.int q2), .val (.int q3), .val (.int (q0 &&& (3 : Int32))), .val (.int x), .val (.int y), .val (.int z), .val (.ref ca), .val (.int (((bo x) + (bo y)) + (bo z)))] [(.int (1 : Int32))]))
        refine GoOn.step (fun t₀ k₀ => XS.goto X194.here hx rfl (pc0 := 162) (pc' := 166) rfl (hb hby at_162) (by decide) (by decide) k₀) ?_
        show GoOn p e below _ (T194.setTop (mkF m 166 #[.val (.int q0), .val (.int q1), .val (.int q2), .val (.int q3), .val (.int (q0 &&& (3 : Int32))), .val (.int x), .val (.int y), .val (.int z), .val (.ref ca), .val (.int (((bo x) + (bo y)) + (bo z)))] [(.int (1 : Int32))]))
        exact GoOn.retNS (X194.retabled X194.warmed.wide) (X194.warmed.since _) (Nat.le_refl _) hx hrt hlk (by simp) (hb hby at_166) (by decide) (by decide) (by first | exact ⟨rfl, N0⟩ | (rw [e194]; exact ⟨rfl, N0⟩))
theorem neqI {s : State} {args : Array Value} {t : Term} {n k : Int32} (ev : t.eval args s none [] s = some (.int k)) (w : (Jvm.Cond.not (Jvm.Cond.eq t (.int n))).value args s none s [] = some true) : k ≠ n := by
  simpa [Cond.value, Term.eval, ev] using w
theorem isR_v {s : State} {args : Array Value} {t : Term} (w : (Jvm.Cond.isRef t).value args s none s [] = some true) : ∃ v, t.eval args s none [] s = some v ∧ v.isRef = true := by
  cases ht : t.eval args s none [] s with
  | none => simp [Cond.value, ht] at w
  | some x => exact ⟨x, rfl, by cases x <;> simp_all [Cond.value, Value.isRef]⟩
theorem stt_of {s : State} {args : Array Value} (hsets : ∀ d ∈ jdkStatics_1, d.before args s = true) : ∃ cs fv, Stt s cs fv := by
  obtain ⟨cs, ev⟩ := is_v (Cond.before_iff.mp (hsets _ (List.mem_of_getElem? (i := 1) rfl)))
  have hne := Cond.before_iff.mp (hsets _ (List.mem_of_getElem? (i := 2) rfl))
  obtain ⟨fv, ef, hf⟩ := isR_v (Cond.before_iff.mp (hsets _ (List.mem_of_getElem? (i := 8) rfl)))
  refine ⟨cs, fv, ?_, hf, Sta.start ev (Or.inl (hsets _ (List.mem_of_getElem? (i := 0) rfl))), Sta.start ef (Or.inl (hsets _ (List.mem_of_getElem? (i := 7) rfl))), Sta.start (own_eqI (Cond.before_iff.mp (hsets _ (List.mem_of_getElem? (i := 12) rfl)))) (Or.inl (hsets _ (List.mem_of_getElem? (i := 11) rfl))), Sta.start (own_eqI (Cond.before_iff.mp (hsets _ (List.mem_of_getElem? (i := 15) rfl)))) (Or.inl (hsets _ (List.mem_of_getElem? (i := 14) rfl))), Sta.start (own_eqI (Cond.before_iff.mp (hsets _ (List.mem_of_getElem? (i := 18) rfl)))) (Or.inl (hsets _ (List.mem_of_getElem? (i := 17) rfl)))⟩
  exact neqI ev hne
set_option maxRecDepth 65536 in
set_option maxHeartbeats 40000000 in
theorem comes_1 {Post : Tables → Env → Array Value → State → Outcome → State → Prop} (hpost : ∀ tb e args s v u, (limb_1_1.after args s (.returned v) u = true ∧ limb_1_2.after args s (.returned v) u = true ∧ True) → ReturnedEndW s (.returned v) u (Jvm.fieldLocs frame_1_writes args s ++ Jvm.arrayLocs frame_1_arrays args s ++ Jvm.staticLocs frame_1_statics s) 24 1152 → Post tb e args s (.returned v) u) :
    ArmFor flags0 classFile x code maxLocals ret World_1 tables_1 room_1 Calls_1 rest_1 Pre_1 Post := by
  intro l hfl _ _ p e ha hc hk s m args below hf hA hF happ hP
  obtain ⟨hcalls, hrest, hpre⟩ := hP
  obtain ⟨-, -, -, hnamed, -, -, -, hat⟩ := (Spec.applies_iff hf).mp happ
  obtain ⟨hg, hn⟩ := and_e (Cond.before_iff.mp (show (Jvm.Cond.and given_1 narrow_1).before args s = true from hpre))
  obtain ⟨g0, r0⟩ := and_e hg
  obtain ⟨g1, r1⟩ := and_e r0
  obtain ⟨g2, r2⟩ := and_e r1
  obtain ⟨g3, r3⟩ := and_e r2
  obtain ⟨w0, w1, w2, w3, rfl⟩ : ∃ w0 w1 w2 w3 : Value, args = #[w0, w1, w2, w3] := by
    have hs : args.size = 4 := by simpa [Cond.value, given_1] using g0
    obtain ⟨L⟩ := args
    match L, hs with
    | [w0, w1, w2, w3], _ => exact ⟨w0, w1, w2, w3, rfl⟩
  have hw := fun d (hd : d ∈ tables_1) => atoms_spec (ws := Jvm.Cond.code x code maxLocals ret :: tables_1) hat d (List.mem_cons_of_mem _ hd)
  have hfit : Fit s := fun {y c} hc i hi => by
    obtain ⟨ha, rfl⟩ := Array.getElem?_eq_some_iff.mp hc
    have q := List.all_eq_true.mp ((Array.all_eq_true_iff_forall_mem.mp hF) _ (Array.getElem_mem ha)) i (List.mem_range.mpr hi)
    simpa [Array.getElem?_eq_getElem hi] using q
  obtain ⟨hsets, hown0⟩ := atoms_of _ (rest_1_c_eq ▸ (show rest_1_c.before _ s = true from hrest))
  have hr0 := Cond.before_iff.mp hown0
  obtain ⟨i0, ei0⟩ := is_v g1
  obtain rfl : w0 = (.int i0) := Option.some.inj ei0
  obtain ⟨i1, ei1⟩ := is_v g2
  obtain rfl : w1 = (.int i1) := Option.some.inj ei1
  obtain ⟨i2, ei2⟩ := is_v g3
  obtain rfl : w2 = (.int i2) := Option.some.inj ei2
  obtain ⟨i3, ei3⟩ := is_v r3
  obtain rfl : w3 = (.int i3) := Option.some.inj ei3
  obtain ⟨cs, fv, SS⟩ := stt_of hsets
  have HCH : CHv s consts_1 s.vm s.heap := CHv.start (ew_1 hw) (fun p hp => hcalls.1 p hp) (hsets _ (List.mem_of_getElem? (i := 2) rfl)) (hw _ (List.mem_of_getElem? (i := 16) rfl)) (hw _ (List.mem_of_getElem? (i := 3) rfl))
  obtain ⟨n, o, h1, h2, h3, _, L, rfl, ⟨rfl, N⟩, hq⟩ := law_ok l s _ hw i0 i1 i2 i3 cs fv s.heap s.heap.size (Nat.le_refl _) (Old.start s) SS tables_1 p e ha hc hk s m _ below hf ((Spec.applies_iff_loose hf).mp happ).1 ⟨rfl, State.Warmed39.refl s, rfl, HCH⟩ trivial
  refine ⟨n, _, h1, h2, h3, hpost _ _ _ _ _ _ ⟨Cond.after_iff.mpr rfl, Cond.after_iff.mpr (eq_i res_at (Term.int_eval (1)) rfl), trivial⟩ ⟨hq.1, hq.2.1, hq.2.2.1, (hq.2.2.2.sift fun y hy => Or.inr (N y hy)).mono (by decide) (by decide)⟩⟩
theorem main_1_1 : Claimed_1_1 := comes_1 fun _ _ _ _ _ _ h hF => ⟨h.1, hF⟩
theorem main_1_2 : Claimed_1_2 := comes_1 fun _ _ _ _ _ _ h hF => ⟨h.2.1, hF⟩
end Jvm.Pilot.@@N@@
namespace Jvm.Pilot.@@N@@
open Jvm Jvm.ClassFile Sem Op Lib Jvm.Free Jvm.Stand Jvm.Pilot.@@N@@.Jvm.D
/-! MADE BY PROGRAM (witnessworld.py) out of the Statement's table words and the real class files: 20 classes; the members and pool entries that the words name. The judged class is class 1, her method 2. -/
namespace start1
open Jvm.ClassFile
def u (s : String) : CpInfo := .utf8 (stringToUtf16 s)
/-- a pool by its gaps: so many unusable entries, then the entry; so many at the end -/
def gap : Nat → List CpInfo → List CpInfo
  | 0, r => r
  | n + 1, r => .unusable :: gap n r
def poolList (es : List (Nat × CpInfo)) (last : Nat) : List CpInfo := es.foldr (fun e r => gap e.1 (e.2 :: r)) (gap last [])
def pool (es : List (Nat × CpInfo)) (last : Nat) : Array CpInfo := ⟨poolList es last⟩
def fileOf (pool : Array CpInfo) (this : Nat) (attrs : Array Attribute := #[]) (ms : Array MethodInfo := #[]) (fl : Nat := 33) (sup : Nat := 0) (ifs : Array Nat := #[]) (fds : Array FieldInfo := #[]) : ClassFile where
  minorVersion := 0
  majorVersion := 65
  constantPool := pool
  accessFlags := fl
  thisClass := this
  superClass := sup
  interfaces := ifs
  fields := fds
  methods := ms
  attributes := attrs
def plain (name : String) (sup : Option ClassId) : Class where
  name := name
  kind := .ordinary
  loader := none
  accessFlags := 33
  super := sup
  interfaces := #[]
  cf := none
  fields := #[]
  methods := #[]
  instanceTypes := #[]
  staticTypes := #[]
  resolved := #[]
  callSites := []
  init := .initialized
  statics := none
  mirror := none

def pool0 : Array CpInfo := pool [(5, u "<init>"), (0, u "()V"), (1, .class_ 10), (1, u "java/lang/Object")] 113

def k0c0 : Code := { maxStack := 0, maxLocals := 1, code := object_method_1_code, exceptionTable := #[], attributes := #[] }
def k0m0 : Method := { name := "<init>", desc := "()V", sig := { parameters := [], returnType := none }, accessFlags := 1, code := some k0c0 }
/-- java/lang/Object -/
def k0 : Class := { plain "java/lang/Object" none with
  accessFlags := 33
  interfaces := #[]
  cf := some (fileOf pool0 8 #[] #[{ accessFlags := 1, nameIndex := 5, descriptorIndex := 6, attributes := #[] }] 33 0 #[] #[])
  fields := #[]
  methods := #[k0m0]
  instanceTypes := #[]
  staticTypes := #[]
  resolved := Array.replicate 124 none
  statics := none }

def pool1 : Array CpInfo := pool [(2, .class_ 4), (1, u "java/lang/Object"), (0, u "<init>"), (0, u "()V"), (0, .integer 65535), (0, .methodref 9 10), (0, .class_ 11), (0, .nameAndType 12 13), (0, u "com/example/lanthorn/lanthorn/core/ModifiedUtf8LengthPinLaw"), (0, u "bytesOf"), (0, u "(C)I"), (0, .class_ 15), (0, u "java/lang/String"), (0, .methodref 14 17), (0, .nameAndType 5 18), (0, u "([C)V"), (0, .methodref 20 21), (0, .class_ 22), (0, .nameAndType 23 24), (0, u "com/example/lanthorn/lanthorn/core/ModifiedUtf8"), (0, u "length"), (0, u "(Ljava/lang/String;)I"), (3, u "law"), (0, u "(IIII)Z")] 4

def k1m0 : Method := { name := "<init>", desc := "()V", sig := { parameters := [], returnType := none }, accessFlags := 2, code := none }
def k1c1 : Code := { maxStack := 2, maxLocals := 1, code := method_2_code, exceptionTable := #[], attributes := #[] }
def k1m1 : Method := { name := "bytesOf", desc := "(C)I", sig := { parameters := [.char], returnType := some .int }, accessFlags := 10, code := some k1c1 }
def k1c2 : Code := { maxStack := 4, maxLocals := 10, code := code, exceptionTable := #[], attributes := #[] }
def k1m2 : Method := { name := "law", desc := "(IIII)Z", sig := { parameters := [.int, .int, .int, .int], returnType := some .boolean }, accessFlags := 9, code := some k1c2 }
/-- com/example/lanthorn/lanthorn/core/ModifiedUtf8LengthPinLaw -/
def k1 : Class := { plain "com/example/lanthorn/lanthorn/core/ModifiedUtf8LengthPinLaw" (some 0) with
  accessFlags := 49
  interfaces := #[]
  cf := some (fileOf pool1 9 #[] #[{ accessFlags := 2, nameIndex := 5, descriptorIndex := 6, attributes := #[] }, { accessFlags := 10, nameIndex := 12, descriptorIndex := 13, attributes := #[] }, { accessFlags := 9, nameIndex := 28, descriptorIndex := 29, attributes := #[] }] 49 2 #[] #[])
  fields := #[]
  methods := #[k1m0, k1m1, k1m2]
  instanceTypes := #[]
  staticTypes := #[]
  resolved := Array.replicate 34 none
  statics := none }

def pool2 : Array CpInfo := pool [(1, .class_ 2), (0, u "java/io/Serializable"), (0, .class_ 4), (0, u "java/lang/Object")] 2

/-- java/io/Serializable -/
def k2 : Class := { plain "java/io/Serializable" (some 0) with
  accessFlags := 1537
  interfaces := #[]
  cf := some (fileOf pool2 1 #[] #[] 1537 3 #[] #[])
  fields := #[]
  methods := #[]
  instanceTypes := #[]
  staticTypes := #[]
  resolved := Array.replicate 7 none
  statics := none }

def pool3 : Array CpInfo := pool [(1, .class_ 2), (0, u "java/lang/Comparable"), (0, .class_ 4), (0, u "java/lang/Object")] 7

/-- java/lang/Comparable -/
def k3 : Class := { plain "java/lang/Comparable" (some 0) with
  accessFlags := 1537
  interfaces := #[]
  cf := some (fileOf pool3 1 #[] #[] 1537 3 #[] #[])
  fields := #[]
  methods := #[]
  instanceTypes := #[]
  staticTypes := #[]
  resolved := Array.replicate 12 none
  statics := none }

def pool4 : Array CpInfo := pool [(2, .class_ 4), (1, u "java/lang/CharSequence"), (42, .class_ 48), (0, u "java/lang/CharSequence$1CodePointIterator"), (10, .class_ 60), (0, u "java/lang/CharSequence$1CharIterator"), (5, .class_ 67), (0, u "java/lang/Object")] 63

/-- java/lang/CharSequence -/
def k4 : Class := { plain "java/lang/CharSequence" (some 0) with
  accessFlags := 1537
  interfaces := #[]
  cf := some (fileOf pool4 2 #[.nestMembers #[47, 59]] #[] 1537 66 #[] #[])
  fields := #[]
  methods := #[]
  instanceTypes := #[]
  staticTypes := #[]
  resolved := Array.replicate 131 none
  statics := none }

def pool5 : Array CpInfo := pool [(1, .class_ 2), (0, u "java/lang/constant/Constable"), (0, .class_ 4), (0, u "java/lang/Object")] 6

/-- java/lang/constant/Constable -/
def k5 : Class := { plain "java/lang/constant/Constable" (some 0) with
  accessFlags := 1537
  interfaces := #[]
  cf := some (fileOf pool5 1 #[] #[] 1537 3 #[] #[])
  fields := #[]
  methods := #[]
  instanceTypes := #[]
  staticTypes := #[]
  resolved := Array.replicate 11 none
  statics := none }

def pool6 : Array CpInfo := pool [(1, .class_ 2), (0, u "java/lang/constant/ConstantDesc"), (0, .class_ 4), (0, u "java/lang/Object")] 32

/-- java/lang/constant/ConstantDesc -/
def k6 : Class := { plain "java/lang/constant/ConstantDesc" (some 0) with
  accessFlags := 1537
  interfaces := #[]
  cf := some (fileOf pool6 1 #[] #[] 1537 3 #[] #[])
  fields := #[]
  methods := #[]
  instanceTypes := #[]
  staticTypes := #[]
  resolved := Array.replicate 37 none
  statics := none }

def pool7 : Array CpInfo := pool [(1, .methodref 2 3), (0, .class_ 4), (0, .nameAndType 5 6), (0, u "java/lang/Object"), (0, u "<init>"), (0, u "()V"), (0, .string 8), (0, u ""), (0, .fieldref 10 11), (0, .class_ 12), (0, .nameAndType 13 14), (0, u "java/lang/String"), (0, u "value"), (0, u "[B"), (0, .fieldref 10 16), (0, .nameAndType 17 18), (0, u "coder"), (0, u "B"), (2, u "hash"), (0, u "I"), (2, u "hashIsZero"), (0, u "Z"), (0, .methodref 10 28), (0, .nameAndType 5 29), (0, u "([CIILjava/lang/Void;)V"), (8, .fieldref 10 39), (0, .nameAndType 40 26), (0, u "COMPACT_STRINGS"), (1, .class_ 44), (1, u "java/lang/StringUTF16"), (0, u "compress"), (1, .methodref 42 48), (0, .nameAndType 49 50), (0, u "coderFromArrayLen"), (0, u "([BI)B"), (56, .class_ 109), (1, u "java/lang/StringLatin1"), (32, u "()Z"), (34, .methodref 42 178), (0, .nameAndType 45 179), (0, u "([CII)[B"), (154, u "()I"), (0, .methodref 10 336), (0, .nameAndType 17 337), (0, u "()B"), (25, u "([BI)C"), (27, u "(II)V"), (35, u "(I)C"), (64, .methodref 10 493), (0, .nameAndType 494 142), (0, u "isLatin1"), (0, .methodref 107 496), (0, .nameAndType 497 363), (0, u "charAt"), (0, .methodref 42 496), (2, u "checkIndex"), (5, u "length"), (67, .class_ 576), (0, u "java/lang/CharSequence"), (22, u "CASE_INSENSITIVE_ORDER"), (0, u "Ljava/util/Comparator;"), (409, u "([C)V"), (42, .fieldref 1054 1055), (0, .class_ 1056), (0, .nameAndType 1057 1058), (0, u "jdk/internal/util/Preconditions"), (0, u "SIOOBE_FORMATTER"), (0, u "Ljava/util/function/BiFunction;"), (0, .methodref 1054 1060), (0, .nameAndType 501 1061), (0, u "(IILjava/util/function/BiFunction;)I"), (39, u "serialPersistentFields"), (0, u "[Ljava/io/ObjectStreamField;"), (0, .class_ 1104), (0, u "java/lang/String$CaseInsensitiveComparator"), (1, .class_ 1107), (0, u "java/io/Serializable"), (0, .class_ 1109), (0, u "java/lang/Comparable"), (0, .class_ 1111), (0, u "java/lang/constant/Constable"), (0, .class_ 1113), (0, u "java/lang/constant/ConstantDesc"), (2, u "serialVersionUID"), (0, u "J"), (3, u "REPL"), (0, u "C"), (2, u "LATIN1"), (1, u "UTF16")] 323

def k7m0 : Method := { name := "<init>", desc := "()V", sig := { parameters := [], returnType := none }, accessFlags := 1, code := none }
def k7c1 : Code := { maxStack := 5, maxLocals := 2, code := jdk_42_method_3_code, exceptionTable := #[], attributes := #[] }
def k7m1 : Method := { name := "<init>", desc := "([C)V", sig := { parameters := [(.array .char)], returnType := none }, accessFlags := 1, code := some k7c1 }
def k7c2 : Code := { maxStack := 2, maxLocals := 1, code := jdk_42_method_54_code, exceptionTable := #[], attributes := #[] }
def k7m2 : Method := { name := "length", desc := "()I", sig := { parameters := [], returnType := some .int }, accessFlags := 1, code := some k7c2 }
def k7c3 : Code := { maxStack := 2, maxLocals := 2, code := jdk_42_method_56_code, exceptionTable := #[], attributes := #[] }
def k7m3 : Method := { name := "charAt", desc := "(I)C", sig := { parameters := [.int], returnType := some .char }, accessFlags := 1, code := some k7c3 }
def k7c4 : Code := { maxStack := 4, maxLocals := 6, code := jdk_42_method_149_code, exceptionTable := #[], attributes := #[] }
def k7m4 : Method := { name := "<init>", desc := "([CIILjava/lang/Void;)V", sig := { parameters := [(.array .char), .int, .int, (.object "java/lang/Void")], returnType := none }, accessFlags := 2, code := some k7c4 }
def k7c5 : Code := { maxStack := 1, maxLocals := 1, code := jdk_42_method_152_code, exceptionTable := #[], attributes := #[] }
def k7m5 : Method := { name := "coder", desc := "()B", sig := { parameters := [], returnType := some .byte }, accessFlags := 0, code := some k7c5 }
def k7c6 : Code := { maxStack := 1, maxLocals := 1, code := jdk_42_method_154_code, exceptionTable := #[], attributes := #[] }
def k7m6 : Method := { name := "isLatin1", desc := "()Z", sig := { parameters := [], returnType := some .boolean }, accessFlags := 0, code := some k7c6 }
def k7c7 : Code := { maxStack := 3, maxLocals := 2, code := jdk_42_method_155_code, exceptionTable := #[], attributes := #[] }
def k7m7 : Method := { name := "checkIndex", desc := "(II)V", sig := { parameters := [.int, .int], returnType := none }, accessFlags := 8, code := some k7c7 }
/-- java/lang/String -/
def k7 : Class := { plain "java/lang/String" (some 0) with
  accessFlags := 49
  interfaces := #[2, 3, 4, 5, 6]
  cf := some (fileOf pool7 10 #[.nestMembers #[1103]] #[{ accessFlags := 1, nameIndex := 5, descriptorIndex := 6, attributes := #[] }, { accessFlags := 1, nameIndex := 5, descriptorIndex := 1010, attributes := #[] }, { accessFlags := 1, nameIndex := 507, descriptorIndex := 334, attributes := #[] }, { accessFlags := 1, nameIndex := 497, descriptorIndex := 427, attributes := #[] }, { accessFlags := 2, nameIndex := 5, descriptorIndex := 29, attributes := #[] }, { accessFlags := 0, nameIndex := 17, descriptorIndex := 337, attributes := #[] }, { accessFlags := 0, nameIndex := 494, descriptorIndex := 142, attributes := #[] }, { accessFlags := 8, nameIndex := 501, descriptorIndex := 391, attributes := #[] }] 49 2 #[1106, 1108, 575, 1110, 1112] #[{ accessFlags := 18, nameIndex := 13, descriptorIndex := 14, attributes := #[] }, { accessFlags := 18, nameIndex := 17, descriptorIndex := 18, attributes := #[] }, { accessFlags := 2, nameIndex := 21, descriptorIndex := 22, attributes := #[] }, { accessFlags := 2, nameIndex := 25, descriptorIndex := 26, attributes := #[] }, { accessFlags := 26, nameIndex := 1116, descriptorIndex := 1117, attributes := #[] }, { accessFlags := 24, nameIndex := 40, descriptorIndex := 26, attributes := #[] }, { accessFlags := 26, nameIndex := 1101, descriptorIndex := 1102, attributes := #[] }, { accessFlags := 26, nameIndex := 1121, descriptorIndex := 1122, attributes := #[] }, { accessFlags := 25, nameIndex := 599, descriptorIndex := 600, attributes := #[] }, { accessFlags := 24, nameIndex := 1125, descriptorIndex := 18, attributes := #[] }, { accessFlags := 24, nameIndex := 1127, descriptorIndex := 18, attributes := #[] }])
  fields := #[{ name := "value", type := (.array .byte), accessFlags := 18, slot := 0, constantValue := 0 }, { name := "coder", type := .byte, accessFlags := 18, slot := 1, constantValue := 0 }, { name := "hash", type := .int, accessFlags := 2, slot := 2, constantValue := 0 }, { name := "hashIsZero", type := .boolean, accessFlags := 2, slot := 3, constantValue := 0 }, { name := "serialVersionUID", type := .long, accessFlags := 26, slot := 0, constantValue := 0 }, { name := "COMPACT_STRINGS", type := .boolean, accessFlags := 24, slot := 1, constantValue := 0 }, { name := "serialPersistentFields", type := (.array (.object "java/io/ObjectStreamField")), accessFlags := 26, slot := 2, constantValue := 0 }, { name := "REPL", type := .char, accessFlags := 26, slot := 3, constantValue := 0 }, { name := "CASE_INSENSITIVE_ORDER", type := (.object "java/util/Comparator"), accessFlags := 25, slot := 4, constantValue := 0 }, { name := "LATIN1", type := .byte, accessFlags := 24, slot := 5, constantValue := 0 }, { name := "UTF16", type := .byte, accessFlags := 24, slot := 6, constantValue := 0 }]
  methods := #[k7m0, k7m1, k7m2, k7m3, k7m4, k7m5, k7m6, k7m7]
  instanceTypes := #[(.array .byte), .byte, .int, .boolean]
  staticTypes := #[.long, .boolean, (.array (.object "java/io/ObjectStreamField")), .char, (.object "java/util/Comparator"), .byte, .byte]
  resolved := Array.replicate 1451 none
  statics := some 0 }

def pool8 : Array CpInfo := pool [(2, .class_ 4), (1, u "java/lang/Object"), (0, u "<init>"), (0, u "()V"), (5, u "()I"), (19, .class_ 34), (1, u "com/example/lanthorn/lanthorn/core/ModifiedUtf8"), (0, u "length"), (0, u "(Ljava/lang/String;)I"), (19, .methodref 57 58), (0, .class_ 59), (0, .nameAndType 35 12), (0, u "java/lang/String"), (0, .methodref 57 61), (0, .nameAndType 62 63), (0, u "charAt"), (0, u "(I)C"), (24, u "MAX_LENGTH"), (0, u "I")] 27

def k8m0 : Method := { name := "<init>", desc := "()V", sig := { parameters := [], returnType := none }, accessFlags := 2, code := none }
def k8c1 : Code := { maxStack := 3, maxLocals := 4, code := prog_18_method_3_code, exceptionTable := #[], attributes := #[] }
def k8m1 : Method := { name := "length", desc := "(Ljava/lang/String;)I", sig := { parameters := [(.object "java/lang/String")], returnType := some .int }, accessFlags := 8, code := some k8c1 }
/-- com/example/lanthorn/lanthorn/core/ModifiedUtf8 -/
def k8 : Class := { plain "com/example/lanthorn/lanthorn/core/ModifiedUtf8" (some 0) with
  accessFlags := 48
  interfaces := #[]
  cf := some (fileOf pool8 32 #[] #[{ accessFlags := 2, nameIndex := 5, descriptorIndex := 6, attributes := #[] }, { accessFlags := 8, nameIndex := 35, descriptorIndex := 36, attributes := #[] }] 48 2 #[] #[{ accessFlags := 24, nameIndex := 88, descriptorIndex := 89, attributes := #[] }])
  fields := #[{ name := "MAX_LENGTH", type := .int, accessFlags := 24, slot := 0, constantValue := 0 }]
  methods := #[k8m0, k8m1]
  instanceTypes := #[]
  staticTypes := #[.int]
  resolved := Array.replicate 117 none
  statics := none }

def pool9 : Array CpInfo := pool [(3, .class_ 4), (0, u "java/lang/String"), (1, .class_ 8), (1, u "java/lang/Object"), (0, u "<init>"), (0, u "()V"), (0, .methodref 12 13), (0, .class_ 14), (0, .nameAndType 15 16), (0, u "java/lang/StringUTF16"), (0, u "newBytesLength"), (0, u "(I)I"), (3, .integer 1073741823), (23, .fieldref 12 45), (0, .nameAndType 46 47), (0, u "$assertionsDisabled"), (0, u "Z"), (0, .methodref 12 49), (0, .nameAndType 50 51), (0, u "length"), (0, u "([B)I"), (7, .fieldref 12 60), (0, .nameAndType 61 62), (0, u "HI_BYTE_SHIFT"), (0, u "I"), (0, .fieldref 12 64), (0, .nameAndType 65 62), (0, u "LO_BYTE_SHIFT"), (1, .methodref 12 68), (0, .nameAndType 69 70), (0, u "checkIndex"), (0, u "(I[B)V"), (0, .methodref 12 72), (0, .nameAndType 73 74), (0, u "getChar"), (0, u "([BI)C"), (32, .methodref 12 108), (0, .nameAndType 109 110), (0, u "newBytesFor"), (0, u "(I)[B"), (0, .methodref 12 112), (0, .nameAndType 113 114), (0, u "putChar"), (0, u "([BII)V"), (0, .methodref 12 116), (0, .nameAndType 117 118), (0, u "compress"), (0, u "([CI[BII)I"), (0, .methodref 12 120), (0, .nameAndType 121 122), (0, u "toBytes"), (0, u "([CII)[B"), (138, u "coderFromArrayLen"), (0, u "([BI)B"), (106, .class_ 371), (1, u "java/lang/StringUTF16$LinesSpliterator"), (20, u "charAt"), (21, .methodref 3 415), (0, .nameAndType 69 416), (0, u "(II)V"), (13, u "MAX_LENGTH"), (196, .class_ 628), (0, u "java/lang/StringUTF16$CodePointsSpliterator"), (0, .class_ 630), (0, u "java/lang/StringUTF16$CharsSpliterator")] 4

def k9m0 : Method := { name := "<init>", desc := "()V", sig := { parameters := [], returnType := none }, accessFlags := 0, code := none }
def k9c1 : Code := { maxStack := 1, maxLocals := 1, code := jdk_52_method_2_code, exceptionTable := #[], attributes := #[] }
def k9m1 : Method := { name := "newBytesFor", desc := "(I)[B", sig := { parameters := [.int], returnType := some (.array .byte) }, accessFlags := 9, code := some k9c1 }
def k9c2 : Code := { maxStack := 4, maxLocals := 1, code := jdk_52_method_3_code, exceptionTable := #[], attributes := #[] }
def k9m2 : Method := { name := "newBytesLength", desc := "(I)I", sig := { parameters := [.int], returnType := some .int }, accessFlags := 9, code := some k9c2 }
def k9c3 : Code := { maxStack := 4, maxLocals := 3, code := jdk_52_method_4_code, exceptionTable := #[], attributes := #[] }
def k9m3 : Method := { name := "putChar", desc := "([BII)V", sig := { parameters := [(.array .byte), .int, .int], returnType := none }, accessFlags := 8, code := some k9c3 }
def k9c4 : Code := { maxStack := 3, maxLocals := 2, code := jdk_52_method_5_code, exceptionTable := #[], attributes := #[] }
def k9m4 : Method := { name := "getChar", desc := "([BI)C", sig := { parameters := [(.array .byte), .int], returnType := some .char }, accessFlags := 8, code := some k9c4 }
def k9c5 : Code := { maxStack := 2, maxLocals := 1, code := jdk_52_method_6_code, exceptionTable := #[], attributes := #[] }
def k9m5 : Method := { name := "length", desc := "([B)I", sig := { parameters := [(.array .byte)], returnType := some .int }, accessFlags := 9, code := some k9c5 }
def k9c6 : Code := { maxStack := 4, maxLocals := 5, code := jdk_52_method_14_code, exceptionTable := #[], attributes := #[] }
def k9m6 : Method := { name := "toBytes", desc := "([CII)[B", sig := { parameters := [(.array .char), .int, .int], returnType := some (.array .byte) }, accessFlags := 9, code := some k9c6 }
def k9c7 : Code := { maxStack := 2, maxLocals := 2, code := jdk_52_method_15_code, exceptionTable := #[], attributes := #[] }
def k9m7 : Method := { name := "coderFromArrayLen", desc := "([BI)B", sig := { parameters := [(.array .byte), .int], returnType := some .byte }, accessFlags := 8, code := some k9c7 }
def k9c8 : Code := { maxStack := 5, maxLocals := 6, code := jdk_52_method_16_code, exceptionTable := #[], attributes := #[] }
def k9m8 : Method := { name := "compress", desc := "([CII)[B", sig := { parameters := [(.array .char), .int, .int], returnType := some (.array .byte) }, accessFlags := 9, code := some k9c8 }
def k9c9 : Code := { maxStack := 3, maxLocals := 7, code := jdk_52_method_21_code, exceptionTable := #[], attributes := #[] }
def k9m9 : Method := { name := "compress", desc := "([CI[BII)I", sig := { parameters := [(.array .char), .int, (.array .byte), .int, .int], returnType := some .int }, accessFlags := 9, code := some k9c9 }
def k9c10 : Code := { maxStack := 2, maxLocals := 2, code := jdk_52_method_83_code, exceptionTable := #[], attributes := #[] }
def k9m10 : Method := { name := "charAt", desc := "([BI)C", sig := { parameters := [(.array .byte), .int], returnType := some .char }, accessFlags := 9, code := some k9c10 }
def k9c11 : Code := { maxStack := 2, maxLocals := 2, code := jdk_52_method_91_code, exceptionTable := #[], attributes := #[] }
def k9m11 : Method := { name := "checkIndex", desc := "(I[B)V", sig := { parameters := [.int, (.array .byte)], returnType := none }, accessFlags := 9, code := some k9c11 }
/-- java/lang/StringUTF16 -/
def k9 : Class := { plain "java/lang/StringUTF16" (some 0) with
  accessFlags := 48
  interfaces := #[]
  cf := some (fileOf pool9 12 #[.nestMembers #[627, 629, 369]] #[{ accessFlags := 0, nameIndex := 9, descriptorIndex := 10, attributes := #[] }, { accessFlags := 9, nameIndex := 109, descriptorIndex := 110, attributes := #[] }, { accessFlags := 9, nameIndex := 15, descriptorIndex := 16, attributes := #[] }, { accessFlags := 8, nameIndex := 113, descriptorIndex := 114, attributes := #[] }, { accessFlags := 8, nameIndex := 73, descriptorIndex := 74, attributes := #[] }, { accessFlags := 9, nameIndex := 50, descriptorIndex := 51, attributes := #[] }, { accessFlags := 9, nameIndex := 121, descriptorIndex := 122, attributes := #[] }, { accessFlags := 8, nameIndex := 261, descriptorIndex := 262, attributes := #[] }, { accessFlags := 9, nameIndex := 117, descriptorIndex := 122, attributes := #[] }, { accessFlags := 9, nameIndex := 117, descriptorIndex := 118, attributes := #[] }, { accessFlags := 9, nameIndex := 392, descriptorIndex := 74, attributes := #[] }, { accessFlags := 9, nameIndex := 69, descriptorIndex := 70, attributes := #[] }] 48 6 #[] #[{ accessFlags := 26, nameIndex := 61, descriptorIndex := 62, attributes := #[] }, { accessFlags := 26, nameIndex := 65, descriptorIndex := 62, attributes := #[] }, { accessFlags := 24, nameIndex := 430, descriptorIndex := 62, attributes := #[] }, { accessFlags := 4120, nameIndex := 46, descriptorIndex := 47, attributes := #[] }])
  fields := #[{ name := "HI_BYTE_SHIFT", type := .int, accessFlags := 26, slot := 0, constantValue := 0 }, { name := "LO_BYTE_SHIFT", type := .int, accessFlags := 26, slot := 1, constantValue := 0 }, { name := "MAX_LENGTH", type := .int, accessFlags := 24, slot := 2, constantValue := 0 }, { name := "$assertionsDisabled", type := .boolean, accessFlags := 4120, slot := 3, constantValue := 0 }]
  methods := #[k9m0, k9m1, k9m2, k9m3, k9m4, k9m5, k9m6, k9m7, k9m8, k9m9, k9m10, k9m11]
  instanceTypes := #[]
  staticTypes := #[.int, .int, .int, .boolean]
  resolved := Array.replicate 635 none
  statics := some 1 }

def pool10 : Array CpInfo := pool [(1, .class_ 2), (0, u "java/lang/String"), (1, .class_ 6), (1, u "java/lang/Object"), (0, u "<init>"), (0, u "()V"), (0, .methodref 1 10), (0, .nameAndType 11 12), (0, u "checkIndex"), (0, u "(II)V"), (1, .class_ 16), (1, u "java/lang/StringLatin1"), (36, u "([BI)C"), (67, u "$assertionsDisabled"), (0, u "Z"), (98, .class_ 223), (1, u "java/lang/StringLatin1$LinesSpliterator"), (28, u "charAt"), (137, .class_ 391), (0, u "java/lang/StringLatin1$CharsSpliterator")] 3

def k10m0 : Method := { name := "<init>", desc := "()V", sig := { parameters := [], returnType := none }, accessFlags := 0, code := none }
def k10c1 : Code := { maxStack := 2, maxLocals := 2, code := jdk_43_method_2_code, exceptionTable := #[], attributes := #[] }
def k10m1 : Method := { name := "charAt", desc := "([BI)C", sig := { parameters := [(.array .byte), .int], returnType := some .char }, accessFlags := 9, code := some k10c1 }
/-- java/lang/StringLatin1 -/
def k10 : Class := { plain "java/lang/StringLatin1" (some 0) with
  accessFlags := 48
  interfaces := #[]
  cf := some (fileOf pool10 14 #[.nestMembers #[390, 221]] #[{ accessFlags := 0, nameIndex := 7, descriptorIndex := 8, attributes := #[] }, { accessFlags := 9, nameIndex := 252, descriptorIndex := 53, attributes := #[] }] 48 4 #[] #[{ accessFlags := 4120, nameIndex := 121, descriptorIndex := 122, attributes := #[] }])
  fields := #[{ name := "$assertionsDisabled", type := .boolean, accessFlags := 4120, slot := 0, constantValue := 0 }]
  methods := #[k10m0, k10m1]
  instanceTypes := #[]
  staticTypes := #[.boolean]
  resolved := Array.replicate 395 none
  statics := none }

def pool11 : Array CpInfo := pool [(2, .class_ 4), (1, u "java/lang/Object"), (0, u "<init>"), (0, u "()V"), (17, .class_ 26), (1, u "jdk/internal/util/Preconditions"), (6, u "checkIndex"), (21, .class_ 56), (0, u "jdk/internal/util/Preconditions$4"), (57, .class_ 115), (0, u "jdk/internal/util/Preconditions$1"), (7, u "SIOOBE_FORMATTER"), (0, u "Ljava/util/function/BiFunction;"), (0, .class_ 126), (0, u "jdk/internal/util/Preconditions$2"), (3, u "AIOOBE_FORMATTER"), (0, .class_ 132), (0, u "jdk/internal/util/Preconditions$3"), (3, u "IOOBE_FORMATTER"), (41, u "(IILjava/util/function/BiFunction;)I")] 15

def k11m0 : Method := { name := "<init>", desc := "()V", sig := { parameters := [], returnType := none }, accessFlags := 1, code := none }
def k11c1 : Code := { maxStack := 3, maxLocals := 3, code := jdk_41_method_11_code, exceptionTable := #[], attributes := #[] }
def k11m1 : Method := { name := "checkIndex", desc := "(IILjava/util/function/BiFunction;)I", sig := { parameters := [.int, .int, (.object "java/util/function/BiFunction")], returnType := some .int }, accessFlags := 9, code := some k11c1 }
/-- jdk/internal/util/Preconditions -/
def k11 : Class := { plain "jdk/internal/util/Preconditions" (some 0) with
  accessFlags := 33
  interfaces := #[]
  cf := some (fileOf pool11 24 #[.nestMembers #[55, 131, 125, 114]] #[{ accessFlags := 1, nameIndex := 5, descriptorIndex := 6, attributes := #[] }, { accessFlags := 9, nameIndex := 33, descriptorIndex := 178, attributes := #[] }] 33 2 #[] #[{ accessFlags := 25, nameIndex := 123, descriptorIndex := 124, attributes := #[] }, { accessFlags := 25, nameIndex := 130, descriptorIndex := 124, attributes := #[] }, { accessFlags := 25, nameIndex := 136, descriptorIndex := 124, attributes := #[] }])
  fields := #[{ name := "SIOOBE_FORMATTER", type := (.object "java/util/function/BiFunction"), accessFlags := 25, slot := 0, constantValue := 0 }, { name := "AIOOBE_FORMATTER", type := (.object "java/util/function/BiFunction"), accessFlags := 25, slot := 1, constantValue := 0 }, { name := "IOOBE_FORMATTER", type := (.object "java/util/function/BiFunction"), accessFlags := 25, slot := 2, constantValue := 0 }]
  methods := #[k11m0, k11m1]
  instanceTypes := #[]
  staticTypes := #[(.object "java/util/function/BiFunction"), (.object "java/util/function/BiFunction"), (.object "java/util/function/BiFunction")]
  resolved := Array.replicate 194 none
  statics := some 2 }

def pool12 : Array CpInfo := pool [(9, u "<init>"), (6, .class_ 18), (1, u "java/lang/Object"), (0, u "()V"), (1, .class_ 23), (1, u "jdk/internal/util/ArraysSupport"), (0, u "LOG2_ARRAY_LONG_INDEX_SCALE"), (0, u "I"), (2, u "U"), (0, u "Ljdk/internal/misc/Unsafe;"), (8, u "BIG_ENDIAN"), (0, u "Z"), (8, u "LOG2_BYTE_BIT_SIZE"), (4, u "LOG2_ARRAY_INT_INDEX_SCALE"), (54, u "JLA"), (0, u "Ljdk/internal/access/JavaLangAccess;"), (11, u "LOG2_ARRAY_BOOLEAN_INDEX_SCALE"), (9, u "LOG2_ARRAY_BYTE_INDEX_SCALE"), (5, u "LOG2_ARRAY_CHAR_INDEX_SCALE"), (5, u "LOG2_ARRAY_SHORT_INDEX_SCALE"), (18, u "LOG2_ARRAY_FLOAT_INDEX_SCALE"), (24, u "LOG2_ARRAY_DOUBLE_INDEX_SCALE"), (89, u "T_BOOLEAN"), (2, u "T_CHAR"), (1, u "T_FLOAT"), (1, u "T_DOUBLE"), (1, u "T_BYTE"), (1, u "T_SHORT"), (1, u "T_INT"), (1, u "T_LONG"), (1, u "SOFT_MAX_ARRAY_LENGTH")] 83

def k12m0 : Method := { name := "<init>", desc := "()V", sig := { parameters := [], returnType := none }, accessFlags := 2, code := none }
/-- jdk/internal/util/ArraysSupport -/
def k12 : Class := { plain "jdk/internal/util/ArraysSupport" (some 0) with
  accessFlags := 33
  interfaces := #[]
  cf := some (fileOf pool12 21 #[] #[{ accessFlags := 2, nameIndex := 9, descriptorIndex := 19, attributes := #[] }] 33 16 #[] #[{ accessFlags := 24, nameIndex := 28, descriptorIndex := 29, attributes := #[] }, { accessFlags := 26, nameIndex := 38, descriptorIndex := 39, attributes := #[] }, { accessFlags := 25, nameIndex := 121, descriptorIndex := 25, attributes := #[] }, { accessFlags := 25, nameIndex := 131, descriptorIndex := 25, attributes := #[] }, { accessFlags := 25, nameIndex := 137, descriptorIndex := 25, attributes := #[] }, { accessFlags := 25, nameIndex := 143, descriptorIndex := 25, attributes := #[] }, { accessFlags := 25, nameIndex := 53, descriptorIndex := 25, attributes := #[] }, { accessFlags := 25, nameIndex := 24, descriptorIndex := 25, attributes := #[] }, { accessFlags := 25, nameIndex := 162, descriptorIndex := 25, attributes := #[] }, { accessFlags := 25, nameIndex := 187, descriptorIndex := 25, attributes := #[] }, { accessFlags := 26, nameIndex := 48, descriptorIndex := 25, attributes := #[] }, { accessFlags := 25, nameIndex := 277, descriptorIndex := 25, attributes := #[] }, { accessFlags := 25, nameIndex := 280, descriptorIndex := 25, attributes := #[] }, { accessFlags := 25, nameIndex := 282, descriptorIndex := 25, attributes := #[] }, { accessFlags := 25, nameIndex := 284, descriptorIndex := 25, attributes := #[] }, { accessFlags := 25, nameIndex := 286, descriptorIndex := 25, attributes := #[] }, { accessFlags := 25, nameIndex := 288, descriptorIndex := 25, attributes := #[] }, { accessFlags := 25, nameIndex := 290, descriptorIndex := 25, attributes := #[] }, { accessFlags := 25, nameIndex := 292, descriptorIndex := 25, attributes := #[] }, { accessFlags := 26, nameIndex := 108, descriptorIndex := 109, attributes := #[] }, { accessFlags := 25, nameIndex := 294, descriptorIndex := 25, attributes := #[] }])
  fields := #[{ name := "U", type := (.object "jdk/internal/misc/Unsafe"), accessFlags := 24, slot := 0, constantValue := 0 }, { name := "BIG_ENDIAN", type := .boolean, accessFlags := 26, slot := 1, constantValue := 0 }, { name := "LOG2_ARRAY_BOOLEAN_INDEX_SCALE", type := .int, accessFlags := 25, slot := 2, constantValue := 0 }, { name := "LOG2_ARRAY_BYTE_INDEX_SCALE", type := .int, accessFlags := 25, slot := 3, constantValue := 0 }, { name := "LOG2_ARRAY_CHAR_INDEX_SCALE", type := .int, accessFlags := 25, slot := 4, constantValue := 0 }, { name := "LOG2_ARRAY_SHORT_INDEX_SCALE", type := .int, accessFlags := 25, slot := 5, constantValue := 0 }, { name := "LOG2_ARRAY_INT_INDEX_SCALE", type := .int, accessFlags := 25, slot := 6, constantValue := 0 }, { name := "LOG2_ARRAY_LONG_INDEX_SCALE", type := .int, accessFlags := 25, slot := 7, constantValue := 0 }, { name := "LOG2_ARRAY_FLOAT_INDEX_SCALE", type := .int, accessFlags := 25, slot := 8, constantValue := 0 }, { name := "LOG2_ARRAY_DOUBLE_INDEX_SCALE", type := .int, accessFlags := 25, slot := 9, constantValue := 0 }, { name := "LOG2_BYTE_BIT_SIZE", type := .int, accessFlags := 26, slot := 10, constantValue := 0 }, { name := "T_BOOLEAN", type := .int, accessFlags := 25, slot := 11, constantValue := 0 }, { name := "T_CHAR", type := .int, accessFlags := 25, slot := 12, constantValue := 0 }, { name := "T_FLOAT", type := .int, accessFlags := 25, slot := 13, constantValue := 0 }, { name := "T_DOUBLE", type := .int, accessFlags := 25, slot := 14, constantValue := 0 }, { name := "T_BYTE", type := .int, accessFlags := 25, slot := 15, constantValue := 0 }, { name := "T_SHORT", type := .int, accessFlags := 25, slot := 16, constantValue := 0 }, { name := "T_INT", type := .int, accessFlags := 25, slot := 17, constantValue := 0 }, { name := "T_LONG", type := .int, accessFlags := 25, slot := 18, constantValue := 0 }, { name := "JLA", type := (.object "jdk/internal/access/JavaLangAccess"), accessFlags := 26, slot := 19, constantValue := 0 }, { name := "SOFT_MAX_ARRAY_LENGTH", type := .int, accessFlags := 25, slot := 20, constantValue := 0 }]
  methods := #[k12m0]
  instanceTypes := #[]
  staticTypes := #[(.object "jdk/internal/misc/Unsafe"), .boolean, .int, .int, .int, .int, .int, .int, .int, .int, .int, .int, .int, .int, .int, .int, .int, .int, .int, (.object "jdk/internal/access/JavaLangAccess"), .int]
  resolved := Array.replicate 378 none
  statics := none }

def pool13 : Array CpInfo := pool [(1, u "java/lang/Cloneable"), (0, .class_ 1), (0, u "java/lang/Object"), (0, .class_ 3)] 3

/-- java/lang/Cloneable -/
def k13 : Class := { plain "java/lang/Cloneable" (some 0) with
  accessFlags := 1537
  interfaces := #[]
  cf := some (fileOf pool13 2 #[] #[] 1537 4 #[] #[])
  fields := #[]
  methods := #[]
  instanceTypes := #[]
  staticTypes := #[]
  resolved := Array.replicate 8 none
  statics := none }

/-- the primitive byte -/
def k14 : Class := { plain "byte" none with kind := .primitive 'B', accessFlags := 0x411 }
/-- [B -/
def k15 : Class := { plain "[B" (some 0) with kind := .array 14 .byte, interfaces := #[13, 2], accessFlags := 1041 }

/-- the primitive char -/
def k16 : Class := { plain "char" none with kind := .primitive 'C', accessFlags := 0x411 }
/-- [C -/
def k17 : Class := { plain "[C" (some 0) with kind := .array 16 .char, interfaces := #[13, 2], accessFlags := 1041 }

/-- the primitive int -/
def k18 : Class := { plain "int" none with kind := .primitive 'I', accessFlags := 0x411 }
/-- [I -/
def k19 : Class := { plain "[I" (some 0) with kind := .array 18 .int, interfaces := #[13, 2], accessFlags := 1041 }

def heap : Heap := #[{ cls := 7, slots := #[.long 0, .int 1, .null, .int 0, .null, .int 0, .int 0], vm := .statics 7 },
  { cls := 9, slots := #[.int 0, .int 8, .int 0, .int 1], vm := .statics 9 },
  { cls := 11, slots := #[.null, .null, .null], vm := .statics 11 }]
def classes : Array Class := #[k0, k1, k2, k3, k4, k5, k6, k7, k8, k9, k10, k11, k12, k13, k14, k15, k16, k17, k18, k19]
def interned : List (Array UInt16 × Addr) := []
def slotsUsed : Nat := 14
def theMethod : MethodId := ⟨1, 2⟩
def args0 : Array Value := #[.int 1, .int 65, .int 66, .int 67]
def aboutOver (below : List Frame) : State where
  vm := { classes := classes, interned := interned.toArray }
  heap := heap
  slotsUsed := slotsUsed
  threads := #[{ frames := .invoking theMethod args0 :: below }]
def below0 : List Frame := [.native { method := ⟨0, 0⟩, args := #[] }]
def about1 : State := aboutOver below0
def p0 : Program := .bare "" "" ""
def e0 : Env := launch0.env 0 0 0
theorem w_frames : about1.frames = Frame.invoking theMethod args0 :: below0 := rfl
set_option maxRecDepth 65536 in
theorem w_args : argsFit about1.vm theMethod args0 = true := by decide +kernel
set_option maxRecDepth 65536 in
theorem w_heap : heapFits about1 = true := by decide +kernel
set_option maxRecDepth 65536 in
theorem w_runnable : about1.curStatus? = some .runnable := by decide +kernel
set_option maxRecDepth 65536 in
theorem w_alone : about1.alone = true := by decide +kernel
set_option maxRecDepth 65536 in
theorem w_named : about1.methodNamed? x = some theMethod := by decide +kernel
set_option maxRecDepth 65536 in
theorem w_hears : about1.hears theMethod below0 = true := by decide +kernel
set_option maxRecDepth 65536 in
theorem w_ripe : about1.ripe theMethod args0 below0 = true := by decide +kernel
theorem w_running : about1.status = .running := rfl
set_option maxRecDepth 65536 in
theorem w_room : about1.hasRoom e0.platform room_1 = true :=
  launch0.hasRoom_least _ room_1 (by decide +kernel) (by decide +kernel) (by decide +kernel) (by decide +kernel) (by decide +kernel) (by decide +kernel)
theorem allAtoms_all (ts : List Jvm.Cond) (a : Array Jvm.Value) (st : Jvm.State) : (allAtoms ts).before a st = ts.all (fun c => c.before a st) := by
  induction ts with
  | nil => rfl
  | cons c t ih =>
    show (Jvm.Cond.and c (allAtoms t)).before a st = _
    rw [Jvm.Cond.before_and, ih, List.all_cons]
def words1 : List Jvm.Cond := Jvm.Cond.code x code maxLocals ret :: tables_1
/-- a 'code' word, met by the world's own term for the bytes: nothing is compared byte by byte -/
theorem code_word {y : MethodName} {bytes : ByteArray} {mx : Nat} {rt : Option FieldType} {a : Array Value} {s : State} {m : MethodId} {meth : Method} {c : Code} (h1 : s.methodNamed? y = some m) (h2 : s.vm.method? m = some meth) (h3 : meth.code = some c) (h4 : c.code = bytes)
    (h5 : (c.maxLocals == mx && c.exceptionTable.isEmpty && decide (c.maxStack ≤ mostOperands) && decide (meth.sig.returnType = rt) && !meth.locks && decide (parseMethodDescriptor y.desc = some meth.sig)) = true) : (Jvm.Cond.code y bytes mx rt).before a s = true := by
  simp only [Bool.and_eq_true, beq_iff_eq, Bool.not_eq_true', decide_eq_true_eq] at h5
  obtain ⟨⟨⟨⟨⟨g1, g2⟩, g3⟩, g4⟩, g5⟩, g6⟩ := h5
  simp [Cond.before, Cond.holds, Cond.value, h1, h2, h3, h4, g1, g2, g3, g4, g5, g6]
def isCode : Jvm.Cond → Bool
  | .code _ _ _ _ => true
  | _ => false
theorem all_split {L : List Jvm.Cond} {P : Jvm.Cond → Bool} (h1 : L.all (fun c => isCode c || P c) = true) (h2 : ∀ c ∈ L.filter isCode, P c = true) : L.all P = true := by
  refine List.all_eq_true.mpr fun c hc => ?_
  have h := List.all_eq_true.mp h1 c hc
  rcases Bool.eq_false_or_eq_true (isCode c) with hi | hi
  · exact h2 c (List.mem_filter.mpr ⟨hc, hi⟩)
  · simpa [hi] using h
set_option maxRecDepth 65536 in
theorem w_c0 : (Jvm.Cond.code x code maxLocals ret).before args0 about1 = true := code_word (m := ⟨1, 2⟩) (meth := k1m2) (c := k1c2) (by decide +kernel) rfl rfl rfl (by decide +kernel)
set_option maxRecDepth 65536 in
theorem w_c1 : (Jvm.Cond.code ({ cls := "java/lang/String", name := "<init>", desc := "([C)V" } : Jvm.MethodName) jdk_42_method_3_code (2 : Nat) (Option.none : Option Jvm.ClassFile.FieldType)).before args0 about1 = true := code_word (m := ⟨7, 1⟩) (meth := k7m1) (c := k7c1) (by decide +kernel) rfl rfl rfl (by decide +kernel)
set_option maxRecDepth 65536 in
theorem w_c2 : (Jvm.Cond.code ({ cls := "java/lang/String", name := "<init>", desc := "([CIILjava/lang/Void;)V" } : Jvm.MethodName) jdk_42_method_149_code (6 : Nat) (Option.none : Option Jvm.ClassFile.FieldType)).before args0 about1 = true := code_word (m := ⟨7, 4⟩) (meth := k7m4) (c := k7c4) (by decide +kernel) rfl rfl rfl (by decide +kernel)
set_option maxRecDepth 65536 in
theorem w_c3 : (Jvm.Cond.code ({ cls := "java/lang/Object", name := "<init>", desc := "()V" } : Jvm.MethodName) object_method_1_code (1 : Nat) (Option.none : Option Jvm.ClassFile.FieldType)).before args0 about1 = true := code_word (m := ⟨0, 0⟩) (meth := k0m0) (c := k0c0) (by decide +kernel) rfl rfl rfl (by decide +kernel)
set_option maxRecDepth 65536 in
theorem w_c4 : (Jvm.Cond.code ({ cls := "com/example/lanthorn/lanthorn/core/ModifiedUtf8", name := "length", desc := "(Ljava/lang/String;)I" } : Jvm.MethodName) prog_18_method_3_code (4 : Nat) (Option.some Jvm.ClassFile.FieldType.int)).before args0 about1 = true := code_word (m := ⟨8, 1⟩) (meth := k8m1) (c := k8c1) (by decide +kernel) rfl rfl rfl (by decide +kernel)
set_option maxRecDepth 65536 in
theorem w_c5 : (Jvm.Cond.code ({ cls := "java/lang/String", name := "length", desc := "()I" } : Jvm.MethodName) jdk_42_method_54_code (1 : Nat) (Option.some Jvm.ClassFile.FieldType.int)).before args0 about1 = true := code_word (m := ⟨7, 2⟩) (meth := k7m2) (c := k7c2) (by decide +kernel) rfl rfl rfl (by decide +kernel)
set_option maxRecDepth 65536 in
theorem w_c6 : (Jvm.Cond.code ({ cls := "java/lang/String", name := "coder", desc := "()B" } : Jvm.MethodName) jdk_42_method_152_code (1 : Nat) (Option.some Jvm.ClassFile.FieldType.byte)).before args0 about1 = true := code_word (m := ⟨7, 5⟩) (meth := k7m5) (c := k7c5) (by decide +kernel) rfl rfl rfl (by decide +kernel)
set_option maxRecDepth 65536 in
theorem w_c7 : (Jvm.Cond.code ({ cls := "com/example/lanthorn/lanthorn/core/ModifiedUtf8LengthPinLaw", name := "bytesOf", desc := "(C)I" } : Jvm.MethodName) method_2_code (1 : Nat) (Option.some Jvm.ClassFile.FieldType.int)).before args0 about1 = true := code_word (m := ⟨1, 1⟩) (meth := k1m1) (c := k1c1) (by decide +kernel) rfl rfl rfl (by decide +kernel)
set_option maxRecDepth 65536 in
theorem w_c8 : (Jvm.Cond.code ({ cls := "java/lang/StringUTF16", name := "compress", desc := "([CII)[B" } : Jvm.MethodName) jdk_52_method_16_code (6 : Nat) (Option.some (Jvm.ClassFile.FieldType.array Jvm.ClassFile.FieldType.byte))).before args0 about1 = true := code_word (m := ⟨9, 8⟩) (meth := k9m8) (c := k9c8) (by decide +kernel) rfl rfl rfl (by decide +kernel)
set_option maxRecDepth 65536 in
theorem w_c9 : (Jvm.Cond.code ({ cls := "java/lang/StringUTF16", name := "compress", desc := "([CI[BII)I" } : Jvm.MethodName) jdk_52_method_21_code (7 : Nat) (Option.some Jvm.ClassFile.FieldType.int)).before args0 about1 = true := code_word (m := ⟨9, 9⟩) (meth := k9m9) (c := k9c9) (by decide +kernel) rfl rfl rfl (by decide +kernel)
set_option maxRecDepth 65536 in
theorem w_c10 : (Jvm.Cond.code ({ cls := "java/lang/StringUTF16", name := "coderFromArrayLen", desc := "([BI)B" } : Jvm.MethodName) jdk_52_method_15_code (2 : Nat) (Option.some Jvm.ClassFile.FieldType.byte)).before args0 about1 = true := code_word (m := ⟨9, 7⟩) (meth := k9m7) (c := k9c7) (by decide +kernel) rfl rfl rfl (by decide +kernel)
set_option maxRecDepth 65536 in
theorem w_c11 : (Jvm.Cond.code ({ cls := "java/lang/String", name := "charAt", desc := "(I)C" } : Jvm.MethodName) jdk_42_method_56_code (2 : Nat) (Option.some Jvm.ClassFile.FieldType.char)).before args0 about1 = true := code_word (m := ⟨7, 3⟩) (meth := k7m3) (c := k7c3) (by decide +kernel) rfl rfl rfl (by decide +kernel)
set_option maxRecDepth 65536 in
theorem w_c12 : (Jvm.Cond.code ({ cls := "java/lang/String", name := "isLatin1", desc := "()Z" } : Jvm.MethodName) jdk_42_method_154_code (1 : Nat) (Option.some Jvm.ClassFile.FieldType.boolean)).before args0 about1 = true := code_word (m := ⟨7, 6⟩) (meth := k7m6) (c := k7c6) (by decide +kernel) rfl rfl rfl (by decide +kernel)
set_option maxRecDepth 65536 in
theorem w_c13 : (Jvm.Cond.code ({ cls := "java/lang/StringLatin1", name := "charAt", desc := "([BI)C" } : Jvm.MethodName) jdk_43_method_2_code (2 : Nat) (Option.some Jvm.ClassFile.FieldType.char)).before args0 about1 = true := code_word (m := ⟨10, 1⟩) (meth := k10m1) (c := k10c1) (by decide +kernel) rfl rfl rfl (by decide +kernel)
set_option maxRecDepth 65536 in
theorem w_c14 : (Jvm.Cond.code ({ cls := "java/lang/String", name := "checkIndex", desc := "(II)V" } : Jvm.MethodName) jdk_42_method_155_code (2 : Nat) (Option.none : Option Jvm.ClassFile.FieldType)).before args0 about1 = true := code_word (m := ⟨7, 7⟩) (meth := k7m7) (c := k7c7) (by decide +kernel) rfl rfl rfl (by decide +kernel)
set_option maxRecDepth 65536 in
theorem w_c15 : (Jvm.Cond.code ({ cls := "jdk/internal/util/Preconditions", name := "checkIndex", desc := "(IILjava/util/function/BiFunction;)I" } : Jvm.MethodName) jdk_41_method_11_code (3 : Nat) (Option.some Jvm.ClassFile.FieldType.int)).before args0 about1 = true := code_word (m := ⟨11, 1⟩) (meth := k11m1) (c := k11c1) (by decide +kernel) rfl rfl rfl (by decide +kernel)
set_option maxRecDepth 65536 in
theorem w_c16 : (Jvm.Cond.code ({ cls := "java/lang/StringUTF16", name := "toBytes", desc := "([CII)[B" } : Jvm.MethodName) jdk_52_method_14_code (5 : Nat) (Option.some (Jvm.ClassFile.FieldType.array Jvm.ClassFile.FieldType.byte))).before args0 about1 = true := code_word (m := ⟨9, 6⟩) (meth := k9m6) (c := k9c6) (by decide +kernel) rfl rfl rfl (by decide +kernel)
set_option maxRecDepth 65536 in
theorem w_c17 : (Jvm.Cond.code ({ cls := "java/lang/StringUTF16", name := "newBytesFor", desc := "(I)[B" } : Jvm.MethodName) jdk_52_method_2_code (1 : Nat) (Option.some (Jvm.ClassFile.FieldType.array Jvm.ClassFile.FieldType.byte))).before args0 about1 = true := code_word (m := ⟨9, 1⟩) (meth := k9m1) (c := k9c1) (by decide +kernel) rfl rfl rfl (by decide +kernel)
set_option maxRecDepth 65536 in
theorem w_c18 : (Jvm.Cond.code ({ cls := "java/lang/StringUTF16", name := "newBytesLength", desc := "(I)I" } : Jvm.MethodName) jdk_52_method_3_code (1 : Nat) (Option.some Jvm.ClassFile.FieldType.int)).before args0 about1 = true := code_word (m := ⟨9, 2⟩) (meth := k9m2) (c := k9c2) (by decide +kernel) rfl rfl rfl (by decide +kernel)
set_option maxRecDepth 65536 in
theorem w_c19 : (Jvm.Cond.code ({ cls := "java/lang/StringUTF16", name := "putChar", desc := "([BII)V" } : Jvm.MethodName) jdk_52_method_4_code (3 : Nat) (Option.none : Option Jvm.ClassFile.FieldType)).before args0 about1 = true := code_word (m := ⟨9, 3⟩) (meth := k9m3) (c := k9c3) (by decide +kernel) rfl rfl rfl (by decide +kernel)
set_option maxRecDepth 65536 in
theorem w_c20 : (Jvm.Cond.code ({ cls := "java/lang/StringUTF16", name := "getChar", desc := "([BI)C" } : Jvm.MethodName) jdk_52_method_5_code (2 : Nat) (Option.some Jvm.ClassFile.FieldType.char)).before args0 about1 = true := code_word (m := ⟨9, 4⟩) (meth := k9m4) (c := k9c4) (by decide +kernel) rfl rfl rfl (by decide +kernel)
set_option maxRecDepth 65536 in
theorem w_c21 : (Jvm.Cond.code ({ cls := "java/lang/StringUTF16", name := "charAt", desc := "([BI)C" } : Jvm.MethodName) jdk_52_method_83_code (2 : Nat) (Option.some Jvm.ClassFile.FieldType.char)).before args0 about1 = true := code_word (m := ⟨9, 10⟩) (meth := k9m10) (c := k9c10) (by decide +kernel) rfl rfl rfl (by decide +kernel)
set_option maxRecDepth 65536 in
theorem w_c22 : (Jvm.Cond.code ({ cls := "java/lang/StringUTF16", name := "checkIndex", desc := "(I[B)V" } : Jvm.MethodName) jdk_52_method_91_code (2 : Nat) (Option.none : Option Jvm.ClassFile.FieldType)).before args0 about1 = true := code_word (m := ⟨9, 11⟩) (meth := k9m11) (c := k9c11) (by decide +kernel) rfl rfl rfl (by decide +kernel)
set_option maxRecDepth 65536 in
theorem w_c23 : (Jvm.Cond.code ({ cls := "java/lang/StringUTF16", name := "length", desc := "([B)I" } : Jvm.MethodName) jdk_52_method_6_code (1 : Nat) (Option.some Jvm.ClassFile.FieldType.int)).before args0 about1 = true := code_word (m := ⟨9, 5⟩) (meth := k9m5) (c := k9c5) (by decide +kernel) rfl rfl rfl (by decide +kernel)
def codes1 : List Jvm.Cond := [Jvm.Cond.code x code maxLocals ret, Jvm.Cond.code ({ cls := "java/lang/String", name := "<init>", desc := "([C)V" } : Jvm.MethodName) jdk_42_method_3_code (2 : Nat) (Option.none : Option Jvm.ClassFile.FieldType), Jvm.Cond.code ({ cls := "java/lang/String", name := "<init>", desc := "([CIILjava/lang/Void;)V" } : Jvm.MethodName) jdk_42_method_149_code (6 : Nat) (Option.none : Option Jvm.ClassFile.FieldType), Jvm.Cond.code ({ cls := "java/lang/Object", name := "<init>", desc := "()V" } : Jvm.MethodName) object_method_1_code (1 : Nat) (Option.none : Option Jvm.ClassFile.FieldType), Jvm.Cond.code ({ cls := "com/example/lanthorn/lanthorn/core/ModifiedUtf8", name := "length", desc := "(Ljava/lang/String;)I" } : Jvm.MethodName) prog_18_method_3_code (4 : Nat) (Option.some Jvm.ClassFile.FieldType.int), Jvm.Cond.code ({ cls := "java/lang/String", name := "length", desc := "()I" } : Jvm.MethodName) jdk_42_method_54_code (1 : Nat) (Option.some Jvm.ClassFile.FieldType.int), Jvm.Cond.code ({ cls := "java/lang/String", name := "coder", desc := "()B" } : Jvm.MethodName) jdk_42_method_152_code (1 : Nat) (Option.some Jvm.ClassFile.FieldType.byte), Jvm.Cond.code ({ cls := "com/example/lanthorn/lanthorn/core/ModifiedUtf8LengthPinLaw", name := "bytesOf", desc := "(C)I" } : Jvm.MethodName) method_2_code (1 : Nat) (Option.some Jvm.ClassFile.FieldType.int), Jvm.Cond.code ({ cls := "java/lang/StringUTF16", name := "compress", desc := "([CII)[B" } : Jvm.MethodName) jdk_52_method_16_code (6 : Nat) (Option.some (Jvm.ClassFile.FieldType.array Jvm.ClassFile.FieldType.byte)), Jvm.Cond.code ({ cls := "java/lang/StringUTF16", name := "compress", desc := "([CI[BII)I" } : Jvm.MethodName) jdk_52_method_21_code (7 : Nat) (Option.some Jvm.ClassFile.FieldType.int), Jvm.Cond.code ({ cls := "java/lang/StringUTF16", name := "coderFromArrayLen", desc := "([BI)B" } : Jvm.MethodName) jdk_52_method_15_code (2 : Nat) (Option.some Jvm.ClassFile.FieldType.byte), Jvm.Cond.code ({ cls := "java/lang/String", name := "charAt", desc := "(I)C" } : Jvm.MethodName) jdk_42_method_56_code (2 : Nat) (Option.some Jvm.ClassFile.FieldType.char), Jvm.Cond.code ({ cls := "java/lang/String", name := "isLatin1", desc := "()Z" } : Jvm.MethodName) jdk_42_method_154_code (1 : Nat) (Option.some Jvm.ClassFile.FieldType.boolean), Jvm.Cond.code ({ cls := "java/lang/StringLatin1", name := "charAt", desc := "([BI)C" } : Jvm.MethodName) jdk_43_method_2_code (2 : Nat) (Option.some Jvm.ClassFile.FieldType.char), Jvm.Cond.code ({ cls := "java/lang/String", name := "checkIndex", desc := "(II)V" } : Jvm.MethodName) jdk_42_method_155_code (2 : Nat) (Option.none : Option Jvm.ClassFile.FieldType), Jvm.Cond.code ({ cls := "jdk/internal/util/Preconditions", name := "checkIndex", desc := "(IILjava/util/function/BiFunction;)I" } : Jvm.MethodName) jdk_41_method_11_code (3 : Nat) (Option.some Jvm.ClassFile.FieldType.int), Jvm.Cond.code ({ cls := "java/lang/StringUTF16", name := "toBytes", desc := "([CII)[B" } : Jvm.MethodName) jdk_52_method_14_code (5 : Nat) (Option.some (Jvm.ClassFile.FieldType.array Jvm.ClassFile.FieldType.byte)), Jvm.Cond.code ({ cls := "java/lang/StringUTF16", name := "newBytesFor", desc := "(I)[B" } : Jvm.MethodName) jdk_52_method_2_code (1 : Nat) (Option.some (Jvm.ClassFile.FieldType.array Jvm.ClassFile.FieldType.byte)), Jvm.Cond.code ({ cls := "java/lang/StringUTF16", name := "newBytesLength", desc := "(I)I" } : Jvm.MethodName) jdk_52_method_3_code (1 : Nat) (Option.some Jvm.ClassFile.FieldType.int), Jvm.Cond.code ({ cls := "java/lang/StringUTF16", name := "putChar", desc := "([BII)V" } : Jvm.MethodName) jdk_52_method_4_code (3 : Nat) (Option.none : Option Jvm.ClassFile.FieldType), Jvm.Cond.code ({ cls := "java/lang/StringUTF16", name := "getChar", desc := "([BI)C" } : Jvm.MethodName) jdk_52_method_5_code (2 : Nat) (Option.some Jvm.ClassFile.FieldType.char), Jvm.Cond.code ({ cls := "java/lang/StringUTF16", name := "charAt", desc := "([BI)C" } : Jvm.MethodName) jdk_52_method_83_code (2 : Nat) (Option.some Jvm.ClassFile.FieldType.char), Jvm.Cond.code ({ cls := "java/lang/StringUTF16", name := "checkIndex", desc := "(I[B)V" } : Jvm.MethodName) jdk_52_method_91_code (2 : Nat) (Option.none : Option Jvm.ClassFile.FieldType), Jvm.Cond.code ({ cls := "java/lang/StringUTF16", name := "length", desc := "([B)I" } : Jvm.MethodName) jdk_52_method_6_code (1 : Nat) (Option.some Jvm.ClassFile.FieldType.int)]
set_option maxRecDepth 65536 in
theorem codes_eq : words1.filter isCode = codes1 := rfl
theorem w_codes : ∀ c ∈ words1.filter isCode, c.before args0 about1 = true := by
  rw [codes_eq]
  intro c hc
  simp only [codes1, List.mem_cons, List.not_mem_nil, or_false] at hc
  rcases hc with rfl | rfl | rfl | rfl | rfl | rfl | rfl | rfl | rfl | rfl | rfl | rfl | rfl | rfl | rfl | rfl | rfl | rfl | rfl | rfl | rfl | rfl | rfl | rfl
  · exact w_c0
  · exact w_c1
  · exact w_c2
  · exact w_c3
  · exact w_c4
  · exact w_c5
  · exact w_c6
  · exact w_c7
  · exact w_c8
  · exact w_c9
  · exact w_c10
  · exact w_c11
  · exact w_c12
  · exact w_c13
  · exact w_c14
  · exact w_c15
  · exact w_c16
  · exact w_c17
  · exact w_c18
  · exact w_c19
  · exact w_c20
  · exact w_c21
  · exact w_c22
  · exact w_c23
set_option maxRecDepth 65536 in
theorem w_t1 : (words1.take 24).all (fun c => isCode c || c.before args0 about1) = true := by decide +kernel
set_option maxRecDepth 65536 in
theorem w_t2 : ((words1.drop 24).take 24).all (fun c => isCode c || c.before args0 about1) = true := by decide +kernel
set_option maxRecDepth 65536 in
theorem w_t3 : (((words1.drop 24).drop 24).take 24).all (fun c => isCode c || c.before args0 about1) = true := by decide +kernel
set_option maxRecDepth 65536 in
theorem w_t4 : ((((words1.drop 24).drop 24).drop 24).take 24).all (fun c => isCode c || c.before args0 about1) = true := by decide +kernel
set_option maxRecDepth 65536 in
theorem w_t5 : ((((words1.drop 24).drop 24).drop 24).drop 24).all (fun c => isCode c || c.before args0 about1) = true := by decide +kernel
theorem w_tables : (allAtoms (Jvm.Cond.code x code maxLocals ret :: tables_1)).before args0 about1 = true := by
  rw [allAtoms_all]
  show words1.all (fun c => c.before args0 about1) = true
  refine all_split ?_ w_codes
  rw [← List.take_append_drop 24 words1, List.all_append, w_t1, ← List.take_append_drop 24 (words1.drop 24), List.all_append, w_t2, ← List.take_append_drop 24 ((words1.drop 24).drop 24), List.all_append, w_t3, ← List.take_append_drop 24 (((words1.drop 24).drop 24).drop 24), List.all_append, w_t4, w_t5]
  rfl
set_option maxRecDepth 65536 in
theorem w_rest : rest_1_c.before args0 about1 = true := by decide +kernel
set_option maxRecDepth 65536 in
theorem w_case : (Jvm.Cond.and given_1 narrow_1).before args0 about1 = true := by decide +kernel
set_option maxRecDepth 65536 in
theorem w_consts : constsHeld consts_1 about1 := Jvm.Lit.constsHeldB_iff.mp (by decide +kernel)
theorem w_applies : (headSpec (Jvm.Cond.code x code maxLocals ret :: tables_1) room_1).applies x e0.platform about1 = true :=
  (Spec.applies_iff w_frames).mpr ⟨w_running, w_runnable, w_alone, w_named, w_hears, w_ripe, w_room, w_tables⟩
theorem atStart : AtStart classFile x code maxLocals ret World_1 tables_1 room_1 Calls_1 rest_1 Pre_1 launch0 p0 e0 about1 theMethod args0 below0 :=
  ⟨lists_1, trivial, launch0.admits_env _ _ _, launch0.least_env, fairChoices_fair.cas, fairChoices_fair.clock, w_frames, w_args, w_heap, w_applies, ⟨w_consts, trivial⟩, w_rest, w_case⟩
end start1
theorem witness_1 : WitnessClaimed_1 := ⟨start1.p0, start1.e0, start1.about1, start1.theMethod, start1.args0, start1.below0, start1.atStart⟩
end Jvm.Pilot.@@N@@
