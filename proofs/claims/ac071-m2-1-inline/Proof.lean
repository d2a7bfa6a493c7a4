import JvmDerived
import JvmDerived.Pilot.@@N@@Statement
import JvmDerived.Pilot.@@N@@Code
set_option linter.unusedVariables false
set_option linter.unusedSimpArgs false
namespace Jvm.OwnKit
open Sem ClassFile Op Lib Jvm.Stand Jvm.Free Jvm.LawKit Jvm.RoadKit
/-- the contract of a body: from these arguments at this heap it returns, and Q says what it left -/
abbrev Con (l : Launch) (Z : State) (y : MethodName) (bytes : ByteArray) (maxL : Nat) (ret : Option FieldType) (ws : List Jvm.Cond) (rm : Room) (as' : Array Value) (h0 : Heap) (Q : Option Value → Heap → List Loc → Prop) : Prop :=
  MetFree l y (head1 (Jvm.Cond.code y bytes maxL ret :: ws) rm) (fun a U => a = as' ∧ Z.Warmed39 U.vm ∧ U.heap = h0) (fun _ _ _ _ _ => True) (fun _ U o U' => ∃ v L, o = .returned v ∧ Q v U'.heap L ∧ FrameEnd U o U' L rm.cells rm.slots)
/-- how a body ends -/
abbrev EndQ (s : State) (rm : Room) (Q : Option Value → Heap → List Loc → Prop) : Outcome → State → Prop := fun o t => ∃ v L, o = .returned v ∧ Q v t.heap L ∧ FrameEnd s o t L rm.cells rm.slots
/-- from this frame on the body comes to its end, and Qe holds there -/
def OGo (p : Program) (e : Env) (below : List Frame) (Qe : Outcome → State → Prop) (T : State) (g : JFrame) : Prop :=
  ∃ s₂ o, Steps p.tables e below (T.setTop g) s₂ ∧ s₂.status = .running ∧ Ended s₂ below o ∧ Qe o s₂
section K
variable {p : Program} {l : Launch} {e : Env} {R : Room} {s : State} {m : MethodId} {args : Array Value} {below : List Frame} {meth : Method} {c : Code} {T T' : State} {locs : List Loc} {cells slots : Nat} {Qe : Outcome → State → Prop} {g g' : JFrame} {Z : State} {a0 : Array Value} {h : Heap}
theorem OGo.step (st : ∀ t, Steps p.tables e below (T'.setTop g') t → Steps p.tables e below (T.setTop g) t) (k : OGo p e below Qe T' g') : OGo p e below Qe T g := by
  obtain ⟨s₂, o, h1, h2⟩ := k
  exact ⟨s₂, o, st _ h1, h2⟩
theorem OGo.cast (q : g' = g) (k : OGo p e below Qe T g') : OGo p e below Qe T g := q ▸ k
theorem Con.intro {y : MethodName} {bytes : ByteArray} {maxL : Nat} {ret : Option FieldType} {ws : List Jvm.Cond} {rm : Room} {as' : Array Value} {h0 : Heap} {Q : Option Value → Heap → List Loc → Prop} (hpl : plainFor y = true)
    (body : ∀ (p : Program) (e : Env) (s : State) (m : MethodId) (below : List Frame) (meth : Method) (c : Code) (s₁ : State), p.tables.exec = Jvm.exec → c.code = bytes → c.maxLocals = maxL → s.vm.findClass y.cls = some m.cls →
      meth.sig.returnType = ret → meth.locks = false → Z.Warmed39 s.vm → meth.name = y.name → Stand p l e rm s m as' below meth c s₁ [] 0 0 → s₁.heap = h0 → OGo p e below (EndQ s rm Q) s₁ (entryFrame m as' maxL)) :
    Con l Z y bytes maxL ret ws rm as' h0 Q := by
  refine MetFree.of_bodySF hpl hisR ?_
  intro p e s m args below meth c s₁ Bd hml0 hP hK
  obtain ⟨rfl, hZ, hh⟩ := hP
  exact body p e s m below meth c s₁ Bd.exec Bd.bytes hml0 (findClass_of_methodNamed Bd.named) Bd.returns Bd.notSynchronized hZ (name_of_methodNamed Bd.named Bd.method).1 (Stand.of_body Bd) (by rw [← hh, Bd.state]; rfl)
theorem OGo.ret {Q : Option Value → Heap → List Loc → Prop} {rm : Room} (X : Stand p l e R s m args below meth c T locs cells slots) (hx : p.tables.exec = Jvm.exec) {pc : Nat} {Ls : Array Slot} {w : Value} {t : FieldType} {i : Instr} {rest : List Value} (hret : meth.sig.returnType = some t) (hlk : meth.locks = false) (hn : narrow t w = w)
    (hi : (i = .ireturn ∧ (t = .int ∨ t = .boolean ∨ t = .byte ∨ t = .char ∨ t = .short) ∧ ∃ z, w = .int z) ∨ (i = .lreturn ∧ t = .long ∧ ∃ z, w = .long z) ∨ (i = .dreturn ∧ t = .double ∧ ∃ z, w = .double z) ∨ (i = .freturn ∧ t = .float ∧ ∃ z, w = .float z) ∨ (i = .areturn ∧ t.isReference = true ∧ w.isRef = true))
    (hd : decode c.code pc = .ok (i, 1)) (hc : cells ≤ rm.cells) (hs : slots ≤ rm.slots) (hQ : Q (some w) T.heap locs) : OGo p e below (EndQ s rm Q) T (mkF m pc Ls (w :: rest)) := by
  obtain ⟨fs, hr, hrun, hended, hW, hsame⟩ := X.leave (v := some w) (fun h => by rw [hret] at h; cases h) hlk
  exact ⟨_, _, retOut X hx hret hn hi hd hr, hrun, hended, _, _, rfl, hQ, ⟨_, rfl⟩, hW, hsame.mono hc hs⟩
theorem OGo.retV {Q : Option Value → Heap → List Loc → Prop} {rm : Room} (X : Stand p l e R s m args below meth c T locs cells slots) (hx : p.tables.exec = Jvm.exec) {pc : Nat} {Ls : Array Slot} (hret : meth.sig.returnType = none) (hlk : meth.locks = false)
    (hd : decode c.code pc = .ok (.return_, 1)) (hc : cells ≤ rm.cells) (hs : slots ≤ rm.slots) (hQ : Q none T.heap locs) : OGo p e below (EndQ s rm Q) T (mkF m pc Ls []) := by
  obtain ⟨fs, hr, hrun, hended, hW, hsame⟩ := X.leave (v := none) (fun _ => rfl) hlk
  exact ⟨_, _, X.returnOut hx hret hd hr, hrun, hended, _, _, rfl, hQ, ⟨_, rfl⟩, hW, hsame.mono hc hs⟩
theorem riI {z : Int32} {t : FieldType} (ht : t = .int ∨ t = .boolean ∨ t = .byte ∨ t = .char ∨ t = .short) : (Instr.ireturn = .ireturn ∧ (t = .int ∨ t = .boolean ∨ t = .byte ∨ t = .char ∨ t = .short) ∧ ∃ y, Value.int z = .int y) ∨ (Instr.ireturn = .lreturn ∧ t = .long ∧ ∃ y, Value.int z = .long y) ∨ (Instr.ireturn = .dreturn ∧ t = .double ∧ ∃ y, Value.int z = .double y) ∨ (Instr.ireturn = .freturn ∧ t = .float ∧ ∃ y, Value.int z = .float y) ∨ (Instr.ireturn = .areturn ∧ t.isReference = true ∧ (Value.int z).isRef = true) := Or.inl ⟨rfl, ht, z, rfl⟩
/-- a static call by its contract -/
theorem scall (X : Stand p l e R s m args below meth c T locs cells slots) (hx : p.tables.exec = Jvm.exec) (hZ : Z.Warmed39 s.vm) {own : String} {index : Nat} {y : MethodName} {bytes : ByteArray} {maxL : Nat} {ret : Option FieldType} (hown : s.vm.findClass own = some m.cls)
    (w1 : (Jvm.Cond.methodLink own index y).before a0 Z = true) (w2 : (Jvm.Cond.static y).before a0 Z = true) (w3 : (Jvm.Cond.initialized y.cls).before a0 Z = true) (w4 : (Jvm.Cond.code y bytes maxL ret).before a0 Z = true) (hy : y.cls ≠ "java/lang/invoke/MethodHandle" ∧ y.cls ≠ "java/lang/invoke/VarHandle")
    {W : Nat} {rm : Room} {as' : Array Value} {Q : Option Value → Heap → List Loc → Prop} (hM : Con l Z y bytes maxL ret [] rm as' h Q) (eT : T.heap = h) (hf : rm.frames + 1 ≤ R.frames) (hl : W + (maxL + 11) + rm.locals ≤ R.locals) (hc : cells + rm.cells ≤ R.cells) (hs : slots + rm.slots ≤ R.slots)
    {g : JFrame} (hg : g.method = m) (hsize : g.locals.size = c.maxLocals) {argsL rest : List Value} {ps : List FieldType} {r : Option FieldType} (hpd : parseMethodDescriptor y.desc = some ⟨ps, r⟩) (hlen : argsL.length = ps.length) (hstack : g.stack = argsL.reverse ++ rest) (has : argsL.toArray = as') (hW : 2 * g.monitorRoom + (rest.map fun v => v.category).sum ≤ W)
    (hdg : decode c.code g.pc = .ok (.invokestatic index, 3)) :
    ∃ (v : Option Value) (T' : State) (L : List Loc), Stand p l e R s m args below meth c T' (locs ++ L) (cells + rm.cells) (slots + rm.slots) ∧ Q v T'.heap L ∧
      ∀ target, Steps p.tables e below (T'.setTop { g with pc := g.pc + 3, stack := v.toList ++ rest }) target → Steps p.tables e below (T.setTop g) target := by
  obtain ⟨v, vm₁, ⟨T', L', k', n'⟩, -, X', ⟨L, hQ, e1, e2, e3⟩, st⟩ := Jvm.LawKit.callS X hx hown (mvT hZ w1) (mvT hZ w2) (mvT hZ w3) (mvT hZ w4) hy (backOf (W := W) hM hZ w4 w3 hf hl) hg hsize (lenOf hpd hlen) hstack hW hdg (fun _ _ => ⟨has, eT, hc, hs⟩)
  dsimp only [Pt.U, Pt.locs, Pt.cells, Pt.slots] at X' e1 e2 e3 st hQ
  subst e1 e2 e3
  exact ⟨v, T', L, X', hQ, st⟩
/-- a constructor by its contract -/
theorem icall (X : Stand p l e R s m args below meth c T locs cells slots) (hx : p.tables.exec = Jvm.exec) (hZ : Z.Warmed39 s.vm) {own : String} {index : Nat} {y : MethodName} {bytes : ByteArray} {maxL : Nat} (hy1 : y.name = "<init>") (hown : s.vm.findClass own = some m.cls)
    (w1 : (Jvm.Cond.methodLink own index y).before a0 Z = true) (w2 : (Jvm.Cond.instanceMethod y).before a0 Z = true) (w3 : (Jvm.Cond.initialized y.cls).before a0 Z = true) (w4 : (Jvm.Cond.code y bytes maxL none).before a0 Z = true) (hy : y.cls ≠ "java/lang/invoke/MethodHandle" ∧ y.cls ≠ "java/lang/invoke/VarHandle")
    {W : Nat} {rm : Room} {as' : Array Value} {Q : Option Value → Heap → List Loc → Prop} (hM : Con l Z y bytes maxL none [] rm as' h Q) (eT : T.heap = h) (hf : rm.frames + 1 ≤ R.frames) (hl : W + (maxL + 11) + rm.locals ≤ R.locals) (hc : cells + rm.cells ≤ R.cells) (hs : slots + rm.slots ≤ R.slots)
    {g : JFrame} (hg : g.method = m) (hsize : g.locals.size = c.maxLocals) {a : Addr} {argsL rest : List Value} {ps : List FieldType} {r : Option FieldType} (hpd : parseMethodDescriptor y.desc = some ⟨ps, r⟩) (hlen : argsL.length = ps.length) (hstack : g.stack = argsL.reverse ++ .ref a :: rest) (has : (Value.ref a :: argsL).toArray = as') (hW : 2 * g.monitorRoom + (rest.map fun v => v.category).sum ≤ W)
    (hdg : decode c.code g.pc = .ok (.invokespecial index, 3)) :
    ∃ (v : Option Value) (T' : State) (L : List Loc), Stand p l e R s m args below meth c T' (locs ++ L) (cells + rm.cells) (slots + rm.slots) ∧ Q v T'.heap L ∧
      ∀ target, Steps p.tables e below (T'.setTop { g with pc := g.pc + 3, stack := v.toList ++ rest }) target → Steps p.tables e below (T.setTop g) target := by
  obtain ⟨v, vm₁, ⟨T', L', k', n'⟩, -, X', ⟨L, hQ, e1, e2, e3⟩, st⟩ := X.specialBack hx hy1 hown (mvT hZ w1) (mvT hZ w2) (mvT hZ w4) hy (backOf (W := W) hM hZ w4 w3 hf hl) hg hsize (Steps.refl _) (lenOf hpd hlen) hstack hW hdg (fun _ _ => ⟨has, eT, hc, hs⟩)
  dsimp only [Pt.U, Pt.locs, Pt.cells, Pt.slots] at X' e1 e2 e3 st hQ
  subst e1 e2 e3
  exact ⟨v, T', L, X', hQ, fun t k => st.trans k⟩
theorem own_nf {C : String} {x' y z : MethodName} (w : (Jvm.Cond.selects C x' z).before args s = true) (hz : z.cls = y.cls) : NotFace s y := fun r0 h0 => by
  obtain ⟨c2, r2, m2, q1, q2, q3, q4, kP, hkP, hkPi⟩ := Cond.selects_spec w
  have a := findClass_of_methodNamed q3
  have b := findClass_of_methodNamed h0
  rw [hz] at a
  have e : m2.cls = r0.cls := Option.some.inj (a.symm.trans b)
  exact ⟨kP, e ▸ hkP, hkPi⟩
/-- an instance method by the contract of the body that is selected -/
theorem vcall (X : Stand p l e R s m args below meth c T locs cells slots) (hx : p.tables.exec = Jvm.exec) (hZ : Z.Warmed39 s.vm) {own C : String} {index : Nat} {y z : MethodName} {bytes : ByteArray} {maxL : Nat} {ret : Option FieldType} (hown : s.vm.findClass own = some m.cls)
    (w1 : (Jvm.Cond.methodLink own index y).before a0 Z = true) (w2 : (Jvm.Cond.declares y).before a0 Z = true) {C2 : String} {x2 z2 : MethodName} (w7 : (Jvm.Cond.selects C2 x2 z2).before a0 Z = true) (h7 : z2.cls = y.cls) (w5 : (Jvm.Cond.selects C y z).before a0 Z = true) (w6 : (Jvm.Cond.instanceMethod z).before a0 Z = true) (w3 : (Jvm.Cond.initialized z.cls).before a0 Z = true) (w4 : (Jvm.Cond.code z bytes maxL ret).before a0 Z = true) (hy : y.cls ≠ "java/lang/invoke/MethodHandle" ∧ y.cls ≠ "java/lang/invoke/VarHandle")
    {W : Nat} {rm : Room} {as' : Array Value} {Q : Option Value → Heap → List Loc → Prop} (hM : Con l Z z bytes maxL ret [] rm as' h Q) (eT : T.heap = h) (hf : rm.frames + 1 ≤ R.frames) (hl : W + (maxL + 11) + rm.locals ≤ R.locals) (hc : cells + rm.cells ≤ R.cells) (hs : slots + rm.slots ≤ R.slots)
    {g : JFrame} (hg : g.method = m) (hsize : g.locals.size = c.maxLocals) {a : Addr} (E : Exa Z h a C) {argsL rest : List Value} {ps : List FieldType} {r : Option FieldType} (hpd : parseMethodDescriptor y.desc = some ⟨ps, r⟩) (hlen : argsL.length = ps.length) (hstack : g.stack = argsL.reverse ++ .ref a :: rest) (has : (Value.ref a :: argsL).toArray = as') (hW : 2 * g.monitorRoom + (rest.map fun v => v.category).sum ≤ W)
    (hdg : decode c.code g.pc = .ok (.invokevirtual index, 3)) :
    ∃ (v : Option Value) (T' : State) (L : List Loc), Stand p l e R s m args below meth c T' (locs ++ L) (cells + rm.cells) (slots + rm.slots) ∧ Q v T'.heap L ∧
      ∀ target, Steps p.tables e below (T'.setTop { g with pc := g.pc + 3, stack := v.toList ++ rest }) target → Steps p.tables e below (T.setTop g) target := by
  obtain ⟨cq, kq, qa, qb, qc⟩ := isOf hZ eT E
  obtain ⟨v, vm₁, ⟨T', L', k', n'⟩, -, X', ⟨L, hQ, e1, e2, e3⟩, st⟩ := X.virtualBack hx hown (mvT hZ w1) (mvT hZ w2) (own_nf (args := #[]) (mvT hZ w7) h7) (mvT hZ w5) (mvT hZ w6) hy (backOf (W := W) hM hZ w4 w3 hf hl) qa qc hg hsize (Steps.refl _) (lenOf hpd hlen) hstack hW hdg (fun _ _ => ⟨has, eT, hc, hs⟩)
  dsimp only [Pt.U, Pt.locs, Pt.cells, Pt.slots] at X' e1 e2 e3 st hQ
  subst e1 e2 e3
  exact ⟨v, T', L, X', hQ, fun t k => st.trans k⟩
/-- a private instance method by its contract -/
theorem pcall (X : Stand p l e R s m args below meth c T locs cells slots) (hx : p.tables.exec = Jvm.exec) (hZ : Z.Warmed39 s.vm) {own C C' : String} {index : Nat} {y : MethodName} {bytes : ByteArray} {maxL : Nat} {ret : Option FieldType} (hown : s.vm.findClass own = some m.cls)
    (w1 : (Jvm.Cond.methodLink own index y).before a0 Z = true) (w2 : (Jvm.Cond.instanceMethod y).before a0 Z = true) (w5 : (Jvm.Cond.selects C' y y).before a0 Z = true) (w6 : (Jvm.Cond.privateMethod y).before a0 Z = true) (w3 : (Jvm.Cond.initialized y.cls).before a0 Z = true) (w4 : (Jvm.Cond.code y bytes maxL ret).before a0 Z = true) (hy : y.cls ≠ "java/lang/invoke/MethodHandle" ∧ y.cls ≠ "java/lang/invoke/VarHandle")
    {W : Nat} {rm : Room} {as' : Array Value} {Q : Option Value → Heap → List Loc → Prop} (hM : Con l Z y bytes maxL ret [] rm as' h Q) (eT : T.heap = h) (hf : rm.frames + 1 ≤ R.frames) (hl : W + (maxL + 11) + rm.locals ≤ R.locals) (hc : cells + rm.cells ≤ R.cells) (hs : slots + rm.slots ≤ R.slots)
    {g : JFrame} (hg : g.method = m) (hsize : g.locals.size = c.maxLocals) {a : Addr} (E : Exa Z h a C) {argsL rest : List Value} {ps : List FieldType} {r : Option FieldType} (hpd : parseMethodDescriptor y.desc = some ⟨ps, r⟩) (hlen : argsL.length = ps.length) (hstack : g.stack = argsL.reverse ++ .ref a :: rest) (has : (Value.ref a :: argsL).toArray = as') (hW : 2 * g.monitorRoom + (rest.map fun v => v.category).sum ≤ W)
    (hdg : decode c.code g.pc = .ok (.invokevirtual index, 3)) :
    ∃ (v : Option Value) (T' : State) (L : List Loc), Stand p l e R s m args below meth c T' (locs ++ L) (cells + rm.cells) (slots + rm.slots) ∧ Q v T'.heap L ∧
      ∀ target, Steps p.tables e below (T'.setTop { g with pc := g.pc + 3, stack := v.toList ++ rest }) target → Steps p.tables e below (T.setTop g) target := by
  obtain ⟨cq, q1, q2⟩ := E.cell
  have hp := Cond.privateMethod_at (mvP hZ w6 (args := #[]))
  have hsel : (Jvm.Cond.selects y.cls y y).before args s = true := by
    have w5' : (Jvm.Cond.selects C' y y).before args s = true := mvT hZ w5
    obtain ⟨c2, r2, m2, -, -, q3, -, kP, hkP, hkPi⟩ := Cond.selects_spec w5'
    exact selects_self_of_private (findClass_of_methodNamed q3) hkP hkPi hp (mvT hZ w2) hy
  obtain ⟨v, vm₁, ⟨T', L', k', n'⟩, -, X', ⟨L, hQ, e1, e2, e3⟩, st⟩ := X.privateBack hx hown (mvT hZ w1) (mvT hZ w2) hsel hp (mvT hZ w4) hy (backOf (W := W) hM hZ w4 w3 hf hl) hg hsize (Steps.refl _) (by rw [eT]; exact q1) q2 (lenOf hpd hlen) hstack hW hdg (fun _ _ => ⟨has, eT, hc, hs⟩)
  dsimp only [Pt.U, Pt.locs, Pt.cells, Pt.slots] at X' e1 e2 e3 st hQ
  subst e1 e2 e3
  exact ⟨v, T', L, X', hQ, fun t k => st.trans k⟩
theorem own_same {C : String} {x' y z : MethodName} (w : (Jvm.Cond.selects C x' z).before a0 Z = true) (hz : z.cls = y.cls) (wi : (Jvm.Cond.instanceMethod y).before a0 Z = true) (hy : y.cls ≠ "java/lang/invoke/MethodHandle" ∧ y.cls ≠ "java/lang/invoke/VarHandle") : (Jvm.Cond.sameMethod y.cls y.cls y.name y.desc).before a0 Z = true := by
  obtain ⟨mk, methM, hnamed, hmethM, -, -⟩ := Cond.instanceMethod_spec wi
  obtain ⟨c2, r2, m2, -, -, q3, -, kP, hkP, hkPi⟩ := Cond.selects_spec w
  have hc := findClass_of_methodNamed hnamed
  have hc2 := findClass_of_methodNamed q3
  rw [hz] at hc2
  have e : m2.cls = mk.cls := Option.some.inj (hc2.symm.trans hc)
  rw [e] at hkP
  have hfound : Z.methodFound? y.cls y.name y.desc = some mk := State.methodFound?_of_named hnamed hy
  have hn : Z.methodNamed? ⟨y.cls, y.name, y.desc⟩ = some mk := hnamed
  simp only [Cond.before, Cond.holds, Cond.value, hc, hfound, hn, hkP]
  simp [hkPi]
/-- super.m(..) by its contract -/
theorem ucall (X : Stand p l e R s m args below meth c T locs cells slots) (hx : p.tables.exec = Jvm.exec) (hZ : Z.Warmed39 s.vm) {own C : String} {index : Nat} {y : MethodName} {bytes : ByteArray} {maxL : Nat} {ret : Option FieldType} (hown : s.vm.findClass own = some m.cls)
    (w1 : (Jvm.Cond.methodLink own index y).before a0 Z = true) (w2 : (Jvm.Cond.sameMethod y.cls y.cls y.name y.desc).before a0 Z = true) (w5 : (Jvm.Cond.instanceMethod y).before a0 Z = true) (w6 : (Jvm.Cond.superclass own y.cls).before a0 Z = true) (w3 : (Jvm.Cond.initialized y.cls).before a0 Z = true) (w4 : (Jvm.Cond.code y bytes maxL ret).before a0 Z = true) (hy : y.name ≠ "<init>")
    {W : Nat} {rm : Room} {as' : Array Value} {Q : Option Value → Heap → List Loc → Prop} (hM : Con l Z y bytes maxL ret [] rm as' h Q) (eT : T.heap = h) (hf : rm.frames + 1 ≤ R.frames) (hl : W + (maxL + 11) + rm.locals ≤ R.locals) (hc : cells + rm.cells ≤ R.cells) (hs : slots + rm.slots ≤ R.slots)
    {g : JFrame} (hg : g.method = m) (hsize : g.locals.size = c.maxLocals) {a : Addr} (E : Exa Z h a C) {argsL rest : List Value} {ps : List FieldType} {r : Option FieldType} (hpd : parseMethodDescriptor y.desc = some ⟨ps, r⟩) (hlen : argsL.length = ps.length) (hstack : g.stack = argsL.reverse ++ .ref a :: rest) (has : (Value.ref a :: argsL).toArray = as') (hW : 2 * g.monitorRoom + (rest.map fun v => v.category).sum ≤ W)
    (hdg : decode c.code g.pc = .ok (.invokespecial index, 3)) :
    ∃ (v : Option Value) (T' : State) (L : List Loc), Stand p l e R s m args below meth c T' (locs ++ L) (cells + rm.cells) (slots + rm.slots) ∧ Q v T'.heap L ∧
      ∀ target, Steps p.tables e below (T'.setTop { g with pc := g.pc + 3, stack := v.toList ++ rest }) target → Steps p.tables e below (T.setTop g) target := by
  obtain ⟨v, vm₁, ⟨T', L', k', n'⟩, -, X', ⟨L, hQ, e1, e2, e3⟩, st⟩ := superBack X hx hZ hown w1 w2 w5 w6 hy (backOf (W := W) hM hZ w4 w3 hf hl) eT (Ins.self E) hg hsize w4 (lenOf hpd hlen) hstack hW hdg (fun _ _ => ⟨has, eT, hc, hs⟩)
  dsimp only [Pt.U, Pt.locs, Pt.cells, Pt.slots] at X' e1 e2 e3 st hQ
  subst e1 e2 e3
  exact ⟨v, T', L, X', hQ, fun t k => st.trans k⟩
variable {a : Addr} {k : ClassId} {ty : FieldType} {z j : Int32} {vs : List Value} {dv v : Value}
theorem alenV (X : Stand p l e R s m args below meth c T locs cells slots) (hx : p.tables.exec = Jvm.exec) (hZ : Z.Warmed39 s.vm) (eT : T.heap = h) (F : Arv Z h a k ty z vs dv) {g : JFrame} (hg : g.method = m) {rest : List Value} (hst : g.stack = .ref a :: rest) (hd : decode c.code g.pc = .ok (.arraylength, 1)) (target : State)
    (hr : Steps p.tables e below (T.setTop { g with pc := g.pc + 1, stack := .int z :: rest }) target) : Steps p.tables e below (T.setTop g) target := by
  obtain ⟨cl, Ar, -, S, N, -, -⟩ := F
  refine X.arraylength hx (by rw [eT]; exact Ar.1) (State.isArrayOf_alike hZ.alike Ar.2.1) hg hst hd _ ?_
  rw [len_of S N]
  exact hr
theorem caloadV (X : Stand p l e R s m args below meth c T locs cells slots) (hx : p.tables.exec = Jvm.exec) (hZ : Z.Warmed39 s.vm) (eT : T.heap = h) (F : Arv Z h a k .char z vs dv) (hj : ¬ j < 0 ∧ j < z) (hat : vs.getD j.toNatClampNeg dv = v) {g : JFrame} (hg : g.method = m) {rest : List Value} (hst : g.stack = .int j :: .ref a :: rest) (hd : decode c.code g.pc = .ok (.caload, 1)) (target : State)
    (hr : Steps p.tables e below (T.setTop { g with pc := g.pc + 1, stack := v :: rest }) target) : Steps p.tables e below (T.setTop g) target := by
  obtain ⟨cl, Ar, -, S, N, H, -⟩ := F
  exact X.caload hx (by rw [eT]; exact Ar.1) (State.isArrayOf_alike hZ.alike Ar.2.1) Ar.2.2 (inb_of S hj) (H.at (inb_of S hj) hat) hg hst hd _ hr
theorem baloadV (X : Stand p l e R s m args below meth c T locs cells slots) (hx : p.tables.exec = Jvm.exec) (hZ : Z.Warmed39 s.vm) (eT : T.heap = h) (F : Arv Z h a k .byte z vs dv) (hj : ¬ j < 0 ∧ j < z) (hat : vs.getD j.toNatClampNeg dv = v) {g : JFrame} (hg : g.method = m) {rest : List Value} (hst : g.stack = .int j :: .ref a :: rest) (hd : decode c.code g.pc = .ok (.baload, 1)) (target : State)
    (hr : Steps p.tables e below (T.setTop { g with pc := g.pc + 1, stack := v :: rest }) target) : Steps p.tables e below (T.setTop g) target := by
  obtain ⟨cl, Ar, -, S, N, H, -⟩ := F
  exact X.baloadBytes hx (by rw [eT]; exact Ar.1) (State.isArrayOf_alike hZ.alike Ar.2.1) Ar.2.2 (inb_of S hj) (H.at (inb_of S hj) hat) hg hst hd _ hr
theorem ialoadV (X : Stand p l e R s m args below meth c T locs cells slots) (hx : p.tables.exec = Jvm.exec) (hZ : Z.Warmed39 s.vm) (eT : T.heap = h) (F : Arv Z h a k .int z vs dv) (hj : ¬ j < 0 ∧ j < z) (hat : vs.getD j.toNatClampNeg dv = v) {g : JFrame} (hg : g.method = m) {rest : List Value} (hst : g.stack = .int j :: .ref a :: rest) (hd : decode c.code g.pc = .ok (.iaload, 1)) (target : State)
    (hr : Steps p.tables e below (T.setTop { g with pc := g.pc + 1, stack := v :: rest }) target) : Steps p.tables e below (T.setTop g) target := by
  obtain ⟨cl, Ar, -, S, N, H, -⟩ := F
  exact X.iaload hx (by rw [eT]; exact Ar.1) (State.isArrayOf_alike hZ.alike Ar.2.1) Ar.2.2 (inb_of S hj) (H.at (inb_of S hj) hat) hg hst hd _ hr
theorem laloadV (X : Stand p l e R s m args below meth c T locs cells slots) (hx : p.tables.exec = Jvm.exec) (hZ : Z.Warmed39 s.vm) (eT : T.heap = h) (F : Arv Z h a k .long z vs dv) (hj : ¬ j < 0 ∧ j < z) (hat : vs.getD j.toNatClampNeg dv = v) {g : JFrame} (hg : g.method = m) {rest : List Value} (hst : g.stack = .int j :: .ref a :: rest) (hd : decode c.code g.pc = .ok (.laload, 1)) (target : State)
    (hr : Steps p.tables e below (T.setTop { g with pc := g.pc + 1, stack := v :: rest }) target) : Steps p.tables e below (T.setTop g) target := by
  obtain ⟨cl, Ar, -, S, N, H, -⟩ := F
  exact X.laload hx (by rw [eT]; exact Ar.1) (State.isArrayOf_alike hZ.alike Ar.2.1) Ar.2.2 (inb_of S hj) (H.at (inb_of S hj) hat) hg hst hd _ hr
theorem aaloadV (X : Stand p l e R s m args below meth c T locs cells slots) (hx : p.tables.exec = Jvm.exec) (hZ : Z.Warmed39 s.vm) (eT : T.heap = h) (F : Arv Z h a k ty z vs dv) (hty : ty.isReference = true) (hj : ¬ j < 0 ∧ j < z) (hat : vs.getD j.toNatClampNeg dv = v) {g : JFrame} (hg : g.method = m) {rest : List Value} (hst : g.stack = .int j :: .ref a :: rest) (hd : decode c.code g.pc = .ok (.aaload, 1)) (target : State)
    (hr : Steps p.tables e below (T.setTop { g with pc := g.pc + 1, stack := v :: rest }) target) : Steps p.tables e below (T.setTop g) target := by
  obtain ⟨cl, Ar, -, S, N, H, -⟩ := F
  exact X.aaload hx (by rw [eT]; exact Ar.1) (State.isArrayOf_alike hZ.alike Ar.2.1) hty Ar.2.2 (inb_of S hj) (H.at (inb_of S hj) hat) hg hst hd _ hr
theorem castoreV (X : Stand p l e R s m args below meth c T locs cells slots) (hx : p.tables.exec = Jvm.exec) (hZ : Z.Warmed39 s.vm) (eT : T.heap = h) (F : Arv Z h a k .char z vs dv) {j x : Int32} (hj : ¬ j < 0 ∧ j < z) (hi : j.toNatClampNeg < vs.length) {g : JFrame} (hg : g.method = m) {rest : List Value} (hst : g.stack = .int x :: .int j :: .ref a :: rest) (hd : decode c.code g.pc = .ok (.castore, 1)) :
    ∃ T' h', Stand p l e R s m args below meth c T' (locs ++ [⟨a, j.toNatClampNeg⟩]) cells slots ∧ T'.heap = h' ∧ Wr h h' a j.toNatClampNeg (.int (nar .char x)) ∧ Arv Z h' a k .char z (vs.set j.toNatClampNeg (.int (nar .char x))) dv ∧ ∀ target, Steps p.tables e below (T'.setTop { g with pc := g.pc + 1, stack := rest }) target → Steps p.tables e below (T.setTop g) target := by
  obtain ⟨cl, Ar, q, S, N, H, G⟩ := F
  obtain ⟨T', h', X', e', W, st⟩ := stC X hx hZ eT Ar (j := j) (x := x) (inb_of S hj) hg hst hd
  exact ⟨T', h', X', e', W, Arv.set Ar q S N H G (fits_nar_char _) W _ rfl hi, st⟩
theorem bastoreV (X : Stand p l e R s m args below meth c T locs cells slots) (hx : p.tables.exec = Jvm.exec) (hZ : Z.Warmed39 s.vm) (eT : T.heap = h) (F : Arv Z h a k .byte z vs dv) {j x : Int32} (hj : ¬ j < 0 ∧ j < z) (hi : j.toNatClampNeg < vs.length) {g : JFrame} (hg : g.method = m) {rest : List Value} (hst : g.stack = .int x :: .int j :: .ref a :: rest) (hd : decode c.code g.pc = .ok (.bastore, 1)) :
    ∃ T' h', Stand p l e R s m args below meth c T' (locs ++ [⟨a, j.toNatClampNeg⟩]) cells slots ∧ T'.heap = h' ∧ Wr h h' a j.toNatClampNeg (.int (nar .byte x)) ∧ Arv Z h' a k .byte z (vs.set j.toNatClampNeg (.int (nar .byte x))) dv ∧ ∀ target, Steps p.tables e below (T'.setTop { g with pc := g.pc + 1, stack := rest }) target → Steps p.tables e below (T.setTop g) target := by
  obtain ⟨cl, Ar, q, S, N, H, G⟩ := F
  obtain ⟨T', h', X', e', W, st⟩ := stB X hx hZ eT Ar (j := j) (x := x) (inb_of S hj) hg hst hd
  exact ⟨T', h', X', e', W, Arv.set Ar q S N H G (fits_nar_byte _) W _ rfl hi, st⟩
theorem lastoreV (X : Stand p l e R s m args below meth c T locs cells slots) (hx : p.tables.exec = Jvm.exec) (hZ : Z.Warmed39 s.vm) (eT : T.heap = h) (F : Arv Z h a k .long z vs dv) {j : Int32} {x : Int64} (hj : ¬ j < 0 ∧ j < z) (hi : j.toNatClampNeg < vs.length) {g : JFrame} (hg : g.method = m) {rest : List Value} (hst : g.stack = .long x :: .int j :: .ref a :: rest) (hd : decode c.code g.pc = .ok (.lastore, 1)) :
    ∃ T' h', Stand p l e R s m args below meth c T' (locs ++ [⟨a, j.toNatClampNeg⟩]) cells slots ∧ T'.heap = h' ∧ Wr h h' a j.toNatClampNeg (.long x) ∧ Arv Z h' a k .long z (vs.set j.toNatClampNeg (.long x)) dv ∧ ∀ target, Steps p.tables e below (T'.setTop { g with pc := g.pc + 1, stack := rest }) target → Steps p.tables e below (T.setTop g) target := by
  obtain ⟨cl, Ar, q, S, N, H, G⟩ := F
  obtain ⟨T', h', X', e', W, st⟩ := stJ X hx hZ eT Ar (j := j) (inb_of S hj) hg hst hd
  exact ⟨T', h', X', e', W, Arv.set Ar q S N H G rfl W _ rfl hi, st⟩
end K
end Jvm.OwnKit
namespace Jvm.OwnKit
open Sem ClassFile Op Lib Jvm.Stand Jvm.Free Jvm.LawKit Jvm.RoadKit
/-- the contract of a body that may load String constants: those of EL hold their text before and behind it -/
abbrev ConH (l : Launch) (Z : State) (EL : List (String × Nat)) (y : MethodName) (bytes : ByteArray) (maxL : Nat) (ret : Option FieldType) (ws : List Jvm.Cond) (rm : Room) (as' : Array Value) (h0 : Heap) (Q : Option Value → Heap → List Loc → Prop) : Prop :=
  MetFree l y (head1 (Jvm.Cond.code y bytes maxL ret :: ws) rm) (fun a U => a = as' ∧ Z.Warmed39 U.vm ∧ U.heap = h0 ∧ CHv Z EL U.vm h0) (fun _ _ _ _ _ => True) (fun _ U o U' => ∃ v L, o = .returned v ∧ Q v U'.heap L ∧ CHr Z EL U.vm U.heap U'.vm U'.heap ∧ ReturnedEndW U o U' L rm.cells rm.slots)
abbrev EndH (Z : State) (EL : List (String × Nat)) (s : State) (rm : Room) (Q : Option Value → Heap → List Loc → Prop) : Outcome → State → Prop := fun o t => ∃ v L, o = .returned v ∧ Q v t.heap L ∧ CHr Z EL s.vm s.heap t.vm t.heap ∧ ReturnedEndW s o t L rm.cells rm.slots
section K
variable {p : Program} {l : Launch} {e : Env} {R : Room} {s : State} {m : MethodId} {args : Array Value} {below : List Frame} {meth : Method} {c : Code} {T T' : State} {locs : List Loc} {cells slots : Nat} {Qe : Outcome → State → Prop} {g g' : JFrame} {Z : State} {a0 : Array Value} {h : Heap} {EL : List (String × Nat)} {vm : Vm} {k0 : Nat}
theorem ConH.intro {y : MethodName} {bytes : ByteArray} {maxL : Nat} {ret : Option FieldType} {ws : List Jvm.Cond} {rm : Room} {as' : Array Value} {h0 : Heap} {Q : Option Value → Heap → List Loc → Prop} (hpl : plainFor y = true)
    (body : ∀ (p : Program) (e : Env) (s : State) (m : MethodId) (below : List Frame) (meth : Method) (c : Code) (s₁ : State), p.tables.exec = Jvm.exec → c.code = bytes → c.maxLocals = maxL → s.vm.findClass y.cls = some m.cls →
      meth.sig.returnType = ret → meth.locks = false → Z.Warmed39 s.vm → meth.name = y.name → Stand p l e rm (s.setVm s.vm) m as' below meth c s₁ [] 0 0 → s₁.heap = h0 → s.heap = h0 → s.Since s.vm 0 → CHv Z EL s.vm h0 → CHr Z EL s.vm h0 s.vm h0 → OGo p e below (EndH Z EL s rm Q) s₁ (entryFrame m as' maxL)) :
    ConH l Z EL y bytes maxL ret ws rm as' h0 Q := by
  refine MetFree.of_bodySF hpl hisR ?_
  intro p e s m args below meth c s₁ Bd hml0 hP hK
  obtain ⟨rfl, hZ, hh, hH⟩ := hP
  exact body p e s m below meth c s₁ Bd.exec Bd.bytes hml0 (findClass_of_methodNamed Bd.named) Bd.returns Bd.notSynchronized hZ (name_of_methodNamed Bd.named Bd.method).1 (Stand.of_body Bd) (by rw [← hh, Bd.state]; rfl) hh ((State.WarmedH.refl s).since 0) hH (CHr.refl hH)
theorem OGo.retH {Q : Option Value → Heap → List Loc → Prop} {rm : Room} {h0 : Heap} (X : Stand p l e R (s.setVm vm) m args below meth c T locs cells slots) (hx : p.tables.exec = Jvm.exec) (hZ : Z.Warmed39 vm) (hEL : EW Z a0 EL) (hs0 : s.heap = h0) (eT : T.heap = h) (hS : s.Since vm k0) (hk : k0 ≤ h.size) (H : CHv Z EL vm h) (hR : CHr Z EL s.vm h0 vm h) {pc : Nat} {Ls : Array Slot} {w : Value} {t : FieldType} {i : Instr} {rest : List Value} (hret : meth.sig.returnType = some t) (hlk : meth.locks = false) (hn : narrow t w = w)
    (hi : (i = .ireturn ∧ (t = .int ∨ t = .boolean ∨ t = .byte ∨ t = .char ∨ t = .short) ∧ ∃ z, w = .int z) ∨ (i = .lreturn ∧ t = .long ∧ ∃ z, w = .long z) ∨ (i = .dreturn ∧ t = .double ∧ ∃ z, w = .double z) ∨ (i = .freturn ∧ t = .float ∧ ∃ z, w = .float z) ∨ (i = .areturn ∧ t.isReference = true ∧ w.isRef = true))
    (hd : decode c.code pc = .ok (i, 1)) (hc : cells ≤ rm.cells) (hs : slots ≤ rm.slots) (hQ : Q (some w) h locs) : OGo p e below (EndH Z EL s rm Q) T (mkF m pc Ls (w :: rest)) := by
  subst eT
  obtain ⟨fs, hr, hrun, hended, q1, q2, q3, q4⟩ := X.leaveW hS hk (v := some w) (fun h => by rw [hret] at h; cases h) hlk
  exact ⟨_, _, retOut X hx hret hn hi hd hr, hrun, hended, _, _, rfl, hQ, (by rw [hs0]; have q := hR.trans (CHv.at X hZ hEL H); exact q), q1, q2, q3, q4.mono hc hs⟩
theorem OGo.retHV {Q : Option Value → Heap → List Loc → Prop} {rm : Room} {h0 : Heap} (X : Stand p l e R (s.setVm vm) m args below meth c T locs cells slots) (hx : p.tables.exec = Jvm.exec) (hZ : Z.Warmed39 vm) (hEL : EW Z a0 EL) (hs0 : s.heap = h0) (eT : T.heap = h) (hS : s.Since vm k0) (hk : k0 ≤ h.size) (H : CHv Z EL vm h) (hR : CHr Z EL s.vm h0 vm h) {pc : Nat} {Ls : Array Slot} (hret : meth.sig.returnType = none) (hlk : meth.locks = false)
    (hd : decode c.code pc = .ok (.return_, 1)) (hc : cells ≤ rm.cells) (hs : slots ≤ rm.slots) (hQ : Q none h locs) : OGo p e below (EndH Z EL s rm Q) T (mkF m pc Ls []) := by
  subst eT
  obtain ⟨fs, hr, hrun, hended, q1, q2, q3, q4⟩ := X.leaveW hS hk (v := none) (fun _ => rfl) hlk
  exact ⟨_, _, X.returnOut hx hret hd hr, hrun, hended, _, _, rfl, hQ, (by rw [hs0]; have q := hR.trans (CHv.at X hZ hEL H); exact q), q1, q2, q3, q4.mono hc hs⟩
theorem scallH (X : Stand p l e R (s.setVm vm) m args below meth c T locs cells slots) (hx : p.tables.exec = Jvm.exec) (hZ : Z.Warmed39 vm) {own : String} {index : Nat} {y : MethodName} {bytes : ByteArray} {maxL : Nat} {ret : Option FieldType} (hown : vm.findClass own = some m.cls)
    (hEL : EW Z a0 EL) (hS : s.Since vm k0) (hk : k0 ≤ h.size) (H : CHv Z EL vm h)
    (w1 : (Jvm.Cond.methodLink own index y).before a0 Z = true) (w2 : (Jvm.Cond.static y).before a0 Z = true) (w3 : (Jvm.Cond.initialized y.cls).before a0 Z = true) (w4 : (Jvm.Cond.code y bytes maxL ret).before a0 Z = true) (hy : y.cls ≠ "java/lang/invoke/MethodHandle" ∧ y.cls ≠ "java/lang/invoke/VarHandle")
    {W : Nat} {rm : Room} {as' : Array Value} {Q : Option Value → Heap → List Loc → Prop} (hM : ConH l Z EL y bytes maxL ret [] rm as' h Q) (eT : T.heap = h) (hf : rm.frames + 1 ≤ R.frames) (hl : W + (maxL + 11) + rm.locals ≤ R.locals) (hc : cells + rm.cells ≤ R.cells) (hs : slots + rm.slots ≤ R.slots)
    {g : JFrame} (hg : g.method = m) (hsize : g.locals.size = c.maxLocals) {argsL rest : List Value} {ps : List FieldType} {r : Option FieldType} (hpd : parseMethodDescriptor y.desc = some ⟨ps, r⟩) (hlen : argsL.length = ps.length) (hstack : g.stack = argsL.reverse ++ rest) (has : argsL.toArray = as') (hW : 2 * g.monitorRoom + (rest.map fun v => v.category).sum ≤ W)
    (hdg : decode c.code g.pc = .ok (.invokestatic index, 3)) :
    ∃ (v : Option Value) (T' : State) (L : List Loc) (k1 : Nat), Stand p l e R (s.setVm T'.vm) m args below meth c T' (locs ++ L) (cells + rm.cells) (slots + rm.slots) ∧ s.Since T'.vm k1 ∧ k1 ≤ T'.heap.size ∧ Z.Warmed39 T'.vm ∧ T'.vm.findClass own = some m.cls ∧ CHr Z EL vm h T'.vm T'.heap ∧ Q v T'.heap L ∧
      ∀ target, Steps p.tables e below (T'.setTop { g with pc := g.pc + 3, stack := v.toList ++ rest }) target → Steps p.tables e below (T.setTop g) target := by
  subst eT
  obtain ⟨v, vm₁, ⟨T', L', k', n'⟩, -, X', hS', hgr, ⟨L, hQ, e1, e2, e3, hR⟩, st⟩ := callSS X hx hown (mvT (s := s.setVm vm) hZ w1) (mvT (s := s.setVm vm) hZ w2) (mvT (s := s.setVm vm) hZ w3) (mvT (s := s.setVm vm) hZ w4) hy (backOfSH (s := s) (W := W) hM hZ w4 w3 hf hl hEL H) hg hsize (lenOf hpd hlen) hstack hW hdg (fun _ _ => ⟨has, rfl, hc, hs⟩)
  dsimp only [Pt.U, Pt.locs, Pt.cells, Pt.slots] at X' e1 e2 e3 st hQ hS' hgr hR
  subst e1 e2 e3
  exact ⟨v, T', L, _, X', hS.trans hS' (Nat.le_trans hk hgr), Nat.le_refl _, State.Warmed39.trans (t := s.setVm vm) hZ hS'.1, by rw [hS'.1.alike.findClass]; exact hown, hR, hQ, fun t k => st.trans k⟩
theorem icallH (X : Stand p l e R (s.setVm vm) m args below meth c T locs cells slots) (hx : p.tables.exec = Jvm.exec) (hZ : Z.Warmed39 vm) {own : String} {index : Nat} {y : MethodName} {bytes : ByteArray} {maxL : Nat} (hy1 : y.name = "<init>") (hown : vm.findClass own = some m.cls)
    (hEL : EW Z a0 EL) (hS : s.Since vm k0) (hk : k0 ≤ h.size) (H : CHv Z EL vm h)
    (w1 : (Jvm.Cond.methodLink own index y).before a0 Z = true) (w2 : (Jvm.Cond.instanceMethod y).before a0 Z = true) (w3 : (Jvm.Cond.initialized y.cls).before a0 Z = true) (w4 : (Jvm.Cond.code y bytes maxL none).before a0 Z = true) (hy : y.cls ≠ "java/lang/invoke/MethodHandle" ∧ y.cls ≠ "java/lang/invoke/VarHandle")
    {W : Nat} {rm : Room} {as' : Array Value} {Q : Option Value → Heap → List Loc → Prop} (hM : ConH l Z EL y bytes maxL none [] rm as' h Q) (eT : T.heap = h) (hf : rm.frames + 1 ≤ R.frames) (hl : W + (maxL + 11) + rm.locals ≤ R.locals) (hc : cells + rm.cells ≤ R.cells) (hs : slots + rm.slots ≤ R.slots)
    {g : JFrame} (hg : g.method = m) (hsize : g.locals.size = c.maxLocals) {a : Addr} {argsL rest : List Value} {ps : List FieldType} {r : Option FieldType} (hpd : parseMethodDescriptor y.desc = some ⟨ps, r⟩) (hlen : argsL.length = ps.length) (hstack : g.stack = argsL.reverse ++ .ref a :: rest) (has : (Value.ref a :: argsL).toArray = as') (hW : 2 * g.monitorRoom + (rest.map fun v => v.category).sum ≤ W)
    (hdg : decode c.code g.pc = .ok (.invokespecial index, 3)) :
    ∃ (v : Option Value) (T' : State) (L : List Loc) (k1 : Nat), Stand p l e R (s.setVm T'.vm) m args below meth c T' (locs ++ L) (cells + rm.cells) (slots + rm.slots) ∧ s.Since T'.vm k1 ∧ k1 ≤ T'.heap.size ∧ Z.Warmed39 T'.vm ∧ T'.vm.findClass own = some m.cls ∧ CHr Z EL vm h T'.vm T'.heap ∧ Q v T'.heap L ∧
      ∀ target, Steps p.tables e below (T'.setTop { g with pc := g.pc + 3, stack := v.toList ++ rest }) target → Steps p.tables e below (T.setTop g) target := by
  subst eT
  obtain ⟨v, vm₁, ⟨T', L', k', n'⟩, -, X', hS', hgr, ⟨L, hQ, e1, e2, e3, hR⟩, st⟩ := X.specialBackS hx hy1 hown (mvT (s := s.setVm vm) hZ w1) (mvT (s := s.setVm vm) hZ w2) (mvT (s := s.setVm vm) hZ w4) hy (backOfSH (s := s) (W := W) hM hZ w4 w3 hf hl hEL H) hg hsize (Steps.refl _) (lenOf hpd hlen) hstack hW hdg (fun _ _ => ⟨has, rfl, hc, hs⟩)
  dsimp only [Pt.U, Pt.locs, Pt.cells, Pt.slots] at X' e1 e2 e3 st hQ hS' hgr hR
  subst e1 e2 e3
  exact ⟨v, T', L, _, X', hS.trans hS' (Nat.le_trans hk hgr), Nat.le_refl _, State.Warmed39.trans (t := s.setVm vm) hZ hS'.1, by rw [hS'.1.alike.findClass]; exact hown, hR, hQ, fun t k => st.trans k⟩
theorem vcallH (X : Stand p l e R (s.setVm vm) m args below meth c T locs cells slots) (hx : p.tables.exec = Jvm.exec) (hZ : Z.Warmed39 vm) {own C : String} {index : Nat} {y z : MethodName} {bytes : ByteArray} {maxL : Nat} {ret : Option FieldType} (hown : vm.findClass own = some m.cls)
    (hEL : EW Z a0 EL) (hS : s.Since vm k0) (hk : k0 ≤ h.size) (H : CHv Z EL vm h)
    (w1 : (Jvm.Cond.methodLink own index y).before a0 Z = true) (w2 : (Jvm.Cond.declares y).before a0 Z = true) {C2 : String} {x2 z2 : MethodName} (w7 : (Jvm.Cond.selects C2 x2 z2).before a0 Z = true) (h7 : z2.cls = y.cls) (w5 : (Jvm.Cond.selects C y z).before a0 Z = true) (w6 : (Jvm.Cond.instanceMethod z).before a0 Z = true) (w3 : (Jvm.Cond.initialized z.cls).before a0 Z = true) (w4 : (Jvm.Cond.code z bytes maxL ret).before a0 Z = true) (hy : y.cls ≠ "java/lang/invoke/MethodHandle" ∧ y.cls ≠ "java/lang/invoke/VarHandle")
    {W : Nat} {rm : Room} {as' : Array Value} {Q : Option Value → Heap → List Loc → Prop} (hM : ConH l Z EL z bytes maxL ret [] rm as' h Q) (eT : T.heap = h) (hf : rm.frames + 1 ≤ R.frames) (hl : W + (maxL + 11) + rm.locals ≤ R.locals) (hc : cells + rm.cells ≤ R.cells) (hs : slots + rm.slots ≤ R.slots)
    {g : JFrame} (hg : g.method = m) (hsize : g.locals.size = c.maxLocals) {a : Addr} (E : Exa Z h a C) {argsL rest : List Value} {ps : List FieldType} {r : Option FieldType} (hpd : parseMethodDescriptor y.desc = some ⟨ps, r⟩) (hlen : argsL.length = ps.length) (hstack : g.stack = argsL.reverse ++ .ref a :: rest) (has : (Value.ref a :: argsL).toArray = as') (hW : 2 * g.monitorRoom + (rest.map fun v => v.category).sum ≤ W)
    (hdg : decode c.code g.pc = .ok (.invokevirtual index, 3)) :
    ∃ (v : Option Value) (T' : State) (L : List Loc) (k1 : Nat), Stand p l e R (s.setVm T'.vm) m args below meth c T' (locs ++ L) (cells + rm.cells) (slots + rm.slots) ∧ s.Since T'.vm k1 ∧ k1 ≤ T'.heap.size ∧ Z.Warmed39 T'.vm ∧ T'.vm.findClass own = some m.cls ∧ CHr Z EL vm h T'.vm T'.heap ∧ Q v T'.heap L ∧
      ∀ target, Steps p.tables e below (T'.setTop { g with pc := g.pc + 3, stack := v.toList ++ rest }) target → Steps p.tables e below (T.setTop g) target := by
  subst eT
  obtain ⟨cq, kq, qa, qb, qc⟩ := isOf (s := s.setVm vm) hZ rfl E
  obtain ⟨v, vm₁, ⟨T', L', k', n'⟩, -, X', hS', hgr, ⟨L, hQ, e1, e2, e3, hR⟩, st⟩ := X.virtualBackS hx hown (mvT (s := s.setVm vm) hZ w1) (mvT (s := s.setVm vm) hZ w2) (own_nf (args := #[]) (mvT (s := s.setVm vm) hZ w7) h7) (mvT (s := s.setVm vm) hZ w5) (mvT (s := s.setVm vm) hZ w6) hy (backOfSH (s := s) (W := W) hM hZ w4 w3 hf hl hEL H) qa qc hg hsize (Steps.refl _) (lenOf hpd hlen) hstack hW hdg (fun _ _ => ⟨has, rfl, hc, hs⟩)
  dsimp only [Pt.U, Pt.locs, Pt.cells, Pt.slots] at X' e1 e2 e3 st hQ hS' hgr hR
  subst e1 e2 e3
  exact ⟨v, T', L, _, X', hS.trans hS' (Nat.le_trans hk hgr), Nat.le_refl _, State.Warmed39.trans (t := s.setVm vm) hZ hS'.1, by rw [hS'.1.alike.findClass]; exact hown, hR, hQ, fun t k => st.trans k⟩
/-- a String whose value is null yet is none of the booked constants -/
theorem own_safeNull {x : Addr} (hal : Z.vm.Alike vm) (E : Exa Z h x "java/lang/String") (F : Fld Z h x "java/lang/String" "value" "[B" .null) : Safe Z EL vm h x := fun B => by
  obtain ⟨cell, k, e1, e2, e3, -, -⟩ := E
  obtain ⟨cell', cf, k1, i1, f, g1, g2, -, -, -, -, g7⟩ := F
  cases g1.symm.trans e1
  have nm : ∀ {n : String} {c : ClassId}, vm.findClass n = some c → c = cell.cls → n = "java/lang/String" := fun {n c} f e => by
    subst e
    rw [hal.findClass] at f
    obtain ⟨k1, q1, q2⟩ := Vm.findClass_spec f
    obtain ⟨k2, q3, q4⟩ := Vm.findClass_spec e2
    cases q1.symm.trans q3
    exact q2.symm.trans q4
  obtain ⟨p, -, u, a, -, q, -, S, rfl | rfl⟩ := B
  · cases (show h[q.sa]? = some q.sC from S.ha).symm.trans e1
    obtain ⟨cS, ⟨L1, -⟩, -⟩ := S
    obtain ⟨-, -, -, ⟨c5, k5, i5, ff, -⟩, -, -, -, sv, -⟩ := L1
    obtain ⟨k6, zz⟩ := ff_back (Z := Z) (U := Wst Z vm h) hal ff
    cases zz.symm.trans g2
    rw [sv] at g7
    cases g7
  · cases (show h[q.sd]? = some q.SA from S.hd).symm.trans e1
    obtain ⟨cS, -, -, f, -⟩ := S
    exact absurd (nm f rfl) (by decide)
end K
end Jvm.OwnKit
namespace Jvm.OwnKit
open Sem ClassFile Op Lib Jvm.Stand Jvm.Free Jvm.LawKit Jvm.RoadKit
/-- the contract of a body that may load String constants and fill in a stack trace -/
abbrev ConK (l : Launch) (Z : State) (EL : List (String × Nat)) (y : MethodName) (bytes : ByteArray) (maxL : Nat) (ret : Option FieldType) (ws : List Jvm.Cond) (rm : Room) (as' : Array Value) (h0 : Heap) (Q : Option Value → Heap → List Loc → Prop) : Prop :=
  MetFree l y (head1 (Jvm.Cond.code y bytes maxL ret :: ws) rm) (fun a U => a = as' ∧ Z.Warmed39 U.vm ∧ U.heap = h0 ∧ CHv Z EL U.vm h0) (fun _ _ bl s _ => s.vm.MethodsKnown ∧ s.vm.FramesKnown bl) (fun _ U o U' => ∃ v L, o = .returned v ∧ Q v U'.heap L ∧ CHr Z EL U.vm U.heap U'.vm U'.heap ∧ ReturnedEndW U o U' L rm.cells rm.slots)
section KK
variable {p : Program} {l : Launch} {e : Env} {R : Room} {s : State} {m : MethodId} {args : Array Value} {below : List Frame} {meth : Method} {c : Code} {T T' : State} {locs : List Loc} {cells slots : Nat} {Qe : Outcome → State → Prop} {g g' : JFrame} {Z : State} {a0 : Array Value} {h : Heap} {EL : List (String × Nat)} {vm : Vm} {k0 : Nat}
theorem ConK.intro {y : MethodName} {bytes : ByteArray} {maxL : Nat} {ret : Option FieldType} {ws : List Jvm.Cond} {rm : Room} {as' : Array Value} {h0 : Heap} {Q : Option Value → Heap → List Loc → Prop} (hpl : plainFor y = true)
    (body : ∀ (p : Program) (e : Env) (s : State) (m : MethodId) (below : List Frame) (meth : Method) (c : Code) (s₁ : State), p.tables.exec = Jvm.exec → c.code = bytes → c.maxLocals = maxL → s.vm.findClass y.cls = some m.cls →
      meth.sig.returnType = ret → meth.locks = false → Z.Warmed39 s.vm → meth.name = y.name → Stand p l e rm (s.setVm s.vm) m as' below meth c s₁ [] 0 0 → s₁.heap = h0 → s.heap = h0 → s.Since s.vm 0 → CHv Z EL s.vm h0 → CHr Z EL s.vm h0 s.vm h0 → s.vm.MethodsKnown → s.vm.FramesKnown below → OGo p e below (EndH Z EL s rm Q) s₁ (entryFrame m as' maxL)) :
    ConK l Z EL y bytes maxL ret ws rm as' h0 Q := by
  refine MetFree.of_bodySF hpl hisR ?_
  intro p e s m args below meth c s₁ Bd hml0 hP hK
  obtain ⟨rfl, hZ, hh, hH⟩ := hP
  exact body p e s m below meth c s₁ Bd.exec Bd.bytes hml0 (findClass_of_methodNamed Bd.named) Bd.returns Bd.notSynchronized hZ (name_of_methodNamed Bd.named Bd.method).1 (Stand.of_body Bd) (by rw [← hh, Bd.state]; rfl) hh ((State.WarmedH.refl s).since 0) hH (CHr.refl hH) hK.1 hK.2
theorem scallK (X : Stand p l e R (s.setVm vm) m args below meth c T locs cells slots) (hx : p.tables.exec = Jvm.exec) (hZ : Z.Warmed39 vm) {own : String} {index : Nat} {y : MethodName} {bytes : ByteArray} {maxL : Nat} {ret : Option FieldType} (hown : vm.findClass own = some m.cls)
    (hEL : EW Z a0 EL) (hS : s.Since vm k0) (hk : k0 ≤ h.size) (H : CHv Z EL vm h) (hTK : s.vm.MethodsKnown) (hBl : s.vm.FramesKnown below)
    (w1 : (Jvm.Cond.methodLink own index y).before a0 Z = true) (w2 : (Jvm.Cond.static y).before a0 Z = true) (w3 : (Jvm.Cond.initialized y.cls).before a0 Z = true) (w4 : (Jvm.Cond.code y bytes maxL ret).before a0 Z = true) (hy : y.cls ≠ "java/lang/invoke/MethodHandle" ∧ y.cls ≠ "java/lang/invoke/VarHandle")
    {W : Nat} {rm : Room} {as' : Array Value} {Q : Option Value → Heap → List Loc → Prop} (hM : ConK l Z EL y bytes maxL ret [] rm as' h Q) (eT : T.heap = h) (hf : rm.frames + 1 ≤ R.frames) (hl : W + (maxL + 11) + rm.locals ≤ R.locals) (hc : cells + rm.cells ≤ R.cells) (hs : slots + rm.slots ≤ R.slots)
    {g : JFrame} (hg : g.method = m) (hsize : g.locals.size = c.maxLocals) {argsL rest : List Value} {ps : List FieldType} {r : Option FieldType} (hpd : parseMethodDescriptor y.desc = some ⟨ps, r⟩) (hlen : argsL.length = ps.length) (hstack : g.stack = argsL.reverse ++ rest) (has : argsL.toArray = as') (hW : 2 * g.monitorRoom + (rest.map fun v => v.category).sum ≤ W)
    (hdg : decode c.code g.pc = .ok (.invokestatic index, 3)) :
    ∃ (v : Option Value) (T' : State) (L : List Loc) (k1 : Nat), Stand p l e R (s.setVm T'.vm) m args below meth c T' (locs ++ L) (cells + rm.cells) (slots + rm.slots) ∧ s.Since T'.vm k1 ∧ k1 ≤ T'.heap.size ∧ Z.Warmed39 T'.vm ∧ T'.vm.findClass own = some m.cls ∧ CHr Z EL vm h T'.vm T'.heap ∧ Q v T'.heap L ∧
      ∀ target, Steps p.tables e below (T'.setTop { g with pc := g.pc + 3, stack := v.toList ++ rest }) target → Steps p.tables e below (T.setTop g) target := by
  subst eT
  obtain ⟨v, vm₁, ⟨T', L', k', n'⟩, -, X', hS', hgr, ⟨L, hQ, e1, e2, e3, hR⟩, st⟩ := callSS X hx hown (mvT (s := s.setVm vm) hZ w1) (mvT (s := s.setVm vm) hZ w2) (mvT (s := s.setVm vm) hZ w3) (mvT (s := s.setVm vm) hZ w4) hy (backOfSKH (s := s) (W := W) hM hZ w4 w3 hf hl hEL H (Vm.MethodsKnown.alikeC hS.1.alike hTK) (Vm.FramesKnown.alikeC hS.1.alike hBl)) hg hsize (lenOf hpd hlen) hstack hW hdg (fun _ _ => ⟨has, rfl, hc, hs⟩)
  dsimp only [Pt.U, Pt.locs, Pt.cells, Pt.slots] at X' e1 e2 e3 st hQ hS' hgr hR
  subst e1 e2 e3
  exact ⟨v, T', L, _, X', hS.trans hS' (Nat.le_trans hk hgr), Nat.le_refl _, State.Warmed39.trans (t := s.setVm vm) hZ hS'.1, by rw [hS'.1.alike.findClass]; exact hown, hR, hQ, fun t k => st.trans k⟩
theorem icallK (X : Stand p l e R (s.setVm vm) m args below meth c T locs cells slots) (hx : p.tables.exec = Jvm.exec) (hZ : Z.Warmed39 vm) {own : String} {index : Nat} {y : MethodName} {bytes : ByteArray} {maxL : Nat} (hy1 : y.name = "<init>") (hown : vm.findClass own = some m.cls)
    (hEL : EW Z a0 EL) (hS : s.Since vm k0) (hk : k0 ≤ h.size) (H : CHv Z EL vm h) (hTK : s.vm.MethodsKnown) (hBl : s.vm.FramesKnown below)
    (w1 : (Jvm.Cond.methodLink own index y).before a0 Z = true) (w2 : (Jvm.Cond.instanceMethod y).before a0 Z = true) (w3 : (Jvm.Cond.initialized y.cls).before a0 Z = true) (w4 : (Jvm.Cond.code y bytes maxL none).before a0 Z = true) (hy : y.cls ≠ "java/lang/invoke/MethodHandle" ∧ y.cls ≠ "java/lang/invoke/VarHandle")
    {W : Nat} {rm : Room} {as' : Array Value} {Q : Option Value → Heap → List Loc → Prop} (hM : ConK l Z EL y bytes maxL none [] rm as' h Q) (eT : T.heap = h) (hf : rm.frames + 1 ≤ R.frames) (hl : W + (maxL + 11) + rm.locals ≤ R.locals) (hc : cells + rm.cells ≤ R.cells) (hs : slots + rm.slots ≤ R.slots)
    {g : JFrame} (hg : g.method = m) (hsize : g.locals.size = c.maxLocals) {a : Addr} {argsL rest : List Value} {ps : List FieldType} {r : Option FieldType} (hpd : parseMethodDescriptor y.desc = some ⟨ps, r⟩) (hlen : argsL.length = ps.length) (hstack : g.stack = argsL.reverse ++ .ref a :: rest) (has : (Value.ref a :: argsL).toArray = as') (hW : 2 * g.monitorRoom + (rest.map fun v => v.category).sum ≤ W)
    (hdg : decode c.code g.pc = .ok (.invokespecial index, 3)) :
    ∃ (v : Option Value) (T' : State) (L : List Loc) (k1 : Nat), Stand p l e R (s.setVm T'.vm) m args below meth c T' (locs ++ L) (cells + rm.cells) (slots + rm.slots) ∧ s.Since T'.vm k1 ∧ k1 ≤ T'.heap.size ∧ Z.Warmed39 T'.vm ∧ T'.vm.findClass own = some m.cls ∧ CHr Z EL vm h T'.vm T'.heap ∧ Q v T'.heap L ∧
      ∀ target, Steps p.tables e below (T'.setTop { g with pc := g.pc + 3, stack := v.toList ++ rest }) target → Steps p.tables e below (T.setTop g) target := by
  subst eT
  obtain ⟨v, vm₁, ⟨T', L', k', n'⟩, -, X', hS', hgr, ⟨L, hQ, e1, e2, e3, hR⟩, st⟩ := X.specialBackS hx hy1 hown (mvT (s := s.setVm vm) hZ w1) (mvT (s := s.setVm vm) hZ w2) (mvT (s := s.setVm vm) hZ w4) hy (backOfSKH (s := s) (W := W) hM hZ w4 w3 hf hl hEL H (Vm.MethodsKnown.alikeC hS.1.alike hTK) (Vm.FramesKnown.alikeC hS.1.alike hBl)) hg hsize (Steps.refl _) (lenOf hpd hlen) hstack hW hdg (fun _ _ => ⟨has, rfl, hc, hs⟩)
  dsimp only [Pt.U, Pt.locs, Pt.cells, Pt.slots] at X' e1 e2 e3 st hQ hS' hgr hR
  subst e1 e2 e3
  exact ⟨v, T', L, _, X', hS.trans hS' (Nat.le_trans hk hgr), Nat.le_refl _, State.Warmed39.trans (t := s.setVm vm) hZ hS'.1, by rw [hS'.1.alike.findClass]; exact hown, hR, hQ, fun t k => st.trans k⟩
theorem vcallK (X : Stand p l e R (s.setVm vm) m args below meth c T locs cells slots) (hx : p.tables.exec = Jvm.exec) (hZ : Z.Warmed39 vm) {own C : String} {index : Nat} {y z : MethodName} {bytes : ByteArray} {maxL : Nat} {ret : Option FieldType} (hown : vm.findClass own = some m.cls)
    (hEL : EW Z a0 EL) (hS : s.Since vm k0) (hk : k0 ≤ h.size) (H : CHv Z EL vm h) (hTK : s.vm.MethodsKnown) (hBl : s.vm.FramesKnown below)
    (w1 : (Jvm.Cond.methodLink own index y).before a0 Z = true) (w2 : (Jvm.Cond.declares y).before a0 Z = true) {C2 : String} {x2 z2 : MethodName} (w7 : (Jvm.Cond.selects C2 x2 z2).before a0 Z = true) (h7 : z2.cls = y.cls) (w5 : (Jvm.Cond.selects C y z).before a0 Z = true) (w6 : (Jvm.Cond.instanceMethod z).before a0 Z = true) (w3 : (Jvm.Cond.initialized z.cls).before a0 Z = true) (w4 : (Jvm.Cond.code z bytes maxL ret).before a0 Z = true) (hy : y.cls ≠ "java/lang/invoke/MethodHandle" ∧ y.cls ≠ "java/lang/invoke/VarHandle")
    {W : Nat} {rm : Room} {as' : Array Value} {Q : Option Value → Heap → List Loc → Prop} (hM : ConK l Z EL z bytes maxL ret [] rm as' h Q) (eT : T.heap = h) (hf : rm.frames + 1 ≤ R.frames) (hl : W + (maxL + 11) + rm.locals ≤ R.locals) (hc : cells + rm.cells ≤ R.cells) (hs : slots + rm.slots ≤ R.slots)
    {g : JFrame} (hg : g.method = m) (hsize : g.locals.size = c.maxLocals) {a : Addr} (E : Exa Z h a C) {argsL rest : List Value} {ps : List FieldType} {r : Option FieldType} (hpd : parseMethodDescriptor y.desc = some ⟨ps, r⟩) (hlen : argsL.length = ps.length) (hstack : g.stack = argsL.reverse ++ .ref a :: rest) (has : (Value.ref a :: argsL).toArray = as') (hW : 2 * g.monitorRoom + (rest.map fun v => v.category).sum ≤ W)
    (hdg : decode c.code g.pc = .ok (.invokevirtual index, 3)) :
    ∃ (v : Option Value) (T' : State) (L : List Loc) (k1 : Nat), Stand p l e R (s.setVm T'.vm) m args below meth c T' (locs ++ L) (cells + rm.cells) (slots + rm.slots) ∧ s.Since T'.vm k1 ∧ k1 ≤ T'.heap.size ∧ Z.Warmed39 T'.vm ∧ T'.vm.findClass own = some m.cls ∧ CHr Z EL vm h T'.vm T'.heap ∧ Q v T'.heap L ∧
      ∀ target, Steps p.tables e below (T'.setTop { g with pc := g.pc + 3, stack := v.toList ++ rest }) target → Steps p.tables e below (T.setTop g) target := by
  subst eT
  obtain ⟨cq, kq, qa, qb, qc⟩ := isOf (s := s.setVm vm) hZ rfl E
  obtain ⟨v, vm₁, ⟨T', L', k', n'⟩, -, X', hS', hgr, ⟨L, hQ, e1, e2, e3, hR⟩, st⟩ := X.virtualBackS hx hown (mvT (s := s.setVm vm) hZ w1) (mvT (s := s.setVm vm) hZ w2) (own_nf (args := #[]) (mvT (s := s.setVm vm) hZ w7) h7) (mvT (s := s.setVm vm) hZ w5) (mvT (s := s.setVm vm) hZ w6) hy (backOfSKH (s := s) (W := W) hM hZ w4 w3 hf hl hEL H (Vm.MethodsKnown.alikeC hS.1.alike hTK) (Vm.FramesKnown.alikeC hS.1.alike hBl)) qa qc hg hsize (Steps.refl _) (lenOf hpd hlen) hstack hW hdg (fun _ _ => ⟨has, rfl, hc, hs⟩)
  dsimp only [Pt.U, Pt.locs, Pt.cells, Pt.slots] at X' e1 e2 e3 st hQ hS' hgr hR
  subst e1 e2 e3
  exact ⟨v, T', L, _, X', hS.trans hS' (Nat.le_trans hk hgr), Nat.le_refl _, State.Warmed39.trans (t := s.setVm vm) hZ hS'.1, by rw [hS'.1.alike.findClass]; exact hown, hR, hQ, fun t k => st.trans k⟩
end KK
end Jvm.OwnKit
namespace Jvm.OwnKit
open Sem ClassFile Op Lib Bundle Jvm.Stand Jvm.Free Jvm.Free.Exc Jvm.LawKit Jvm.RoadKit LibCode.Throwable
/-- the words on Throwable that the sheet bears: its fields laid in the class rc -/
def own_thrAtoms (rc : String) : List Cond :=
  [.initialized tN, .superclass tN "java/lang/Object", .instanceMethod tFill, .codeSync tFill Fill.code 1 (some (.object tN)), .instanceMethod tFill0, .native tFill0, .instanceMethod tInit0, .code tInit0 Init0.code 1 none,
   .instanceMethod oInit, .code oInit ⟨#[0xb1]⟩ 1 none, .methodLink tN 1 oInit, .methodLink tN 27 tFill, .methodLink tN 202 tFill0,
   .fieldLink tN 7 tN "cause" thD, .lays rc tN "cause" thD, .fieldLink tN 17 tN "stackTrace" steD, .lays rc tN "stackTrace" steD, .fieldLink tN 24 tN "suppressedExceptions" listD, .lays rc tN "suppressedExceptions" listD,
   .fieldLink tN 13 tN "UNASSIGNED_STACK" steD, .laysStatic tN "UNASSIGNED_STACK" steD, .fieldLink tN 20 tN "SUPPRESSED_SENTINEL" listD, .laysStatic tN "SUPPRESSED_SENTINEL" listD,
   .fieldLink tN 31 tN "detailMessage" msgD, .lays rc tN "detailMessage" msgD]
/-- two fields laid in one class and named apart have slots apart -/
theorem own_apart {args : Array Value} {s : State} {rc O n1 d1 n2 d2 : String} {c1 c2 i1 i2 : Nat} {k1 k2 : Class} {f1 f2 : Field} (w1 : (Cond.lays rc O n1 d1).before args s = true) (w2 : (Cond.lays rc O n2 d2).before args s = true) (e1 : s.fieldFound? O n1 d1 = some (c1, k1, i1, f1)) (e2 : s.fieldFound? O n2 d2 = some (c2, k2, i2, f2)) (hn : f1.name ≠ f2.name) : f1.slot ≠ f2.slot := fun he => by
  obtain ⟨c, -, _, _, _, g1, hc, -, x1, -, -, -, -, d1, y1, -, z1, -⟩ := Cond.lays_spec w1
  obtain ⟨c', -, _, _, _, g2, hc', -, x2, -, -, -, -, d2, y2, -, z2, -⟩ := Cond.lays_spec w2
  cases x1.symm.trans e1
  cases x2.symm.trans e2
  cases hc.symm.trans hc'
  rw [he] at y1
  cases y1.symm.trans y2
  exact hn (z1.symm.trans z2)
theorem own_nopar {y : MethodName} {ps : List FieldType} {sig : MethodDescriptor} (h : parseMethodDescriptor y.desc = some sig) (q : (parseMethodDescriptor y.desc).map (·.parameters) = some ps) : sig.parameters = ps := by
  rw [h] at q; simpa using q
theorem own_thr {args : Array Value} {s : State} {pl : Platform} {rc : String} (howns : pl.frameOwnsMonitors = true) (hfin : pl.finalization = false) (hpl : pl.magicAccessors = ({} : Platform).magicAccessors) (w : ∀ d ∈ own_thrAtoms rc, d.before args s = true) :
    ∃ T : ThrowableC, T.Links pl s ∧ s.vm.findClass tN = some T.cT ∧ s.methodNamed? tFill = some T.fill ∧ s.methodNamed? tFill0 = some T.fill0 ∧ s.fieldFound? tN "stackTrace" steD = some (T.cT, T.kT, T.i17, T.fStack) ∧ T.fStack.type = .array (.object "java/lang/StackTraceElement") ∧ T.fStack.name = "stackTrace" ∧ s.fieldFound? tN "UNASSIGNED_STACK" steD = some (T.cT, T.kT, T.i13, T.fUnassigned) := by
  -- the fields
  have wcl := w (.lays rc tN "cause" thD) (by simp [own_thrAtoms])
  have wsl := w (.lays rc tN "stackTrace" steD) (by simp [own_thrAtoms])
  have wpl := w (.lays rc tN "suppressedExceptions" listD) (by simp [own_thrAtoms])
  have wml := w (.lays rc tN "detailMessage" msgD) (by simp [own_thrAtoms])
  obtain ⟨mf, xf, nf, of, -⟩ := Cond.native_spec (w (.native tFill0) (by simp [own_thrAtoms]))
  obtain ⟨kt, hkt, hname⟩ := Vm.findClass_spec (findClass_of_methodNamed nf)
  obtain ⟨cT, i0⟩ := mf
  have hc : s.vm.findClass tN = some cT := findClass_of_methodNamed nf
  obtain ⟨ci7, i7, f7, l7, r7, a7, s7, n7, nm7, -, ff7⟩ := Cond.ownField (t := .object tN) hc hkt (by decide +kernel) (w (.fieldLink tN 7 tN "cause" thD) (by simp [own_thrAtoms])) wcl pl hpl
  obtain ⟨ci17, i17, f17, l17, r17, a17, s17, n17, nm17, ty17, ff17⟩ := Cond.ownField (t := .array (.object "java/lang/StackTraceElement")) hc hkt (by decide +kernel) (w (.fieldLink tN 17 tN "stackTrace" steD) (by simp [own_thrAtoms])) wsl pl hpl
  obtain ⟨ci24, i24, f24, l24, r24, a24, s24, n24, nm24, -, ff24⟩ := Cond.ownField (t := .object "java/util/List") hc hkt (by decide +kernel) (w (.fieldLink tN 24 tN "suppressedExceptions" listD) (by simp [own_thrAtoms])) wpl pl hpl
  obtain ⟨ci31, i31, f31, -, -, a31, s31, n31, -, -, ff31⟩ := Cond.ownField (t := .object "java/lang/String") hc hkt (by decide +kernel) (w (.fieldLink tN 31 tN "detailMessage" msgD) (by simp [own_thrAtoms])) wml pl hpl
  obtain ⟨ci13, i13, f13, aS, -, l13, r13, a13, s13, -, -, hst, -, -, -, -, ff13⟩ := Cond.ownStatic (t := .array (.object "java/lang/StackTraceElement")) hc hkt (by decide +kernel) (w (.fieldLink tN 13 tN "UNASSIGNED_STACK" steD) (by simp [own_thrAtoms])) (w (.laysStatic tN "UNASSIGNED_STACK" steD) (by simp [own_thrAtoms])) pl hpl
  obtain ⟨ci20, i20, f20, -, -, l20, r20, a20, s20, -⟩ := Cond.ownStatic (t := .object "java/util/List") hc hkt (by decide +kernel) (w (.fieldLink tN 20 tN "SUPPRESSED_SENTINEL" listD) (by simp [own_thrAtoms])) (w (.laysStatic tN "SUPPRESSED_SENTINEL" listD) (by simp [own_thrAtoms])) pl hpl
  have hap := own_apart wsl wpl ff17 ff24 (by rw [nm17, nm24]; decide)
  -- the methods
  have hi := Cond.initialized_spec hc hkt (w (.initialized tN) (by simp [own_thrAtoms]))
  have hni : kt.isInterface = false := by
    obtain ⟨_, k', _, -, hk', -, -, -, -, q⟩ := Cond.superclass_spec hc (w (.superclass tN "java/lang/Object") (by simp [own_thrAtoms]))
    cases hk'.symm.trans hkt; exact q
  obtain ⟨jF, xF, nF, oF, aF, sF, bF, -, -⟩ := Cond.ownMethod (x := tFill) hc hkt (w (.instanceMethod tFill) (by simp [own_thrAtoms]))
  obtain ⟨yF, cF, oF', kF, tF, mF, rF, lF, -, gF⟩ := Cond.codeSync_spec nF (w (.codeSync tFill Fill.code 1 (some (.object tN))) (by simp [own_thrAtoms]))
  cases oF'.symm.trans oF
  obtain ⟨jN, xN, nN, oN, aN, sN, bN, mN, dN⟩ := Cond.ownMethod (x := tFill0) hc hkt (w (.instanceMethod tFill0) (by simp [own_thrAtoms]))
  obtain ⟨mN', xN', nN', oN', natN, codN, lkN, gN⟩ := Cond.native_spec (w (.native tFill0) (by simp [own_thrAtoms]))
  cases nN'.symm.trans nN
  cases oN'.symm.trans oN
  obtain ⟨jI, xI, nI, oI', aI, -⟩ := Cond.ownMethod (x := tInit0) hc hkt (w (.instanceMethod tInit0) (by simp [own_thrAtoms]))
  obtain ⟨yI, cI, oI'', kI, -⟩ := Cond.code_spec nI (w (.code tInit0 Init0.code 1 none) (by simp [own_thrAtoms]))
  cases oI''.symm.trans oI'
  obtain ⟨mO, xO, nO, oO, sO, bO⟩ := Cond.instanceMethod_spec (w (.instanceMethod oInit) (by simp [own_thrAtoms]))
  obtain ⟨yO, cO, oO', kO, tO, -, -, lO, -, gO⟩ := Cond.code_spec nO (w (.code oInit ⟨#[0xb1]⟩ 1 none) (by simp [own_thrAtoms]))
  cases oO'.symm.trans oO
  obtain ⟨kObj, hkObj, hnObj⟩ := Vm.findClass_spec (findClass_of_methodNamed nO)
  obtain ⟨mnO, mdO⟩ := name_of_methodNamed nO oO
  obtain ⟨c1, p1, cf, u1, v1, hcf, q1⟩ := Cond.linkedMethod hc hkt nO (w (.methodLink tN 1 oInit) (by simp [own_thrAtoms])) pl hpl
  obtain ⟨c27, p27, cf2, u27, v27, hcf2, q27⟩ := Cond.linkedMethod hc hkt nF (w (.methodLink tN 27 tFill) (by simp [own_thrAtoms])) pl hpl
  cases hcf2.symm.trans hcf
  obtain ⟨c202, p202, cf3, u202, v202, hcf3, q202⟩ := Cond.linkedMethod hc hkt nN (w (.methodLink tN 202 tFill0) (by simp [own_thrAtoms])) pl hpl
  cases hcf3.symm.trans hcf
  let T : ThrowableC := { cT := cT, kT := kt, cO := cT, aS := aS, fillIdx := jF, fill0Idx := jN, initSIdx := jI, obj := mO, kObj := kObj, methFill := xF, methFill0 := xN, methInitS := xI, methObj := xO, codeFill := cF, codeInitS := cI, codeObj := cO, fBack := f7, fDepth := f7, fStack := f17, fCause := f7, fSupp := f24, fMsg := f31, fUnassigned := f13, fSentinel := f20, cfT := cf, ci1 := c1, n1 := p1, ci27 := c27, n27 := p27, ci202 := c202, n202 := p202, ci7 := ci7, i7 := i7, ci13 := ci13, i13 := i13, ci17 := ci17, i17 := i17, ci20 := ci20, i20 := i20, ci24 := ci24, i24 := i24 }
  refine ⟨T, ?_, hc, nF, nN, ff17, ty17, nm17, ff13⟩
  have hpO : xO.sig.parameters = [] := own_nopar gO (by decide +kernel)
  constructor
  case fillParams => exact own_nopar gF (by decide +kernel)
  case fill0Params => exact own_nopar gN (by decide +kernel)
  case objParams => show xO.sig.parameters.length = 0; rw [hpO]; rfl
  case objFound => show lookupSpecial s.vm mO.cls "<init>" xO.desc = _; rw [mdO]; exact lookupSpecial_of_named nO oO sO
  case boot => exact Vm.findClass_boot hc hkt
  all_goals assumption
def own_fillAtoms (rc : String) : List Cond := own_thrAtoms rc ++ [.declares tFill, .selects rc tFill0 tFill0, .selects rc tFill tFill, .fieldLink tN 198 tN "backtrace" obD, .lays rc tN "backtrace" obD, .arrayOver (.object "java/lang/Object"), .soleField tN "backtrace", .soleField tN "depth", .lays rc tN "depth" "I"]
/-- fillInStackTrace, called on an object of the class rc whose backtrace is null yet -/
theorem own_fill {p : Program} {l : Launch} {e : Env} {R : Room} {s : State} {m : MethodId} {args : Array Value} {below : List Frame} {meth : Method} {c : Code} {T : State} {locs : List Loc} {cells slots : Nat}
    (X : Stand p l e R s m args below meth c T locs cells slots) (hexec : p.tables.exec = Jvm.exec) (hl : l.stackTraces = true) (hown : s.vm.findClass tN = some m.cls) {rc : String} (W : ∀ d ∈ own_fillAtoms rc, d.before args s = true) (hTK : s.vm.MethodsKnown) (hBelow : s.vm.FramesKnown below)
    {a : Addr} {cell : Cell} {kX : Class} (hcell : T.heap[a]? = some cell) (hfound : s.vm.findClass rc = some cell.cls) (hk : s.vm.classes[cell.cls]? = some kX) (hord : kX.kind = .ordinary) (hsz : cell.slots.size = kX.instanceTypes.size) (hvm : cell.vm = .none) (hmon : cell.monitor = {}) {u0 : RefV}
    (hst : ∀ c k i f, s.fieldFound? tN "stackTrace" steD = some (c, k, i, f) → cell.slots[f.slot]? = some u0.v) (hbk : ∀ c k i f, s.fieldFound? tN "backtrace" obD = some (c, k, i, f) → cell.slots[f.slot]? = some .null)
    (hun : ∀ (c : ClassId) (k : Class) (i : Nat) (f : Field) (st : Addr), s.fieldFound? tN "UNASSIGNED_STACK" steD = some (c, k, i, f) → k.statics = some st → ∃ cS : Cell, T.heap[st]? = some cS ∧ cS.vm.isStatics = true ∧ cS.vm ≠ .unknown ∧ cS.slots[f.slot]? = some u0.v)
    {g : JFrame} (hg : g.method = m) (hsize : g.locals.size = c.maxLocals) {rest : List Value} (hs : g.stack = .ref a :: rest) (hd : decode c.code g.pc = .ok (.invokevirtual 27, 3)) (hf : 3 ≤ R.frames) {w : Nat} (hw : 2 * g.monitorRoom + (rest.map fun v => v.category).sum ≤ w) (hlo : w + 42 ≤ R.locals) (hc : cells + 1 ≤ R.cells) (hsl : slots + 2752 ≤ R.slots) :
    ∃ (T' : State) (C : Cell) (fb fd fs : Field) (c1 c2 c3 i1 i2 i3 : Nat) (k1 k2 k3 : Class), s.fieldFound? tN "backtrace" obD = some (c1, k1, i1, fb) ∧ s.fieldFound? tN "depth" "I" = some (c2, k2, i2, fd) ∧ s.fieldFound? tN "stackTrace" steD = some (c3, k3, i3, fs) ∧
      Stand p l e R s m args below meth c T' (locs ++ [⟨a, fb.slot⟩, ⟨a, fd.slot⟩, ⟨a, fs.slot⟩]) (cells + 1) (slots + 2752) ∧ T'.heap[a]? = some C ∧ C.cls = cell.cls ∧ C.vm = cell.vm ∧ C.slots.size = cell.slots.size ∧ (∀ i, i ≠ fb.slot → i ≠ fd.slot → i ≠ fs.slot → C.slots[i]? = cell.slots[i]?) ∧
      ∀ target, Steps p.tables e below (T'.setTop { g with pc := g.pc + 3, stack := .ref a :: rest }) target → Steps p.tables e below (T.setTop g) target := by
  have htr : e.platform.stackTraces = true := by rw [X.admits.platform]; exact hl
  have hpl : e.platform.magicAccessors = ({} : Platform).magicAccessors := by rw [X.admits.platform]
  have V : ∀ d ∈ own_thrAtoms rc, d.before args s = true := fun d q => W d (List.mem_append_left _ q)
  obtain ⟨Th, L, hT, nF, nN, ff17, ty17, nm17, ff13⟩ := own_thr (pl := e.platform) (by rw [X.admits.platform]) (by rw [X.admits.platform]) hpl V
  obtain ⟨cS, hcS, isS, unS, hvU⟩ := hun _ _ _ _ _ ff13 L.statics
  have hsel0 : selectMethod e.platform s.vm cell.cls Th.fill0 = .method Th.fill0 := by
    obtain ⟨c2, r2, m2, q1, q2, q3, q4, -⟩ := Cond.selects_spec (W (.selects rc tFill0 tFill0) (by simp [own_fillAtoms]))
    cases q1.symm.trans hfound
    cases q2.symm.trans (State.methodFound?_of_named nN (by decide))
    cases q3.symm.trans nN
    rw [Launch.admits_selectMethod X.admits]; exact q4
  have hneS : Th.aS ≠ a := fun q => by
    rw [q, hcell] at hcS; cases hcS; rw [hvm] at isS; cases isS
  have wD := W (.lays rc tN "depth" "I") (by simp [own_fillAtoms])
  obtain ⟨ci198, i198, fB, l198, r198, a198, sB, -, nmB, tyB, ffB⟩ := Cond.ownField (t := .object "java/lang/Object") hT L.cls (by decide +kernel) (W (.fieldLink tN 198 tN "backtrace" obD) (by simp [own_fillAtoms])) (W (.lays rc tN "backtrace" obD) (by simp [own_fillAtoms])) e.platform hpl
  obtain ⟨_, _, cD, kD, iD, fD, -, -, ffD, sD, -⟩ := Cond.lays_spec wD
  cases (Cond.lays_declared wD ffD).symm.trans hT
  obtain ⟨hkD, atD⟩ := State.fieldFound?_spec ffD
  cases hkD.symm.trans L.cls
  obtain ⟨nmD, tyD⟩ := State.fieldFound?_type ffD (t := .int) (by decide +kernel)
  have hfb := Cond.soleField_find hT L.cls (W (.soleField tN "backtrace") (by simp [own_fillAtoms])) a198 nmB sB
  have hfd := Cond.soleField_find hT L.cls (W (.soleField tN "depth") (by simp [own_fillAtoms])) atD nmD sD
  obtain ⟨comp, cO, kO, -, -, hkO, hkindO, hO⟩ := Cond.arrayOver_spec (W (.arrayOver (.object "java/lang/Object")) (by simp [own_fillAtoms]))
  obtain ⟨zS, -⟩ := Cond.laysAt hfound hk ff17 (V (.lays rc tN "stackTrace" steD) (by simp [own_thrAtoms]))
  obtain ⟨zB, -⟩ := Cond.laysAt hfound hk ffB (W (.lays rc tN "backtrace" obD) (by simp [own_fillAtoms]))
  obtain ⟨zD, -⟩ := Cond.laysAt hfound hk ffD wD
  have tk : ∀ {f : Field} {v : Value}, kX.instanceTypes[f.slot]? = some f.type → fits f.type v = true → Jvm.Takes s cell f v := fun {f v} h1 h2 => by
    obtain ⟨q1, q2⟩ := Takes.of_laid (v := v) hk hord h1 h2
    exact ⟨by rw [hsz]; simpa using q1, by rw [hvm]; exact q2⟩
  have hSE := W (.selects rc tFill tFill) (by simp [own_fillAtoms])
  obtain ⟨v6, vm6, ⟨T6, L6, c6, n6⟩, -, X6, ⟨hv6, C6, n, hn, hD6, q1, q2, q3, q4, hL6, hc6, hn6⟩, come⟩ := X.virtualBack hexec (own := tN) (C := rc) (index := 27) (y := tFill) (z := tFill) hown (V (.methodLink tN 27 tFill) (by simp [own_thrAtoms])) (W (.declares tFill) (by simp [own_fillAtoms])) (notFace_of_selects hSE) hSE (V (.instanceMethod tFill) (by simp [own_thrAtoms])) (by decide)
    (fillPaysAny (l := l) (W := w) hexec htr Th L nF (u0 := u0) (self := a) (cell := cell) (cellS := cS) (fun _ => by rw [hvm]; simp) (by rw [hvm]; simp) (by rw [hmon]) (by rw [hmon]) (hst _ _ _ _ ff17) hsel0 hneS unS hvU (tk zS (by rw [ty17]; exact fits_refV_array _ u0))
      ⟨{ ci198 := ci198, i198 := i198, fBack := fB }, ⟨l198, r198, a198, sB⟩, hbk _ _ _ _ ffB⟩ hTK hBelow hT hO hkO hkindO hfb hfd (fun x => tk zB (by rw [tyB]; rfl)) (fun x => tk zD (by rw [tyD]; rfl)) (by omega) hlo)
    (b := a) (cB := cell.cls) hfound ⟨cell, hcell, rfl, by rw [hvm]; rfl⟩ (g := g) hg hsize (Steps.refl _) (argsL := []) (rest := rest)
    (fun sig h => by rw [show parseMethodDescriptor tFill.desc = some ⟨[], some (.object tN)⟩ from by decide +kernel] at h; rw [← Option.some.inj h]; rfl) hs hw hd
    (fun vmx hWx => ⟨rfl, hc, hsl, hcell, hcS⟩)
  dsimp only [Pt.U, Pt.locs, Pt.cells, Pt.slots] at X6 hD6 hL6 hc6 hn6 come
  subst hv6 hL6 hc6 hn6
  exact ⟨T6, C6, fB, fD, Th.fStack, _, _, _, _, _, _, _, _, _, ffB, ffD, ff17, X6.more (Nat.le_refl _) (Nat.add_le_add_left hn _), hD6, q1, q2, q3, q4, fun t k => come.trans k⟩
theorem own_keepS {s T : State} {locs : List Loc} {cells slots : Nat} {a : Addr} (S : s.sameButNew (T.setVm s.vm) locs cells slots) (hb : ∀ x ∈ locs, x.base = a) : Keep s.heap T.heap [a] := by
  obtain ⟨-, h1, -, -, -, h2⟩ := S
  refine ⟨h1, fun x c q hx => ?_, fun x c q => ?_⟩
  · obtain ⟨c', g1, g2, -, g4⟩ := h2 x c q
    have e : c'.slots = c.slots := Array.ext_getElem? fun i => g4 i fun hm => hx (List.mem_singleton.mpr (hb _ hm))
    rw [e] at g2
    rw [show T.heap[x]? = some c' from g1, g2]
  · obtain ⟨c', g1, g2, g3, -⟩ := h2 x c q
    exact ⟨c', g1, by rw [g2], by rw [g2], g3⟩
theorem own_untS {s T : State} {locs : List Loc} {cells slots : Nat} {a : Addr} (S : s.sameButNew (T.setVm s.vm) locs cells slots) (N : Unt s.heap a) : Unt T.heap a := by
  obtain ⟨-, -, -, -, -, h2⟩ := S
  obtain ⟨c, q1, q2, q3⟩ := N
  obtain ⟨c', g1, g2, -, -⟩ := h2 a c q1
  exact ⟨c', g1, by rw [g2]; exact q2, by rw [g2]; exact q3⟩
theorem own_slot {Z s : State} {h : Heap} {a : Addr} {cell : Cell} {C n d : String} {v : Value} (hal : Z.vm.Alike s.vm) (hc : h[a]? = some cell) (F : Fld Z h a C n d v) : ∀ c k i f, s.fieldFound? C n d = some (c, k, i, f) → cell.slots[f.slot]? = some v := fun c k i f q => by
  obtain ⟨cell', cf, k', i', f', h1, h2, -, -, -, -, h7⟩ := F
  cases h1.symm.trans hc
  obtain ⟨k2, z⟩ := ff_back (Z := Z) (U := s) hal q
  cases z.symm.trans h2
  exact h7
theorem own_sta {Z s : State} {h : Heap} {C n d : String} {v : Value} (hZ : Z.Warmed39 s.vm) (F : Sta Z h C n d v) : ∀ (c : ClassId) (k : Class) (i : Nat) (f : Field) (st : Addr), s.fieldFound? C n d = some (c, k, i, f) → k.statics = some st → ∃ cS : Cell, h[st]? = some cS ∧ cS.vm.isStatics = true ∧ cS.vm ≠ .unknown ∧ cS.slots[f.slot]? = some v := fun c k i f st q hs => by
  obtain ⟨cf, i', k', f', st', cell, g1, g2, g3, g4, g5, g6, g7⟩ := F
  obtain ⟨k2, z⟩ := ff_back (Z := Z) (U := s) hZ.alike q
  cases z.symm.trans g1
  have e : st = st' := by
    have a1 := (State.fieldFound?_spec q).1
    have a2 := (State.fieldFound?_spec g1).1
    obtain ⟨k3, b1, b2⟩ := hZ.alike.2.2 _ _ a2
    cases b1.symm.trans a1
    have e2 : k'.statics = some st := by rw [← hs, b2]
    exact Option.some.inj (e2.symm.trans g4)
  subst e
  exact ⟨cell, g5, g6, fun q => (by rw [q] at g6; cases g6), g7⟩
theorem own_b0 {a : Addr} : ∀ x ∈ ([] : List Loc), x.base = a := fun _ q => nomatch q
theorem own_b1 {a : Addr} {sl : Nat} {locs : List Loc} (h : ∀ x ∈ locs, x.base = a) : ∀ x ∈ locs ++ [(⟨a, sl⟩ : Loc)], x.base = a := fun x q => (List.mem_append.mp q).elim (h x) fun z => by cases List.mem_singleton.mp z; rfl
theorem own_frb {n0 : Nat} {a : Addr} {locs : List Loc} (h : ∀ x ∈ locs, x.base = a) (q : n0 ≤ a) : Fr n0 locs := fun y hy => by rw [h y hy]; exact q
theorem own_slotne {args : Array Value} {s : State} {rc O n1 d1 n2 d2 : String} {c1 c2 i1 i2 : Nat} {k1 k2 : Class} {f1 f2 : Field} {t1 t2 : FieldType} (w1 : (Cond.lays rc O n1 d1).before args s = true) (w2 : (Cond.lays rc O n2 d2).before args s = true) (e1 : s.fieldFound? O n1 d1 = some (c1, k1, i1, f1)) (e2 : s.fieldFound? O n2 d2 = some (c2, k2, i2, f2)) (p1 : parseFieldDescriptor d1 = some t1) (p2 : parseFieldDescriptor d2 = some t2) (hn : n1 ≠ n2) : f1.slot ≠ f2.slot :=
  own_apart w1 w2 e1 e2 (by rw [(State.fieldFound?_type e1 p1).1, (State.fieldFound?_type e2 p2).1]; exact hn)
/-- fillInStackTrace in terms of the walk's facts: its places have base a, cause and message stay -/
theorem own_fillF {p : Program} {l : Launch} {e : Env} {R : Room} {s : State} {m : MethodId} {args : Array Value} {below : List Frame} {meth : Method} {c : Code} {T : State} {locs : List Loc} {cells slots : Nat} {Z : State} {a0 : Array Value} {h h0 : Heap}
    (X : Stand p l e R s m args below meth c T locs cells slots) (hx : p.tables.exec = Jvm.exec) (hl : l.stackTraces = true) (hZ : Z.Warmed39 s.vm) (hown : s.vm.findClass tN = some m.cls) {rc : String} {nn : Nat} (W : ∀ d ∈ own_fillAtoms rc, d.before a0 Z = true) (wi : (Cond.instantiable rc nn).before a0 Z = true) (hT0 : ThS Z h0) (hTK : s.vm.MethodsKnown) (hBl : s.vm.FramesKnown below)
    (hs0 : s.heap = h0) (eT : T.heap = h) {a : Addr} (hb : ∀ x ∈ locs, x.base = a) (E0 : Exa Z h0 a rc) (N0 : Unt h0 a) (N : Unt h a) {u0 : RefV} {v3 v4 : Value} (F1 : Fld Z h a tN "stackTrace" steD u0.v) (F2 : Fld Z h a tN "backtrace" obD .null) (F3 : Fld Z h a tN "cause" thD v3) (F4 : Fld Z h a tN "detailMessage" msgD v4) (S : Sta Z h tN "UNASSIGNED_STACK" steD u0.v) (E : Exa Z h a rc)
    {g : JFrame} (hg : g.method = m) (hsize : g.locals.size = c.maxLocals) {rest : List Value} (hs : g.stack = .ref a :: rest) (hd : decode c.code g.pc = .ok (.invokevirtual 27, 3)) (hf : 3 ≤ R.frames) {w : Nat} (hw : 2 * g.monitorRoom + (rest.map fun v => v.category).sum ≤ w) (hlo : w + 42 ≤ R.locals) (hc : cells + 1 ≤ R.cells) (hsl : slots + 2752 ≤ R.slots) :
    ∃ (T' : State) (L : List Loc), Stand p l e R s m args below meth c T' (locs ++ L) (cells + 1) (slots + 2752) ∧ (∀ x ∈ locs ++ L, x.base = a) ∧ Keep h0 T'.heap [a] ∧ Unt T'.heap a ∧ Exa Z T'.heap a rc ∧ Fld Z T'.heap a tN "cause" thD v3 ∧ Fld Z T'.heap a tN "detailMessage" msgD v4 ∧
      ∀ target, Steps p.tables e below (T'.setTop { g with pc := g.pc + 3, stack := .ref a :: rest }) target → Steps p.tables e below (T.setTop g) target := by
  subst eT hs0
  obtain ⟨cell, hcell, hvm, hmon⟩ := N
  obtain ⟨cell', k, e1, e2, e3, e4, e5⟩ := E
  cases e1.symm.trans hcell
  obtain ⟨c2, k2, i1, i2, i3, -⟩ := Cond.instantiable_spec wi
  cases e2.symm.trans i1
  cases e3.symm.trans i2
  obtain ⟨kX, hk, ek⟩ := hZ.alike.2.2 _ _ e3
  have W' : ∀ d ∈ own_fillAtoms rc, d.before args s = true := fun d q => mvX hT0 hZ (List.all_eq_true.mp (show (own_fillAtoms rc).all xOk = true from rfl) d q) (W d q)
  obtain ⟨T', C, fb, fd, fs, c1, c2, c3, i1, i2, i3', k1, k2, k3, f1, f2, f3, X', hC, q1, q2, q3, q4, st⟩ := own_fill X hx hl hown W' hTK hBl hcell (by rw [hZ.alike.findClass]; exact e2) hk (by rw [ek]; exact i3) (by rw [ek]; exact e5 i3) hvm hmon (own_slot hZ.alike hcell F1) (own_slot hZ.alike hcell F2) (own_sta hZ S) hg hsize hs hd hf hw hlo hc hsl
  have hb' : ∀ x ∈ locs ++ [(⟨a, fb.slot⟩ : Loc), ⟨a, fd.slot⟩, ⟨a, fs.slot⟩], x.base = a := fun x q => by
    rcases List.mem_append.mp q with q | q
    · exact hb x q
    · simp only [List.mem_cons, List.not_mem_nil, or_false] at q
      rcases q with rfl | rfl | rfl <;> rfl
  have K := own_keepS X'.same hb'
  have wB := W' (.lays rc tN "backtrace" obD) (by simp [own_fillAtoms])
  have wD := W' (.lays rc tN "depth" "I") (by simp [own_fillAtoms])
  have wS := W' (.lays rc tN "stackTrace" steD) (by simp [own_fillAtoms, own_thrAtoms])
  have wC := W' (.lays rc tN "cause" thD) (by simp [own_fillAtoms, own_thrAtoms])
  have wM := W' (.lays rc tN "detailMessage" msgD) (by simp [own_fillAtoms, own_thrAtoms])
  have stay : ∀ {n d : String} {t : FieldType} {v : Value}, (Cond.lays rc tN n d).before args s = true → parseFieldDescriptor d = some t → n ≠ "backtrace" → n ≠ "depth" → n ≠ "stackTrace" → Fld Z T.heap a tN n d v → Fld Z T'.heap a tN n d v := fun {n d t v} wl pt n1 n2 n3 F => by
    obtain ⟨c', cf, kf, i, f, g1, g2, g3, g4, g5, g6, g7⟩ := F
    cases g1.symm.trans hcell
    obtain ⟨k', hi, -⟩ := State.fieldFound?_setVm hZ.alike g2
    refine ⟨C, cf, kf, i, f, hC, g2, g3, by rw [q2]; exact g4, by rw [q2]; exact g5, by rw [q1]; exact g6, ?_⟩
    rw [q4 f.slot (own_slotne wl wB hi f1 pt (t2 := .object "java/lang/Object") (by decide +kernel) n1) (own_slotne wl wD hi f2 pt (t2 := .int) (by decide +kernel) n2) (own_slotne wl wS hi f3 pt (t2 := .array (.object "java/lang/StackTraceElement")) (by decide +kernel) n3)]
    exact g7
  exact ⟨T', _, X', hb', K, own_untS X'.same N0, E0.keep K, stay wC (t := .object "java/lang/Throwable") (by decide +kernel) (by decide) (by decide) (by decide) F3, stay wM (t := .object "java/lang/String") (by decide +kernel) (by decide) (by decide) (by decide) F4, st⟩
/-- getCause() of an object whose cause is itself yet: null -/
theorem own_gc {p : Program} {l : Launch} {e : Env} {R : Room} {s : State} {m : MethodId} {args : Array Value} {below : List Frame} {meth : Method} {c : Code} {T : State} {locs : List Loc} {cells slots : Nat} {Z : State} {a0 : Array Value} {h : Heap}
    (X : Stand p l e R s m args below meth c T locs cells slots) (hx : p.tables.exec = Jvm.exec) (hZ : Z.Warmed39 s.vm) {own C : String} {index : Nat} {y : String} (hown : s.vm.findClass own = some m.cls)
    (w1 : (Cond.methodLink own index ⟨y, "getCause", "()Ljava/lang/Throwable;"⟩).before a0 Z = true) (w2 : (Cond.sameMethod y tN "getCause" "()Ljava/lang/Throwable;").before a0 Z = true) (w3 : (Cond.declares Jvm.RoadKit.gcN).before a0 Z = true) (w5 : (Cond.selects C ⟨y, "getCause", "()Ljava/lang/Throwable;"⟩ Jvm.RoadKit.gcN).before a0 Z = true) (wi : (Cond.instanceMethod Jvm.RoadKit.gcN).before a0 Z = true)
    (wc : (Cond.codeSync Jvm.RoadKit.gcN Jvm.RoadKit.gcB 1 (some (.object tN))).before a0 Z = true) (wz : (Cond.initialized tN).before a0 Z = true) (wf : (Cond.fieldLink tN 7 tN "cause" thD).before a0 Z = true) (hmh : y ≠ "java/lang/invoke/MethodHandle" ∧ y ≠ "java/lang/invoke/VarHandle") (eT : T.heap = h) {a : Addr} (E : Exa Z h a C) (N : Unt h a) (F : Fld Z h a tN "cause" thD (.ref a))
    {g : JFrame} (hg : g.method = m) (hsize : g.locals.size = c.maxLocals) {rest : List Value} (hs : g.stack = .ref a :: rest) {W : Nat} (hW : 2 * g.monitorRoom + (rest.map fun v => v.category).sum ≤ W) (hd : decode c.code g.pc = .ok (.invokevirtual index, 3)) (hf : 1 ≤ R.frames) (hl : W + 12 ≤ R.locals) (hc : cells ≤ R.cells) (hsl : slots ≤ R.slots) :
    ∃ T', Stand p l e R s m args below meth c T' locs cells slots ∧ T'.heap = h ∧ ∀ target, Steps p.tables e below (T'.setTop { g with pc := g.pc + 3, stack := .null :: rest }) target → Steps p.tables e below (T.setTop g) target := by
  obtain ⟨cq, kq, qa, qb, qc⟩ := isOf hZ eT E
  obtain ⟨v, vm₁, ⟨T', L', k', n'⟩, -, X', ⟨hv, hh, e1, e2, e3⟩, st⟩ := X.virtualBackUp hx (owner := tN) (x := ⟨y, "getCause", "()Ljava/lang/Throwable;"⟩) (y := Jvm.RoadKit.gcN) hown (mvT hZ w1) (mvT hZ w2) (mvT hZ w3) (by decide) (mvT hZ w5) (mvT hZ wi)
    (gcBackPure (rm := { frames := 0, cells := 0, slots := 0, locals := 0 }) (W := W) (h := h) hZ wc wi wz wf N F rfl (by simpa using hf) (by simpa using hl)) qa qc hg hsize (Steps.refl _) (argsL := []) (rest := rest) (fun sig h => by rw [show parseMethodDescriptor "()Ljava/lang/Throwable;" = some ⟨[], some (.object tN)⟩ from by decide +kernel] at h; rw [← Option.some.inj h]; rfl) hs hW hd (fun _ _ => ⟨rfl, eT, by simpa using hc, by simpa using hsl⟩)
  dsimp only [Pt.U, Pt.locs, Pt.cells, Pt.slots] at X' e1 e2 e3 st hh
  subst e1 e2 e3 hv
  refine ⟨T', X', hh, fun t k => st.trans ?_⟩
  have q : gcV a (.ref a) = .null := if_pos rfl
  rw [q]
  exact k
/-- an inherited instance method by the contract of the body that is selected -/
theorem upcall {p : Program} {l : Launch} {e : Env} {R : Room} {s : State} {m : MethodId} {args : Array Value} {below : List Frame} {meth : Method} {c : Code} {T : State} {locs : List Loc} {cells slots : Nat} {Z : State} {a0 : Array Value} {h : Heap}
    (X : Stand p l e R s m args below meth c T locs cells slots) (hx : p.tables.exec = Jvm.exec) (hZ : Z.Warmed39 s.vm) {own C O : String} {index : Nat} {y z : MethodName} {bytes : ByteArray} {maxL : Nat} {ret : Option FieldType} (hown : s.vm.findClass own = some m.cls)
    (w1 : (Jvm.Cond.methodLink own index y).before a0 Z = true) (ws : (Jvm.Cond.sameMethod y.cls O y.name y.desc).before a0 Z = true) (w2 : (Jvm.Cond.declares ⟨O, y.name, y.desc⟩).before a0 Z = true) (w5 : (Jvm.Cond.selects C y z).before a0 Z = true) (w6 : (Jvm.Cond.instanceMethod z).before a0 Z = true) (w3 : (Jvm.Cond.initialized z.cls).before a0 Z = true) (w4 : (Jvm.Cond.code z bytes maxL ret).before a0 Z = true) (hy : y.cls ≠ "java/lang/invoke/MethodHandle" ∧ y.cls ≠ "java/lang/invoke/VarHandle") (hO : O ≠ "java/lang/invoke/MethodHandle" ∧ O ≠ "java/lang/invoke/VarHandle")
    {W : Nat} {rm : Room} {as' : Array Value} {Q : Option Value → Heap → List Loc → Prop} (hM : Con l Z z bytes maxL ret [] rm as' h Q) (eT : T.heap = h) (hf : rm.frames + 1 ≤ R.frames) (hl : W + (maxL + 11) + rm.locals ≤ R.locals) (hc : cells + rm.cells ≤ R.cells) (hs : slots + rm.slots ≤ R.slots)
    {g : JFrame} (hg : g.method = m) (hsize : g.locals.size = c.maxLocals) {a : Addr} (E : Exa Z h a C) {argsL rest : List Value} {ps : List FieldType} {r : Option FieldType} (hpd : parseMethodDescriptor y.desc = some ⟨ps, r⟩) (hlen : argsL.length = ps.length) (hstack : g.stack = argsL.reverse ++ .ref a :: rest) (has : (Value.ref a :: argsL).toArray = as') (hW : 2 * g.monitorRoom + (rest.map fun v => v.category).sum ≤ W)
    (hdg : decode c.code g.pc = .ok (.invokevirtual index, 3)) :
    ∃ (v : Option Value) (T' : State) (L : List Loc), Stand p l e R s m args below meth c T' (locs ++ L) (cells + rm.cells) (slots + rm.slots) ∧ Q v T'.heap L ∧
      ∀ target, Steps p.tables e below (T'.setTop { g with pc := g.pc + 3, stack := v.toList ++ rest }) target → Steps p.tables e below (T.setTop g) target := by
  obtain ⟨cq, kq, qa, qb, qc⟩ := isOf hZ eT E
  obtain ⟨v, vm₁, ⟨T', L', k', n'⟩, -, X', ⟨L, hQ, e1, e2, e3⟩, st⟩ := X.virtualBackUp hx hown (mvT hZ w1) (mvT hZ ws) (mvT hZ w2) hO (mvT hZ w5) (mvT hZ w6) (backOf (W := W) hM hZ w4 w3 hf hl) qa qc hg hsize (Steps.refl _) (lenOf hpd hlen) hstack hW hdg (fun _ _ => ⟨has, eT, hc, hs⟩)
  dsimp only [Pt.U, Pt.locs, Pt.cells, Pt.slots] at X' e1 e2 e3 st hQ
  subst e1 e2 e3
  exact ⟨v, T', L, X', hQ, fun t k => st.trans k⟩
end Jvm.OwnKit
namespace Jvm.Pilot.@@N@@
open Jvm Jvm.ClassFile Sem Op Lib Jvm.Free Jvm.Stand Jvm.LawKit Jvm.RoadKit Jvm.OwnKit Bundle Jvm.Pilot.@@N@@.Jvm.D

theorem own_toInt {n : Nat} (h : n < 2147483648) : (Int32.ofNat n).toInt = (n : Int) := Int32.toInt_ofNat_of_lt h
theorem own_nn {n : Nat} (h : n < 2147483648) : ¬ (Int32.ofNat n) < 0 := by
  rw [Int32.lt_iff_toInt_lt, own_toInt h]; show ¬ (n : Int) < 0; omega
theorem own_cl {n : Nat} (h : n < 2147483648) : (Int32.ofNat n).toNatClampNeg = n := by
  show (Int32.ofNat n).toInt.toNat = n
  rw [own_toInt h]; omega
theorem own_lt {a b : Nat} (ha : a < 2147483648) (hb : b < 2147483648) : Int32.ofNat a < Int32.ofNat b ↔ a < b := by
  rw [Int32.lt_iff_toInt_lt, own_toInt ha, own_toInt hb]; omega
theorem own_shr0 (x : Int32) : x >>> ((0 : Int32) &&& 31) = x := by
  apply Int32.toInt_inj.mp
  have h := c_ishr x 0 0 (by decide)
  rw [h]; simp
theorem own_shl0 (x : Int32) : x <<< ((0 : Int32) &&& 31) = x := by
  have h := c_ishl x 0 0 (by decide)
  have h1 := rng32 x
  have h2 := rng32 (x <<< ((0 : Int32) &&& 31))
  exact Int32.toInt_inj.mp (by omega)
theorem own_range (us : List Value) (d : Value) : ((List.range us.length).map fun i => us.getD (0 + i) d) = us := by
  apply List.ext_getElem
  · simp
  · intro i h1 h2
    simp at h1 h2 ⊢
    simp [h2]
/-- a String at a, its bytes us in the array d -/
def STI (Z : State) (h : Heap) (a d : Addr) (k : ClassId) (us : List Value) : Prop := Exa Z h a "java/lang/String" ∧ Fld Z h a "java/lang/String" "coder" "B" (.int (0 : Int32)) ∧ Fld Z h a "java/lang/String" "value" "[B" (.ref d) ∧ Arv Z h d k .byte (Int32.ofNat us.length) us (.int (0 : Int32))
/-- a StringBuilder at b that holds the bytes bs in the array d of length z -/
def SBI (Z : State) (h : Heap) (b d : Addr) (k : ClassId) (z : Int32) (bs : List Value) : Prop := Exa Z h b "java/lang/StringBuilder" ∧ Fld Z h b "java/lang/AbstractStringBuilder" "value" "[B" (.ref d) ∧ Fld Z h b "java/lang/AbstractStringBuilder" "coder" "B" (.int (0 : Int32)) ∧ Fld Z h b "java/lang/AbstractStringBuilder" "count" "I" (.int (Int32.ofNat bs.length)) ∧ Arv Z h d k .byte z bs (.int (0 : Int32)) ∧ Exa Z h d "[B"
/-- what the named sets say of the JDK's statics -/
def own_SS (Z : State) (zc : Int32) (wf : Value) : Prop := zc ≠ 0 ∧ Sta Z Z.heap "java/lang/String" "COMPACT_STRINGS" "Z" (.int zc) ∧ wf.isRef = true ∧ Sta Z Z.heap "jdk/internal/util/Preconditions" "SIOOBE_FORMATTER" "Ljava/util/function/BiFunction;" wf
theorem own_cp {p : Program} {l : Launch} {e : Env} {R : Room} {s : State} {m : MethodId} {args : Array Value} {below : List Frame} {meth : Method} {c : Code} {T : State} {locs : List Loc} {cells slots : Nat} {Z : State} {a0 : Array Value} {h : Heap} {a b : Addr} {k k' : ClassId}
    (X : Stand p l e R s m args below meth c T locs cells slots) (hx : p.tables.exec = Jvm.exec) (hZ : Z.Warmed39 s.vm) {own : String} {index : Nat} (hown : s.vm.findClass own = some m.cls)
    (w1 : (Jvm.Cond.methodLink own index Jvm.Stand.acN).before a0 Z = true) (w2 : (Jvm.Cond.native Jvm.Stand.acN).before a0 Z = true) (w3 : (Jvm.Cond.static Jvm.Stand.acN).before a0 Z = true) (w4 : (Jvm.Cond.initialized "java/lang/System").before a0 Z = true) (eT : T.heap = h)
    {zs z : Int32} {us bs : List Value} (A : Arv Z h a k .byte zs us (.int (0 : Int32))) (B : Arv Z h b k' .byte z bs (.int (0 : Int32))) (hs1 : us.length ≤ zs.toNatClampNeg) (hs2 : bs.length + us.length ≤ z.toNatClampNeg) (hb : us.length < 2147483648) (hb2 : bs.length < 2147483648)
    {n0 : Nat} (N : Fr n0 locs) (ge : n0 ≤ b) {g : JFrame} (hg : g.method = m) (hsize : g.locals.size = c.maxLocals) {rest : List Value} (hs : g.stack = .int (Int32.ofNat us.length) :: .int (Int32.ofNat bs.length) :: .ref b :: .int (0 : Int32) :: .ref a :: rest) (hd : decode c.code g.pc = .ok (.invokestatic index, 3))
    (hf : 1 ≤ R.frames) {W : Nat} (hW : 2 * g.monitorRoom + (rest.map fun v => v.category).sum ≤ W) (hlo : W + (nativeFrameWords "java/lang/System" "arraycopy" 5 + 11) ≤ R.locals) :
    ∃ T' h' L, Stand p l e R s m args below meth c T' L cells slots ∧ T'.heap = h' ∧ Fr n0 L ∧ Keep h h' [b] ∧ Arv Z h' b k' .byte z (bs ++ us) (.int (0 : Int32)) ∧
      ∀ target, Steps p.tables e below (T'.setTop { g with pc := g.pc + 3, stack := rest }) target → Steps p.tables e below (T.setTop g) target := by
  have c1 := own_cl hb
  have c2 := own_cl hb2
  have c0 : (0 : Int32).toNatClampNeg = 0 := by decide
  have B' : Arv Z h b k' .byte z (bs ++ List.replicate us.length (.int (0 : Int32))) (.int (0 : Int32)) := B.pad (pad_rep _ _ _)
  obtain ⟨T', h', L, X', e', N', K', V', st⟩ := cpA X hx hZ hown w1 w2 w3 w4 eT (sp := 0) (dp := Int32.ofNat bs.length) (nn := Int32.ofNat us.length) (us := us) A B' (Or.inl ⟨rfl, rfl⟩) (by decide) (own_nn hb2) (own_nn hb) (by rw [c1, c0]; omega) (by rw [c1, c2]; exact hs2) (by rw [c1, c0]; exact (own_range us _).symm) (by rw [c1, c2]; simp) N ge hg hsize hs hd hf hW hlo
  refine ⟨T', h', L, X', e', N', K', ?_, st⟩
  rw [c1, c2] at V'
  have e1 : (bs ++ List.replicate us.length (Value.int (0 : Int32))).take bs.length ++ us ++ (bs ++ List.replicate us.length (Value.int (0 : Int32))).drop (bs.length + us.length) = bs ++ us := by
    simp [List.drop_append, List.take_append]
  rw [e1] at V'
  exact V'
theorem own_nar255 (x : Int32) : narrow .char (.int (x &&& 255)) = .int (x &&& 255) := by
  have h := Jvm.Free.XT.narrow_c (x &&& 255)
  rw [i2c_mask] at h
  exact h
theorem own_sub0 (x : Int32) : x - (0 : Int32) = x := by
  have h := c_isub x 0
  have h0 : (0 : Int32).toInt = 0 := rfl
  have h1 := rng32 x
  have h2 := rng32 (x - 0)
  exact Int32.toInt_inj.mp (by omega)
theorem own_addln {bs us : List Value} : Int32.ofNat bs.length + Int32.ofNat us.length = Int32.ofNat (bs ++ us).length := by
  rw [List.length_append, Int32.ofNat_add]
theorem own_clz {z : Int32} (h : ¬ z < 0) : z.toInt = (z.toNatClampNeg : Int) := nat_of h
theorem own_noroom {bs us : List Value} {z : Int32} (h : bs.length + us.length ≤ z.toNatClampNeg) (h0 : ¬ z < 0) : ¬ (0 : Int32) < (Int32.ofNat bs.length + Int32.ofNat us.length) - z := by
  have q := own_clz h0
  have r := rng32 z
  have hl : bs.length + us.length < 2147483648 := by omega
  rw [← Int32.ofNat_add, Int32.lt_iff_toInt_lt]
  have e := own_toInt hl
  have c := c_isub (Int32.ofNat (bs.length + us.length)) z
  have r2 := rng32 (Int32.ofNat (bs.length + us.length) - z)
  show ¬ (0 : Int) < _
  omega
def own_b8 (cs : List Int32) : List Value := cs.map fun x => Value.int x.toInt8.toInt32
def own_ok8 (cs : List Int32) : Prop := ∀ x ∈ cs, ¬ x < 0 ∧ ¬ (255 : Int32) < x
theorem own_b8_len (cs : List Int32) : (own_b8 cs).length = cs.length := by simp [own_b8]
theorem own_inc (i : Nat) : Int32.ofNat i + (1 : Int32) = Int32.ofNat (i + 1) := by rw [Int32.ofNat_add]; rfl
theorem own_i8i8 (x : Int32) : nar .byte x.toInt8.toInt32 = x.toInt8.toInt32 := by
  show x.toInt8.toInt32.toInt8.toInt32 = x.toInt8.toInt32
  rw [Int8.toInt8_toInt32]
theorem own_at {cs : List Int32} {i : Nat} {x d : Int32} (hi : cs[i]? = some x) (hb : i < 2147483648) : (cs.map Value.int).getD (Int32.ofNat i).toNatClampNeg (.int d) = .int x := by
  rw [own_cl hb]; simp [List.getD, hi]
theorem own_set {cs : List Int32} {i : Nat} {x : Int32} (hi : cs[i]? = some x) : (own_b8 (cs.take i) ++ List.replicate 1 (Value.int (0 : Int32))).set i (.int (nar .byte x.toInt8.toInt32)) = own_b8 (cs.take (i + 1)) := by
  obtain ⟨h, rfl⟩ := List.getElem?_eq_some_iff.mp hi
  have hl : (own_b8 (cs.take i)).length = i := by rw [own_b8_len]; simp; omega
  rw [own_i8i8, List.set_append_right _ _ (by omega), hl]
  simp only [Nat.sub_self, List.replicate, List.set_cons_zero]
  rw [List.take_succ_eq_append_getElem h]
  simp only [own_b8, List.map_append, List.map_cons, List.map_nil]
theorem own_cfal (n : Int32) : ((((n - n).toUInt32 >>> ((31 : Int32) &&& 31).toUInt32).toInt32).toInt8.toInt32) = (0 : Int32) := by
  have h : n - n = 0 := by
    have h1 := c_isub n n
    have h2 := rng32 (n - n)
    exact Int32.toInt_inj.mp (by show (n - n).toInt = 0; omega)
  rw [h]; decide
theorem own_one {ca b : Addr} {x1 x3 x4 x5 v : Int32} {s6 : Slot} (h : One s6) : storeLocals #[.val (.ref ca), .val (.int x1), .val (.ref b), .val (.int x3), .val (.int x4), .val (.int x5), s6] 6 (.int v) = some #[.val (.ref ca), .val (.int x1), .val (.ref b), .val (.int x3), .val (.int x4), .val (.int x5), .val (.int v)] := by
  rcases h with rfl | ⟨w, rfl, hw⟩
  · rfl
  · cases w <;> first | rfl | (simp [Value.category] at hw)
def own_cap (z n : Nat) : Nat := if n ≤ z then z else max n (2 * z + 2)
theorem own_cap_ge (z n : Nat) : n ≤ own_cap z n := by unfold own_cap; split <;> omega
theorem own_nen {x d d' : Addr} {n : Nat} (hx : x < n) (hne : x ≠ d) (hd : d' = d ∨ n ≤ d') : x ≠ d' := by
  rcases hd with rfl | h
  · exact hne
  · exact Nat.ne_of_lt (Nat.lt_of_lt_of_le hx h)
theorem own_subn {a b : Nat} (h : b ≤ a) (hb : a < 2147483648) : Int32.ofNat a - Int32.ofNat b = Int32.ofNat (a - b) := by
  have c := c_isub (Int32.ofNat a) (Int32.ofNat b)
  have e1 := own_toInt hb
  have e2 := own_toInt (show b < 2147483648 by omega)
  have e3 := own_toInt (show a - b < 2147483648 by omega)
  have r := rng32 (Int32.ofNat a - Int32.ofNat b)
  exact Int32.toInt_inj.mp (by omega)
theorem own_addn (a b : Nat) : Int32.ofNat a + Int32.ofNat b = Int32.ofNat (a + b) := by rw [Int32.ofNat_add]
theorem own_addk (a : Nat) : Int32.ofNat a + (2 : Int32) = Int32.ofNat (a + 2) := by rw [Int32.ofNat_add]; rfl
theorem own_shl0b : (2 : Int32) <<< ((0 : Int32) &&& 31) = 2 := by decide
theorem own_safeAlt {Z : State} {EL : List (String × Nat)} {vm : Vm} {h : Heap} {d d' : Addr} (S : Safe Z EL vm h d) (hd : d' = d ∨ h.size ≤ d') : Safe Z EL vm h d' := hd.elim (fun e => e ▸ S) Safe.new
theorem own_gelt {n a : Nat} (hn : n < 2147483648) (ha : a < 2147483648) (h : n ≤ a) : ¬ Int32.ofNat a < Int32.ofNat n := fun q => by
  have := (own_lt ha hn).mp q; omega
theorem own_nd {z n : Nat} (hz : z < 2147483648) (hn : n < 2147483648) : ((0 : Int32) < Int32.ofNat n - Int32.ofNat z) ↔ z < n := by
  have c := c_isub (Int32.ofNat n) (Int32.ofNat z)
  have e1 := own_toInt hz
  have e2 := own_toInt hn
  have r := rng32 (Int32.ofNat n - Int32.ofNat z)
  have e0 : (0 : Int32).toInt = 0 := rfl
  rw [Int32.lt_iff_toInt_lt]
  omega
theorem own_elem {Z : State} {h : Heap} {d : Addr} {k : ClassId} {us : List Value} (V : Arv Z h d k .byte (Int32.ofNat us.length) us (.int (0 : Int32))) (hu : us.length < 2147483648) {i : Nat} (hi : i < us.length) : ∃ x : Int32, us[i]? = some (.int x) := by
  obtain ⟨c, -, -, hs, -, -, hf⟩ := V
  rw [own_cl hu] at hs
  have q := hf i (by omega)
  rw [List.getD_eq_getElem?_getD, List.getElem?_eq_getElem hi] at q
  rw [List.getElem?_eq_getElem hi]
  revert q
  cases us[i] <;> intro q <;> first | exact ⟨_, rfl⟩ | (simp [fits] at q)
theorem own_eat {us : List Value} {i : Nat} {x : Int32} {d : Value} (hi : us[i]? = some (.int x)) (hb : i < 2147483648) : us.getD (Int32.ofNat i).toNatClampNeg d = .int x := by
  rw [own_cl hb]; simp [List.getD, hi]
theorem own_tk {us vs : List Value} {i : Nat} {x : Value} (h : us.take i = vs.take i) (hu : us[i]? = some x) (hv : vs[i]? = some x) : us.take (i + 1) = vs.take (i + 1) := by
  rw [List.take_add_one, List.take_add_one, h, hu, hv]

theorem own_mk {s : State} (h : tablesKnown s = true) : s.vm.MethodsKnown := fun m x hx => by
  unfold Vm.method? at hx
  cases hk : s.vm.classes[m.cls]? with
  | none => rw [hk] at hx; cases hx
  | some k =>
    rw [hk] at hx
    refine ⟨k, hk, fun cf hcf => ?_⟩
    obtain ⟨hi, he⟩ := Array.getElem?_eq_some_iff.mp hk
    have q := Array.all_eq_true.mp h _ hi
    rw [he, hcf] at q
    have q' : k.methods.size = cf.methods.size := by simpa using q
    obtain ⟨hj, -⟩ := Array.getElem?_eq_some_iff.mp (show k.methods[m.idx]? = some x from hx)
    rw [q'] at hj
    rw [Array.getElem?_eq_getElem hj]; rfl
theorem own_fk {s : State} {f : Frame} {below : List Frame} (hf : s.frames = f :: below) (h : framesKnown s = true) : s.vm.FramesKnown below := fun y hy m' hm' => by
  unfold framesKnown at h
  rw [hf] at h
  have q := List.all_eq_true.mp h y (List.mem_cons_of_mem _ hy)
  have g : ∀ m, methodKnown s.vm m = true → s.vm.knowsMethod m := fun m q => by
    unfold methodKnown at q
    cases hk : s.vm.classes[m.cls]? with
    | none => rw [hk] at q; cases q
    | some k =>
      rw [hk] at q
      refine ⟨k, hk, fun cf hcf => ?_⟩
      simp only [hcf] at q
      exact q
  cases y with
  | java j => cases hm'; exact g _ q
  | native j => cases hm'; exact g _ q
  | _ => cases hm'

theorem own_ca0 {P : Jvm.Cond → Prop} : ∀ d ∈ ([] : List Jvm.Cond), P d := fun _ q => nomatch q
theorem own_caS {P : Jvm.Cond → Prop} {x : Jvm.Cond} {r : List Jvm.Cond} (a : P x) (b : ∀ d ∈ r, P d) : ∀ d ∈ x :: r, P d := fun d q => by
  rcases List.mem_cons.mp q with rfl | q
  · exact a
  · exact b d q
theorem own_caA {P : Jvm.Cond → Prop} {l r : List Jvm.Cond} (a : ∀ d ∈ l, P d) (b : ∀ d ∈ r, P d) : ∀ d ∈ l ++ r, P d := fun d q => (List.mem_append.mp q).elim (a d) (b d)
def own_pc (pc0 i : Nat) : Nat := if i ≤ 6 then pc0 + 5 * i else pc0 + 6 * i - 6
def own_il (i : Nat) : Nat := if i ≤ 5 then 1 else 2
def own_ix (i : Nat) : Instr := if i ≤ 5 then .iconst i else .bipush i
def own_dk (code : ByteArray) (pc0 : Nat) (vis : List Instr) (i : Nat) : Bool :=
  decide (decode code (own_pc pc0 i) = .ok (.dup, 1)) && (decide (decode code (own_pc pc0 i + 1) = .ok (own_ix i, own_il i)) && (decide (decode code (own_pc pc0 i + 1 + own_il i) = .ok (vis.getD i .nop, 2)) && decide (decode code (own_pc pc0 i + 1 + own_il i + 2) = .ok (.castore, 1))))
def own_push (Ls : Array Slot) (v : Instr) (x : Int32) : Prop := (∃ z : Int, v = .bipush z ∧ x = (Int8.ofInt z).toInt32) ∨ ∃ k : Nat, v = .iload k ∧ Ls[k]? = some (.val (.int x))
def own_pv (Ls : Array Slot) : List Instr → List Int32 → Prop
  | _, [] => True
  | [], _ :: _ => False
  | v :: vs, x :: xs => own_push Ls v x ∧ own_pv Ls vs xs
theorem own_pvat {Ls : Array Slot} : ∀ {vis : List Instr} {cs : List Int32}, own_pv Ls vis cs → ∀ i x, cs[i]? = some x → own_push Ls (vis.getD i .nop) x
  | _, [], _, i, x, q => by simp at q
  | [], _ :: _, h, _, _, _ => h.elim
  | v :: vs, y :: ys, h, 0, x, q => by simp at q; subst q; exact h.1
  | v :: vs, y :: ys, h, i + 1, x, q => by
    have := own_pvat h.2 i x (by simpa using q)
    simpa using this
theorem own_ici : ∀ i : Nat, i < 128 → Int32.ofInt (i : Int) = Int32.ofNat i := by decide +kernel
theorem own_icb : ∀ i : Nat, i < 128 → (Int8.ofInt (i : Int)).toInt32 = Int32.ofNat i := by decide +kernel
theorem own_setc {cs : List Int32} {i : Nat} {x : Int32} (hi : cs[i]? = some x) (hn : nar .char x = x) : ((cs.take i).map Value.int ++ List.replicate 1 (Value.int (0 : Int32))).set i (.int (nar .char x)) = (cs.take (i + 1)).map Value.int := by
  obtain ⟨h, rfl⟩ := List.getElem?_eq_some_iff.mp hi
  have hl : ((cs.take i).map Value.int).length = i := by simp; omega
  rw [hn, List.set_append_right _ _ (by omega), hl]
  simp only [Nat.sub_self, List.replicate, List.set_cons_zero]
  rw [List.take_succ_eq_append_getElem h]
  simp only [List.map_append, List.map_cons, List.map_nil]
theorem own_frm {a b : Nat} {L : List Loc} (N : Fr b L) (h : a ≤ b) : Fr a L := fun y hy => Nat.le_trans h (N y hy)
theorem own_ok0 : own_ok8 [] := fun _ q => nomatch q
theorem own_okS {x : Int32} {r : List Int32} (h : ¬ x < 0 ∧ ¬ (255 : Int32) < x) (q : own_ok8 r) : own_ok8 (x :: r) := fun z hz => by
  rcases List.mem_cons.mp hz with rfl | hz
  · exact h
  · exact q z hz
theorem own_narc {x : Int32} (h : ¬ x < 0 ∧ ¬ (255 : Int32) < x) : nar .char x = x := by
  obtain ⟨h0, h1⟩ := h
  rw [Int32.lt_iff_toInt_lt] at h0 h1
  have e0 : (0 : Int32).toInt = 0 := rfl
  have e1 : (255 : Int32).toInt = 255 := rfl
  have q := c_i2c x
  have r := rng32 (nar .char x)
  apply Int32.toInt_inj.mp
  show x.toUInt32.toUInt16.toUInt32.toInt32.toInt = x.toInt
  omega
theorem own_cfill {p : Program} {l : Launch} {e : Env} {R : Room} {s : State} {m : MethodId} {args : Array Value} {below : List Frame} {meth : Method} {c : Code} {cells slots : Nat} {Z : State} (hx : p.tables.exec = Jvm.exec) (hZ : Z.Warmed39 s.vm) {cs : List Int32} {vis : List Instr} {b : Addr} {k : ClassId} {Ls : Array Slot} {rest : List Value} {pc0 : Nat} (hn : cs.length ≤ 127) (hok : own_ok8 cs) (hD : ∀ i, i < cs.length → own_dk c.code pc0 vis i = true) (hP : ∀ i x, cs[i]? = some x → own_push Ls (vis.getD i .nop) x) :
    ∀ (r i : Nat) (T : State) (h : Heap) (locs : List Loc), i + r = cs.length → Stand p l e R s m args below meth c T locs cells slots → T.heap = h → Arv Z h b k .char (Int32.ofNat cs.length) ((cs.take i).map Value.int) (.int (0 : Int32)) →
      ∃ (T' : State) (L : List Loc), Stand p l e R s m args below meth c T' (locs ++ L) cells slots ∧ Fr b L ∧ Keep h T'.heap [b] ∧ Arv Z T'.heap b k .char (Int32.ofNat cs.length) (cs.map Value.int) (.int (0 : Int32)) ∧
        ∀ target, Steps p.tables e below (T'.setTop (mkF m (own_pc pc0 cs.length) Ls (.ref b :: rest))) target → Steps p.tables e below (T.setTop (mkF m (own_pc pc0 i) Ls (.ref b :: rest))) target := by
  intro r
  induction r with
  | zero =>
    intro i T h locs hi X eT V
    have hi' : i = cs.length := by omega
    subst hi'
    rw [List.take_length] at V
    exact ⟨T, [], by rw [List.append_nil]; exact X, Fr.nil _, by rw [eT]; exact Keep.refl _ _, by rw [eT]; exact V, fun t q => q⟩
  | succ r ih =>
    intro i T h locs hi X eT V
    have hil : i < cs.length := by omega
    obtain ⟨x, hxi⟩ : ∃ x, cs[i]? = some x := ⟨_, List.getElem?_eq_getElem hil⟩
    have hd := hD i hil
    simp only [own_dk, Bool.and_eq_true, decide_eq_true_eq] at hd
    obtain ⟨d1, d2, d3, d4⟩ := hd
    have V' : Arv Z h b k .char (Int32.ofNat cs.length) ((cs.take i).map Value.int ++ List.replicate 1 (.int (0 : Int32))) (.int (0 : Int32)) := V.pad (pad_rep _ _ 1)
    obtain ⟨T1, h1, X1, e1, W1, V1, st1⟩ := castoreV X hx hZ eT V' (j := Int32.ofNat i) (x := x) ⟨own_nn (by omega), (own_lt (by omega) (by omega)).mpr hil⟩ (by rw [own_cl (by omega)]; simp; omega) (g := mkF m (own_pc pc0 i + 1 + own_il i + 2) Ls (.int x :: .int (Int32.ofNat i) :: .ref b :: .ref b :: rest)) rfl rfl d4
    rw [own_cl (show i < 2147483648 by omega), own_setc hxi (own_narc (hok x (List.mem_of_getElem? hxi)))] at V1
    obtain ⟨T2, L2, X2, N2, K2, V2, st2⟩ := ih (i + 1) T1 h1 _ (by omega) X1 e1 V1
    rw [List.append_assoc] at X2
    refine ⟨T2, _, X2, ?_, (Keep.of_wr W1).trans K2 (fun z hz => Or.inl hz), V2, fun t q => ?_⟩
    · intro y hy
      rcases List.mem_append.mp hy with hy | hy
      · cases List.mem_singleton.mp hy; exact Nat.le_refl _
      · exact N2 y hy
    have hpc : own_pc pc0 (i + 1) = own_pc pc0 i + 1 + own_il i + 2 + 1 := by
      unfold own_pc own_il
      split <;> split <;> (try split) <;> omega
    have q1 := st1 _ (by have z := st2 t q; rw [hpc] at z; exact z)
    refine XS.dup X.here hx rfl d1 rfl rfl ?_
    show Steps p.tables e below (T.setTop (mkF m (own_pc pc0 i + 1) Ls (.ref b :: .ref b :: rest))) t
    have q2 : Steps p.tables e below (T.setTop (mkF m (own_pc pc0 i + 1 + own_il i) Ls (.int (Int32.ofNat i) :: .ref b :: .ref b :: rest))) t := by
      rcases hP i x hxi with ⟨z, ez, rfl⟩ | ⟨kk, ez, hk⟩
      · rw [ez] at d3
        exact XS.bipush X.here hx rfl d3 q1
      · rw [ez] at d3
        exact XS.iload X.here hx rfl d3 hk q1
    by_cases q5 : i ≤ 5
    · have a1 : own_il i = 1 := if_pos q5
      have a2 : own_ix i = .iconst i := if_pos q5
      rw [a1, a2] at d2
      rw [a1] at q2
      refine XS.iconst X.here hx rfl d2 ?_
      rw [own_ici i (by omega)]
      exact q2
    · have a1 : own_il i = 2 := if_neg q5
      have a2 : own_ix i = .bipush i := if_neg q5
      rw [a1, a2] at d2
      rw [a1] at q2
      refine XS.bipush X.here hx rfl d2 ?_
      rw [own_icb i (by omega)]
      exact q2
def own_TS (Z : State) (u0 u1 : RefV) : Prop := Sta Z Z.heap "java/lang/Throwable" "UNASSIGNED_STACK" "[Ljava/lang/StackTraceElement;" u0.v ∧ Sta Z Z.heap "java/lang/Throwable" "SUPPRESSED_SENTINEL" "Ljava/util/List;" u1.v
def own_EL : List (String × Nat) := [("com/example/drain_shards/drainshards/DrainShardsException", 54), ("com/example/drain_shards/drainshards/DrainShardsException", 67), ("com/example/drain_shards/drainshards/DrainShardsException", 69), ("com/example/drain_shards/drainshards/DrainShardsException", 71), ("com/example/drain_shards/drainshards/DrainShardsException", 73), ("com/example/drain_shards/drainshards/DrainShardsException", 75), ("com/example/drain_shards/drainshards/DrainShardsException", 77)]
theorem own_hEL {Z : State} {a0 : Array Value} (hw : ∀ d ∈ tables_1, d.before a0 Z = true) : EW Z a0 own_EL := (EW.cons (hw _ (List.mem_of_getElem? (i := 185) rfl)) (by decide) (EW.cons (hw _ (List.mem_of_getElem? (i := 271) rfl)) (by decide) (EW.cons (hw _ (List.mem_of_getElem? (i := 66) rfl)) (by decide) (EW.cons (hw _ (List.mem_of_getElem? (i := 139) rfl)) (by decide) (EW.cons (hw _ (List.mem_of_getElem? (i := 184) rfl)) (by decide) (EW.cons (hw _ (List.mem_of_getElem? (i := 186) rfl)) (by decide) (EW.cons (hw _ (List.mem_of_getElem? (i := 187) rfl)) (by decide) EW.nil)))))))
theorem own_wS {Z : State} {a0 : Array Value} (hw : ∀ d ∈ tables_1, d.before a0 Z = true) : ∀ a ∈ Bundle.stringAtoms, a.before a0 Z = true := fun a ha => by
  simp only [Bundle.stringAtoms, List.mem_cons, List.not_mem_nil, or_false] at ha
  rcases ha with rfl | rfl | rfl | rfl | rfl | rfl | rfl
  · exact (hw _ (List.mem_of_getElem? (i := 2) rfl))
  · exact (hw _ (List.mem_of_getElem? (i := 10) rfl))
  · exact (hw _ (List.mem_of_getElem? (i := 14) rfl))
  · exact (hw _ (List.mem_of_getElem? (i := 23) rfl))
  · exact (hw _ (List.mem_of_getElem? (i := 25) rfl))
  · exact (hw _ (List.mem_of_getElem? (i := 67) rfl))
  · exact (hw _ (List.mem_of_getElem? (i := 68) rfl))
theorem d_jdk_42_method_152_0 : decode jdk_42_method_152_code 0 = .ok (.getstatic 38, 3) := by decide +kernel
theorem d_jdk_42_method_152_3 : decode jdk_42_method_152_code 3 = .ok (.ifCond .eq 10, 3) := by decide +kernel
theorem d_jdk_42_method_152_6 : decode jdk_42_method_152_code 6 = .ok (.aload_n 0, 1) := by decide +kernel
theorem d_jdk_42_method_152_7 : decode jdk_42_method_152_code 7 = .ok (.getfield 15, 3) := by decide +kernel
theorem d_jdk_42_method_152_10 : decode jdk_42_method_152_code 10 = .ok (.goto 4, 3) := by decide +kernel
theorem d_jdk_42_method_152_14 : decode jdk_42_method_152_code 14 = .ok (.ireturn, 1) := by decide +kernel
theorem opl_rm_coder : plainFor (⟨"java/lang/String", "coder", "()B"⟩ : MethodName) = true := plainFor_of_name (by first | (simp [plainName, overriddenIn]; done) | decide +kernel)
set_option maxRecDepth 65536 in
set_option maxHeartbeats 40000000 in
theorem rm_coder (l : Launch) (Z : State) (a0 : Array Value) (hw : ∀ d ∈ tables_1, d.before a0 Z = true) (ws : List Jvm.Cond) (a : Addr) (zc : Int32) (wf : Value) (n0 : Nat) (h0 : Heap) (SS : own_SS Z zc wf) (O : Old Z n0 h0) (C : Fld Z h0 a "java/lang/String" "coder" "B" (.int (0 : Int32))) :
    Con l Z (⟨"java/lang/String", "coder", "()B"⟩ : MethodName) jdk_42_method_152_code 1 (some .byte) ws ({ frames := 0, cells := 0, slots := 0, locals := 0 } : Room) #[(.ref a)] h0 (fun v h L => v = some (.int (0 : Int32)) ∧ L = [] ∧ h = h0) := by
  refine Con.intro opl_rm_coder ?_
  intro p e s m below meth c s₁ hx hby hml hown hret hlk hZ hnm X0 e0
  obtain ⟨hzc, SC, hwf, SF⟩ := SS
  have Z0 : n0 ≤ h0.size := O.1 ▸ O.2.1
  have N0 := Fr.nil n0
  refine OGo.cast (g' := (mkF m 0 #[.val (.ref a)] [])) (by first | (simp [entryFrame, mkF, argsToLocals, Value.category]; done) | rfl) ?_
  show OGo p e below _ s₁ (mkF m 0 #[.val (.ref a)] [])
  obtain ⟨T1, X1, e1, st1⟩ := getS2 X0 hx hZ hown (host := "") (Or.inl (hw _ (List.mem_of_getElem? (i := 4) rfl))) Via.refl e0 (SC.ext O.2) (g := (mkF m 0 #[.val (.ref a)] [])) rfl (hb hby d_jdk_42_method_152_0)
  refine OGo.step st1 ?_
  show OGo p e below _ T1 (mkF m 3 #[.val (.ref a)] [(.int zc)])
  refine OGo.step (fun _ k => XS.ifNo X1.here hx rfl (hb hby d_jdk_42_method_152_3) rfl ((if0 _ _).trans (feq hzc).1) k) ?_
  show OGo p e below _ T1 (mkF m 6 #[.val (.ref a)] [])
  refine OGo.step (fun _ k => XS.aloadN X1.here hx rfl (hb hby d_jdk_42_method_152_6) rfl rfl k) ?_
  show OGo p e below _ T1 (mkF m 7 #[.val (.ref a)] [(.ref a)])
  obtain ⟨T2, X2, e2, st2⟩ := getF X1 hx hZ hown (host := "") (Or.inl (hw _ (List.mem_of_getElem? (i := 24) rfl))) Via.refl e1 C (g := (mkF m 7 #[.val (.ref a)] [(.ref a)])) rfl rfl (hb hby d_jdk_42_method_152_7)
  refine OGo.step st2 ?_
  show OGo p e below _ T2 (mkF m 10 #[.val (.ref a)] [(.int (0 : Int32))])
  refine OGo.step (fun _ k => XS.goto X2.here hx rfl (pc0 := 10) (pc' := 14) rfl (hb hby d_jdk_42_method_152_10) (by decide) (by decide) k) ?_
  show OGo p e below _ T2 (mkF m 14 #[.val (.ref a)] [(.int (0 : Int32))])
  exact OGo.ret X2 hx (t := .byte) hret hlk rfl (Or.inl ⟨rfl, by simp, _, rfl⟩) (hb hby d_jdk_42_method_152_14) (by decide) (by decide) ⟨rfl, rfl, e2⟩
theorem d_jdk_42_method_54_0 : decode jdk_42_method_54_code 0 = .ok (.aload_n 0, 1) := by decide +kernel
theorem d_jdk_42_method_54_1 : decode jdk_42_method_54_code 1 = .ok (.getfield 9, 3) := by decide +kernel
theorem d_jdk_42_method_54_4 : decode jdk_42_method_54_code 4 = .ok (.arraylength, 1) := by decide +kernel
theorem d_jdk_42_method_54_5 : decode jdk_42_method_54_code 5 = .ok (.aload_n 0, 1) := by decide +kernel
theorem opd_0 : parseMethodDescriptor "()B" = some ⟨[], some .byte⟩ := by decide +kernel
theorem d_jdk_42_method_54_6 : decode jdk_42_method_54_code 6 = .ok (.invokevirtual 335, 3) := by decide +kernel
theorem d_jdk_42_method_54_9 : decode jdk_42_method_54_code 9 = .ok (.ishr, 1) := by decide +kernel
theorem d_jdk_42_method_54_10 : decode jdk_42_method_54_code 10 = .ok (.ireturn, 1) := by decide +kernel
theorem opl_rm_length : plainFor (⟨"java/lang/String", "length", "()I"⟩ : MethodName) = true := plainFor_of_name (by first | (simp [plainName, overriddenIn]; done) | decide +kernel)
set_option maxRecDepth 65536 in
set_option maxHeartbeats 40000000 in
theorem rm_length (l : Launch) (Z : State) (a0 : Array Value) (hw : ∀ d ∈ tables_1, d.before a0 Z = true) (ws : List Jvm.Cond) (a d : Addr) (k : ClassId) (us : List Value) (zc : Int32) (wf : Value) (n0 : Nat) (h0 : Heap) (SS : own_SS Z zc wf) (O : Old Z n0 h0) (I : STI Z h0 a d k us) :
    Con l Z (⟨"java/lang/String", "length", "()I"⟩ : MethodName) jdk_42_method_54_code 1 (some .int) ws ({ frames := 1, cells := 0, slots := 0, locals := 13 } : Room) #[(.ref a)] h0 (fun v h L => v = some (.int (Int32.ofNat us.length)) ∧ L = [] ∧ h = h0) := by
  refine Con.intro opl_rm_length ?_
  intro p e s m below meth c s₁ hx hby hml hown hret hlk hZ hnm X0 e0
  have SS' := SS
  obtain ⟨hzc, SC, hwf, SF⟩ := SS
  have Z0 : n0 ≤ h0.size := O.1 ▸ O.2.1
  have N0 := Fr.nil n0
  obtain ⟨IE, IC, IF, IV⟩ := I
  refine OGo.cast (g' := (mkF m 0 #[.val (.ref a)] [])) (by first | (simp [entryFrame, mkF, argsToLocals, Value.category]; done) | rfl) ?_
  show OGo p e below _ s₁ (mkF m 0 #[.val (.ref a)] [])
  refine OGo.step (fun _ k => XS.aloadN X0.here hx rfl (hb hby d_jdk_42_method_54_0) rfl rfl k) ?_
  show OGo p e below _ s₁ (mkF m 1 #[.val (.ref a)] [(.ref a)])
  obtain ⟨T3, X3, e3, st3⟩ := getF X0 hx hZ hown (host := "") (Or.inl (hw _ (List.mem_of_getElem? (i := 22) rfl))) Via.refl e0 IF (g := (mkF m 1 #[.val (.ref a)] [(.ref a)])) rfl rfl (hb hby d_jdk_42_method_54_1)
  refine OGo.step st3 ?_
  show OGo p e below _ T3 (mkF m 4 #[.val (.ref a)] [(.ref d)])
  refine OGo.step (fun _ k => alenV X3 hx hZ e3 IV (g := (mkF m 4 #[.val (.ref a)] [(.ref d)])) rfl rfl (hb hby d_jdk_42_method_54_4) _ k) ?_
  show OGo p e below _ T3 (mkF m 5 #[.val (.ref a)] [(.int (Int32.ofNat us.length))])
  refine OGo.step (fun _ k => XS.aloadN X3.here hx rfl (hb hby d_jdk_42_method_54_5) rfl rfl k) ?_
  show OGo p e below _ T3 (mkF m 6 #[.val (.ref a)] [(.ref a), (.int (Int32.ofNat us.length))])
  obtain ⟨v4, T4, L4, X4, hQ4, st4⟩ := vcall X3 hx hZ hown (hw _ (List.mem_of_getElem? (i := 84) rfl)) (hw _ (List.mem_of_getElem? (i := 85) rfl)) (hw _ (List.mem_of_getElem? (i := 87) rfl)) rfl (hw _ (List.mem_of_getElem? (i := 87) rfl)) (hw _ (List.mem_of_getElem? (i := 86) rfl)) (hw _ (List.mem_of_getElem? (i := 2) rfl)) (hw _ (List.mem_of_getElem? (i := 88) rfl)) (by decide) (W := 1) (rm_coder l Z a0 hw [] a zc wf n0 h0 SS' O IC) e3 (by decide) (by decide) (by decide) (by decide) (g := (mkF m 6 #[.val (.ref a)] [(.ref a), (.int (Int32.ofNat us.length))])) rfl (by rw [hml]; rfl) IE (argsL := []) (rest := [(.int (Int32.ofNat us.length))]) opd_0 rfl rfl rfl (by show 2 * 0 + _ ≤ _; exact Nat.le_of_eq rfl) (hb hby d_jdk_42_method_54_6)
  obtain ⟨rfl, rfl, e4⟩ := hQ4
  rw [List.append_nil] at X4
  refine OGo.step st4 ?_
  show OGo p e below _ T4 (mkF m 9 #[.val (.ref a)] [(.int (0 : Int32)), (.int (Int32.ofNat us.length))])
  refine OGo.step (fun _ k => XS.ishr X4.here hx rfl (hb hby d_jdk_42_method_54_9) rfl k) ?_
  show OGo p e below _ T4 (mkF m 10 #[.val (.ref a)] [(.int ((Int32.ofNat us.length) >>> ((0 : Int32) &&& 31)))])
  rw [own_shr0]
  show OGo p e below _ T4 (mkF m 10 #[.val (.ref a)] [(.int (Int32.ofNat us.length))])
  exact OGo.ret X4 hx (t := .int) hret hlk rfl (Or.inl ⟨rfl, by simp, _, rfl⟩) (hb hby d_jdk_42_method_54_10) (by decide) (by decide) ⟨rfl, rfl, e4⟩
theorem d_jdk_29_method_65_0 : decode jdk_29_method_65_code 0 = .ok (.iload_n 0, 1) := by decide +kernel
theorem d_jdk_29_method_65_1 : decode jdk_29_method_65_code 1 = .ok (.iload_n 1, 1) := by decide +kernel
theorem d_jdk_29_method_65_2 : decode jdk_29_method_65_code 2 = .ok (.if_icmp .lt 7, 3) := by decide +kernel
theorem d_jdk_29_method_65_9 : decode jdk_29_method_65_code 9 = .ok (.iload_n 1, 1) := by decide +kernel
theorem d_jdk_29_method_65_10 : decode jdk_29_method_65_code 10 = .ok (.ireturn, 1) := by decide +kernel
theorem d_jdk_29_method_65_5 : decode jdk_29_method_65_code 5 = .ok (.iload_n 0, 1) := by decide +kernel
theorem d_jdk_29_method_65_6 : decode jdk_29_method_65_code 6 = .ok (.goto 4, 3) := by decide +kernel
theorem opl_rm_max : plainFor (⟨"java/lang/Math", "max", "(II)I"⟩ : MethodName) = true := Jvm.Free.JP.mathPlain rfl (by decide +kernel)
set_option maxRecDepth 65536 in
set_option maxHeartbeats 40000000 in
theorem rm_max (l : Launch) (Z : State) (a0 : Array Value) (hw : ∀ d ∈ tables_1, d.before a0 Z = true) (ws : List Jvm.Cond) (a b : Int32) (h0 : Heap)  :
    Con l Z (⟨"java/lang/Math", "max", "(II)I"⟩ : MethodName) jdk_29_method_65_code 2 (some .int) ws ({ frames := 0, cells := 0, slots := 0, locals := 0 } : Room) #[(.int a), (.int b)] h0 (fun v h L => v = some (.int (if a < b then b else a)) ∧ L = [] ∧ h = h0) := by
  refine Con.intro opl_rm_max ?_
  intro p e s m below meth c s₁ hx hby hml hown hret hlk hZ hnm X0 e0
  refine OGo.cast (g' := (mkF m 0 #[.val (.int a), .val (.int b)] [])) (by first | (simp [entryFrame, mkF, argsToLocals, Value.category]; done) | rfl) ?_
  show OGo p e below _ s₁ (mkF m 0 #[.val (.int a), .val (.int b)] [])
  refine OGo.step (fun _ k => XS.iloadN X0.here hx rfl (hb hby d_jdk_29_method_65_0) rfl k) ?_
  show OGo p e below _ s₁ (mkF m 1 #[.val (.int a), .val (.int b)] [(.int a)])
  refine OGo.step (fun _ k => XS.iloadN X0.here hx rfl (hb hby d_jdk_29_method_65_1) rfl k) ?_
  show OGo p e below _ s₁ (mkF m 2 #[.val (.int a), .val (.int b)] [(.int b), (.int a)])
  by_cases q : a < b
  · refine OGo.step (fun _ k => XS.icmpYes X0.here hx rfl (pc0 := 2) (pc' := 9) rfl (hb hby d_jdk_29_method_65_2) rfl (tlt q).1 (by decide) (by decide) k) ?_
    show OGo p e below _ s₁ (mkF m 9 #[.val (.int a), .val (.int b)] [])
    refine OGo.step (fun _ k => XS.iloadN X0.here hx rfl (hb hby d_jdk_29_method_65_9) rfl k) ?_
    show OGo p e below _ s₁ (mkF m 10 #[.val (.int a), .val (.int b)] [(.int b)])
    exact OGo.ret X0 hx (t := .int) hret hlk rfl (Or.inl ⟨rfl, by simp, _, rfl⟩) (hb hby d_jdk_29_method_65_10) (by decide) (by decide) ⟨by rw [if_pos q], rfl, e0⟩
  refine OGo.step (fun _ k => XS.icmpNo X0.here hx rfl (hb hby d_jdk_29_method_65_2) rfl (flt q).1 k) ?_
  show OGo p e below _ s₁ (mkF m 5 #[.val (.int a), .val (.int b)] [])
  refine OGo.step (fun _ k => XS.iloadN X0.here hx rfl (hb hby d_jdk_29_method_65_5) rfl k) ?_
  show OGo p e below _ s₁ (mkF m 6 #[.val (.int a), .val (.int b)] [(.int a)])
  refine OGo.step (fun _ k => XS.goto X0.here hx rfl (pc0 := 6) (pc' := 10) rfl (hb hby d_jdk_29_method_65_6) (by decide) (by decide) k) ?_
  show OGo p e below _ s₁ (mkF m 10 #[.val (.int a), .val (.int b)] [(.int a)])
  exact OGo.ret X0 hx (t := .int) hret hlk rfl (Or.inl ⟨rfl, by simp, _, rfl⟩) (hb hby d_jdk_29_method_65_10) (by decide) (by decide) ⟨by rw [if_neg q], rfl, e0⟩
theorem d_jdk_29_method_69_0 : decode jdk_29_method_69_code 0 = .ok (.iload_n 0, 1) := by decide +kernel
theorem d_jdk_29_method_69_1 : decode jdk_29_method_69_code 1 = .ok (.iload_n 1, 1) := by decide +kernel
theorem d_jdk_29_method_69_2 : decode jdk_29_method_69_code 2 = .ok (.if_icmp .gt 7, 3) := by decide +kernel
theorem d_jdk_29_method_69_5 : decode jdk_29_method_69_code 5 = .ok (.iload_n 0, 1) := by decide +kernel
theorem d_jdk_29_method_69_6 : decode jdk_29_method_69_code 6 = .ok (.goto 4, 3) := by decide +kernel
theorem d_jdk_29_method_69_10 : decode jdk_29_method_69_code 10 = .ok (.ireturn, 1) := by decide +kernel
theorem opl_rm_minA : plainFor (⟨"java/lang/Math", "min", "(II)I"⟩ : MethodName) = true := Jvm.Free.JP.mathPlain rfl (by decide +kernel)
set_option maxRecDepth 65536 in
set_option maxHeartbeats 40000000 in
theorem rm_minA (l : Launch) (Z : State) (a0 : Array Value) (hw : ∀ d ∈ tables_1, d.before a0 Z = true) (ws : List Jvm.Cond) (a b : Int32) (h0 : Heap) (hab : ¬ b < a) :
    Con l Z (⟨"java/lang/Math", "min", "(II)I"⟩ : MethodName) jdk_29_method_69_code 2 (some .int) ws ({ frames := 0, cells := 0, slots := 0, locals := 0 } : Room) #[(.int a), (.int b)] h0 (fun v h L => v = some (.int a) ∧ L = [] ∧ h = h0) := by
  refine Con.intro opl_rm_minA ?_
  intro p e s m below meth c s₁ hx hby hml hown hret hlk hZ hnm X0 e0
  refine OGo.cast (g' := (mkF m 0 #[.val (.int a), .val (.int b)] [])) (by first | (simp [entryFrame, mkF, argsToLocals, Value.category]; done) | rfl) ?_
  show OGo p e below _ s₁ (mkF m 0 #[.val (.int a), .val (.int b)] [])
  refine OGo.step (fun _ k => XS.iloadN X0.here hx rfl (hb hby d_jdk_29_method_69_0) rfl k) ?_
  show OGo p e below _ s₁ (mkF m 1 #[.val (.int a), .val (.int b)] [(.int a)])
  refine OGo.step (fun _ k => XS.iloadN X0.here hx rfl (hb hby d_jdk_29_method_69_1) rfl k) ?_
  show OGo p e below _ s₁ (mkF m 2 #[.val (.int a), .val (.int b)] [(.int b), (.int a)])
  refine OGo.step (fun _ k => XS.icmpNo X0.here hx rfl (hb hby d_jdk_29_method_69_2) rfl (flt hab).2.2.1 k) ?_
  show OGo p e below _ s₁ (mkF m 5 #[.val (.int a), .val (.int b)] [])
  refine OGo.step (fun _ k => XS.iloadN X0.here hx rfl (hb hby d_jdk_29_method_69_5) rfl k) ?_
  show OGo p e below _ s₁ (mkF m 6 #[.val (.int a), .val (.int b)] [(.int a)])
  refine OGo.step (fun _ k => XS.goto X0.here hx rfl (pc0 := 6) (pc' := 10) rfl (hb hby d_jdk_29_method_69_6) (by decide) (by decide) k) ?_
  show OGo p e below _ s₁ (mkF m 10 #[.val (.int a), .val (.int b)] [(.int a)])
  exact OGo.ret X0 hx (t := .int) hret hlk rfl (Or.inl ⟨rfl, by simp, _, rfl⟩) (hb hby d_jdk_29_method_69_10) (by decide) (by decide) ⟨rfl, rfl, e0⟩
theorem d_jdk_48_method_27_0 : decode jdk_48_method_27_code 0 = .ok (.iload_n 0, 1) := by decide +kernel
theorem d_jdk_48_method_27_1 : decode jdk_48_method_27_code 1 = .ok (.iload_n 1, 1) := by decide +kernel
theorem d_jdk_48_method_27_2 : decode jdk_48_method_27_code 2 = .ok (.iload_n 2, 1) := by decide +kernel
theorem opd_1 : parseMethodDescriptor "(II)I" = some ⟨[.int, .int], some .int⟩ := by decide +kernel
theorem d_jdk_48_method_27_3 : decode jdk_48_method_27_code 3 = .ok (.invokestatic 194, 3) := by decide +kernel
theorem d_jdk_48_method_27_6 : decode jdk_48_method_27_code 6 = .ok (.iadd, 1) := by decide +kernel
theorem d_jdk_48_method_27_7 : decode jdk_48_method_27_code 7 = .ok (.istore_n 3, 1) := by decide +kernel
theorem d_jdk_48_method_27_8 : decode jdk_48_method_27_code 8 = .ok (.iconst 0, 1) := by decide +kernel
theorem d_jdk_48_method_27_9 : decode jdk_48_method_27_code 9 = .ok (.iload_n 3, 1) := by decide +kernel
theorem d_jdk_48_method_27_10 : decode jdk_48_method_27_code 10 = .ok (.if_icmp .ge 11, 3) := by decide +kernel
theorem d_jdk_48_method_27_13 : decode jdk_48_method_27_code 13 = .ok (.iload_n 3, 1) := by decide +kernel
theorem d_jdk_48_method_27_14 : decode jdk_48_method_27_code 14 = .ok (.ldc 200, 2) := by decide +kernel
theorem d_jdk_48_method_27_16 : decode jdk_48_method_27_code 16 = .ok (.if_icmp .gt 5, 3) := by decide +kernel
theorem d_jdk_48_method_27_19 : decode jdk_48_method_27_code 19 = .ok (.iload_n 3, 1) := by decide +kernel
theorem d_jdk_48_method_27_20 : decode jdk_48_method_27_code 20 = .ok (.ireturn, 1) := by decide +kernel
theorem opl_rm_newLen : plainFor (⟨"jdk/internal/util/ArraysSupport", "newLength", "(III)I"⟩ : MethodName) = true := plainFor_of_name (by first | (simp [plainName, overriddenIn]; done) | decide +kernel)
set_option maxRecDepth 65536 in
set_option maxHeartbeats 40000000 in
theorem rm_newLen (l : Launch) (Z : State) (a0 : Array Value) (hw : ∀ d ∈ tables_1, d.before a0 Z = true) (ws : List Jvm.Cond) (zn g f : Nat) (h0 : Heap) (h1 : zn ≤ 1000000) (h2 : g ≤ 1000000) (h3 : f ≤ 1000000) (h4 : 1 ≤ f) :
    Con l Z (⟨"jdk/internal/util/ArraysSupport", "newLength", "(III)I"⟩ : MethodName) jdk_48_method_27_code 4 (some .int) ws ({ frames := 1, cells := 0, slots := 0, locals := 14 } : Room) #[(.int (Int32.ofNat zn)), (.int (Int32.ofNat g)), (.int (Int32.ofNat f))] h0 (fun v h L => v = some (.int (Int32.ofNat (zn + max g f))) ∧ L = [] ∧ h = h0) := by
  refine Con.intro opl_rm_newLen ?_
  intro p e s m below meth c s₁ hx hby hml hown hret hlk hZ hnm X0 e0
  refine OGo.cast (g' := (mkF m 0 #[.val (.int (Int32.ofNat zn)), .val (.int (Int32.ofNat g)), .val (.int (Int32.ofNat f)), .unset] [])) (by first | (simp [entryFrame, mkF, argsToLocals, Value.category]; done) | rfl) ?_
  show OGo p e below _ s₁ (mkF m 0 #[.val (.int (Int32.ofNat zn)), .val (.int (Int32.ofNat g)), .val (.int (Int32.ofNat f)), .unset] [])
  refine OGo.step (fun _ k => XS.iloadN X0.here hx rfl (hb hby d_jdk_48_method_27_0) rfl k) ?_
  show OGo p e below _ s₁ (mkF m 1 #[.val (.int (Int32.ofNat zn)), .val (.int (Int32.ofNat g)), .val (.int (Int32.ofNat f)), .unset] [(.int (Int32.ofNat zn))])
  refine OGo.step (fun _ k => XS.iloadN X0.here hx rfl (hb hby d_jdk_48_method_27_1) rfl k) ?_
  show OGo p e below _ s₁ (mkF m 2 #[.val (.int (Int32.ofNat zn)), .val (.int (Int32.ofNat g)), .val (.int (Int32.ofNat f)), .unset] [(.int (Int32.ofNat g)), (.int (Int32.ofNat zn))])
  refine OGo.step (fun _ k => XS.iloadN X0.here hx rfl (hb hby d_jdk_48_method_27_2) rfl k) ?_
  show OGo p e below _ s₁ (mkF m 3 #[.val (.int (Int32.ofNat zn)), .val (.int (Int32.ofNat g)), .val (.int (Int32.ofNat f)), .unset] [(.int (Int32.ofNat f)), (.int (Int32.ofNat g)), (.int (Int32.ofNat zn))])
  obtain ⟨v5, T5, L5, X5, hQ5, st5⟩ := scall X0 hx hZ hown (hw _ (List.mem_of_getElem? (i := 105) rfl)) (hw _ (List.mem_of_getElem? (i := 106) rfl)) (hw _ (List.mem_of_getElem? (i := 107) rfl)) (hw _ (List.mem_of_getElem? (i := 108) rfl)) (by decide) (W := 1) (rm_max l Z a0 hw [] (Int32.ofNat g) (Int32.ofNat f) h0 ) e0 (by decide) (by decide) (by decide) (by decide) (g := (mkF m 3 #[.val (.int (Int32.ofNat zn)), .val (.int (Int32.ofNat g)), .val (.int (Int32.ofNat f)), .unset] [(.int (Int32.ofNat f)), (.int (Int32.ofNat g)), (.int (Int32.ofNat zn))])) rfl (by rw [hml]; rfl) (argsL := [(.int (Int32.ofNat g)), (.int (Int32.ofNat f))]) (rest := [(.int (Int32.ofNat zn))]) opd_1 rfl rfl rfl (by show 2 * 0 + _ ≤ _; exact Nat.le_of_eq rfl) (hb hby d_jdk_48_method_27_3)
  obtain ⟨rfl, rfl, e5⟩ := hQ5
  rw [List.append_nil] at X5
  refine OGo.step st5 ?_
  show OGo p e below _ T5 (mkF m 6 #[.val (.int (Int32.ofNat zn)), .val (.int (Int32.ofNat g)), .val (.int (Int32.ofNat f)), .unset] [(.int (if Int32.ofNat g < Int32.ofNat f then Int32.ofNat f else Int32.ofNat g)), (.int (Int32.ofNat zn))])
  have hm : (if Int32.ofNat g < Int32.ofNat f then Int32.ofNat f else Int32.ofNat g) = Int32.ofNat (max g f) := by
    split
    · next q => rw [own_lt (by omega) (by omega)] at q; rw [Nat.max_eq_right (by omega)]
    · next q => rw [own_lt (by omega) (by omega)] at q; rw [Nat.max_eq_left (by omega)]
  rw [hm]
  show OGo p e below _ T5 (mkF m 6 #[.val (.int (Int32.ofNat zn)), .val (.int (Int32.ofNat g)), .val (.int (Int32.ofNat f)), .unset] [(.int (Int32.ofNat (max g f))), (.int (Int32.ofNat zn))])
  refine OGo.step (fun _ k => XS.iadd X5.here hx rfl (hb hby d_jdk_48_method_27_6) rfl k) ?_
  show OGo p e below _ T5 (mkF m 7 #[.val (.int (Int32.ofNat zn)), .val (.int (Int32.ofNat g)), .val (.int (Int32.ofNat f)), .unset] [(.int ((Int32.ofNat zn) + (Int32.ofNat (max g f))))])
  rw [own_addn]
  show OGo p e below _ T5 (mkF m 7 #[.val (.int (Int32.ofNat zn)), .val (.int (Int32.ofNat g)), .val (.int (Int32.ofNat f)), .unset] [(.int (Int32.ofNat (zn + max g f)))])
  refine OGo.step (fun _ k => XS.istoreN X5.here hx rfl (hb hby d_jdk_48_method_27_7) rfl (l' := #[.val (.int (Int32.ofNat zn)), .val (.int (Int32.ofNat g)), .val (.int (Int32.ofNat f)), .val (.int (Int32.ofNat (zn + max g f)))]) rfl k) ?_
  show OGo p e below _ T5 (mkF m 8 #[.val (.int (Int32.ofNat zn)), .val (.int (Int32.ofNat g)), .val (.int (Int32.ofNat f)), .val (.int (Int32.ofNat (zn + max g f)))] [])
  refine OGo.step (fun _ k => XS.iconst X5.here hx rfl (hb hby d_jdk_48_method_27_8) k) ?_
  show OGo p e below _ T5 (mkF m 9 #[.val (.int (Int32.ofNat zn)), .val (.int (Int32.ofNat g)), .val (.int (Int32.ofNat f)), .val (.int (Int32.ofNat (zn + max g f)))] [(.int (0 : Int32))])
  refine OGo.step (fun _ k => XS.iloadN X5.here hx rfl (hb hby d_jdk_48_method_27_9) rfl k) ?_
  show OGo p e below _ T5 (mkF m 10 #[.val (.int (Int32.ofNat zn)), .val (.int (Int32.ofNat g)), .val (.int (Int32.ofNat f)), .val (.int (Int32.ofNat (zn + max g f)))] [(.int (Int32.ofNat (zn + max g f))), (.int (0 : Int32))])
  refine OGo.step (fun _ k => XS.icmpNo X5.here hx rfl (hb hby d_jdk_48_method_27_10) rfl (tlt (show Int32.ofNat 0 < Int32.ofNat (zn + max g f) from (own_lt (by decide) (by omega)).mpr (by omega))).2.1 k) ?_
  show OGo p e below _ T5 (mkF m 13 #[.val (.int (Int32.ofNat zn)), .val (.int (Int32.ofNat g)), .val (.int (Int32.ofNat f)), .val (.int (Int32.ofNat (zn + max g f)))] [])
  refine OGo.step (fun _ k => XS.iloadN X5.here hx rfl (hb hby d_jdk_48_method_27_13) rfl k) ?_
  show OGo p e below _ T5 (mkF m 14 #[.val (.int (Int32.ofNat zn)), .val (.int (Int32.ofNat g)), .val (.int (Int32.ofNat f)), .val (.int (Int32.ofNat (zn + max g f)))] [(.int (Int32.ofNat (zn + max g f)))])
  refine OGo.step (fun _ k => Jvm.Stand.ldcI X5 hx hown (mvT hZ (hw _ (List.mem_of_getElem? (i := 109) rfl))) rfl (hb hby d_jdk_48_method_27_14) k) ?_
  show OGo p e below _ T5 (mkF m 16 #[.val (.int (Int32.ofNat zn)), .val (.int (Int32.ofNat g)), .val (.int (Int32.ofNat f)), .val (.int (Int32.ofNat (zn + max g f)))] [(.int (2147483639 : Int32)), (.int (Int32.ofNat (zn + max g f)))])
  refine OGo.step (fun _ k => XS.icmpNo X5.here hx rfl (hb hby d_jdk_48_method_27_16) rfl (flt (fun q => by have := (own_lt (a := 2147483639) (by decide) (by omega)).mp q; omega)).2.2.1 k) ?_
  show OGo p e below _ T5 (mkF m 19 #[.val (.int (Int32.ofNat zn)), .val (.int (Int32.ofNat g)), .val (.int (Int32.ofNat f)), .val (.int (Int32.ofNat (zn + max g f)))] [])
  refine OGo.step (fun _ k => XS.iloadN X5.here hx rfl (hb hby d_jdk_48_method_27_19) rfl k) ?_
  show OGo p e below _ T5 (mkF m 20 #[.val (.int (Int32.ofNat zn)), .val (.int (Int32.ofNat g)), .val (.int (Int32.ofNat f)), .val (.int (Int32.ofNat (zn + max g f)))] [(.int (Int32.ofNat (zn + max g f)))])
  exact OGo.ret X5 hx (t := .int) hret hlk rfl (Or.inl ⟨rfl, by simp, _, rfl⟩) (hb hby d_jdk_48_method_27_20) (by decide) (by decide) ⟨rfl, rfl, e5⟩
theorem d_jdk_68_method_10_0 : decode jdk_68_method_10_code 0 = .ok (.aload_n 0, 1) := by decide +kernel
theorem d_jdk_68_method_10_1 : decode jdk_68_method_10_code 1 = .ok (.getfield 15, 3) := by decide +kernel
theorem d_jdk_68_method_10_4 : decode jdk_68_method_10_code 4 = .ok (.arraylength, 1) := by decide +kernel
theorem d_jdk_68_method_10_5 : decode jdk_68_method_10_code 5 = .ok (.istore_n 2, 1) := by decide +kernel
theorem d_jdk_68_method_10_6 : decode jdk_68_method_10_code 6 = .ok (.iload_n 1, 1) := by decide +kernel
theorem d_jdk_68_method_10_7 : decode jdk_68_method_10_code 7 = .ok (.aload_n 0, 1) := by decide +kernel
theorem d_jdk_68_method_10_8 : decode jdk_68_method_10_code 8 = .ok (.getfield 22, 3) := by decide +kernel
theorem d_jdk_68_method_10_11 : decode jdk_68_method_10_code 11 = .ok (.ishl, 1) := by decide +kernel
theorem d_jdk_68_method_10_12 : decode jdk_68_method_10_code 12 = .ok (.istore_n 3, 1) := by decide +kernel
theorem d_jdk_68_method_10_13 : decode jdk_68_method_10_code 13 = .ok (.iload_n 3, 1) := by decide +kernel
theorem d_jdk_68_method_10_14 : decode jdk_68_method_10_code 14 = .ok (.iload_n 2, 1) := by decide +kernel
theorem d_jdk_68_method_10_15 : decode jdk_68_method_10_code 15 = .ok (.isub, 1) := by decide +kernel
theorem d_jdk_68_method_10_16 : decode jdk_68_method_10_code 16 = .ok (.istore 4, 2) := by decide +kernel
theorem d_jdk_68_method_10_18 : decode jdk_68_method_10_code 18 = .ok (.iload_n 2, 1) := by decide +kernel
theorem d_jdk_68_method_10_19 : decode jdk_68_method_10_code 19 = .ok (.iload 4, 2) := by decide +kernel
theorem d_jdk_68_method_10_21 : decode jdk_68_method_10_code 21 = .ok (.iload_n 2, 1) := by decide +kernel
theorem d_jdk_68_method_10_22 : decode jdk_68_method_10_code 22 = .ok (.iconst 2, 1) := by decide +kernel
theorem d_jdk_68_method_10_23 : decode jdk_68_method_10_code 23 = .ok (.aload_n 0, 1) := by decide +kernel
theorem d_jdk_68_method_10_24 : decode jdk_68_method_10_code 24 = .ok (.getfield 22, 3) := by decide +kernel
theorem d_jdk_68_method_10_27 : decode jdk_68_method_10_code 27 = .ok (.ishl, 1) := by decide +kernel
theorem d_jdk_68_method_10_28 : decode jdk_68_method_10_code 28 = .ok (.iadd, 1) := by decide +kernel
theorem opd_2 : parseMethodDescriptor "(III)I" = some ⟨[.int, .int, .int], some .int⟩ := by decide +kernel
theorem d_jdk_68_method_10_29 : decode jdk_68_method_10_code 29 = .ok (.invokestatic 114, 3) := by decide +kernel
theorem d_jdk_68_method_10_32 : decode jdk_68_method_10_code 32 = .ok (.istore 5, 2) := by decide +kernel
theorem d_jdk_68_method_10_34 : decode jdk_68_method_10_code 34 = .ok (.iload 5, 2) := by decide +kernel
theorem d_jdk_68_method_10_36 : decode jdk_68_method_10_code 36 = .ok (.ldc 39, 2) := by decide +kernel
theorem d_jdk_68_method_10_38 : decode jdk_68_method_10_code 38 = .ok (.if_icmp .ne 13, 3) := by decide +kernel
theorem d_jdk_68_method_10_51 : decode jdk_68_method_10_code 51 = .ok (.iload 5, 2) := by decide +kernel
theorem d_jdk_68_method_10_53 : decode jdk_68_method_10_code 53 = .ok (.aload_n 0, 1) := by decide +kernel
theorem d_jdk_68_method_10_54 : decode jdk_68_method_10_code 54 = .ok (.getfield 22, 3) := by decide +kernel
theorem d_jdk_68_method_10_57 : decode jdk_68_method_10_code 57 = .ok (.ishr, 1) := by decide +kernel
theorem d_jdk_68_method_10_58 : decode jdk_68_method_10_code 58 = .ok (.ireturn, 1) := by decide +kernel
theorem opl_rm_newCap : plainFor (⟨"java/lang/AbstractStringBuilder", "newCapacity", "(I)I"⟩ : MethodName) = true := plainFor_of_name (by first | (simp [plainName, overriddenIn]; done) | decide +kernel)
set_option maxRecDepth 65536 in
set_option maxHeartbeats 40000000 in
theorem rm_newCap (l : Launch) (Z : State) (a0 : Array Value) (hw : ∀ d ∈ tables_1, d.before a0 Z = true) (ws : List Jvm.Cond) (b d : Addr) (k : ClassId) (zn : Nat) (bs : List Value) (nd : Nat) (zc : Int32) (wf : Value) (n0 : Nat) (h0 : Heap) (SS : own_SS Z zc wf) (O : Old Z n0 h0) (J : SBI Z h0 b d k (Int32.ofNat zn) bs) (hzn : zn ≤ 112) (hbz : bs.length ≤ zn) (hnd : nd ≤ 112) (hlt : zn < nd) :
    Con l Z (⟨"java/lang/AbstractStringBuilder", "newCapacity", "(I)I"⟩ : MethodName) jdk_68_method_10_code 6 (some .int) ws ({ frames := 2, cells := 0, slots := 0, locals := 29 } : Room) #[(.ref b), (.int (Int32.ofNat nd))] h0 (fun v h L => v = some (.int (Int32.ofNat (own_cap zn nd))) ∧ L = [] ∧ h = h0) := by
  refine Con.intro opl_rm_newCap ?_
  intro p e s m below meth c s₁ hx hby hml hown hret hlk hZ hnm X0 e0
  have SS' := SS
  obtain ⟨hzc, SC, hwf, SF⟩ := SS
  have Z0 : n0 ≤ h0.size := O.1 ▸ O.2.1
  have N0 := Fr.nil n0
  obtain ⟨JE, JF, JC, JN, JV, JX⟩ := J
  refine OGo.cast (g' := (mkF m 0 #[.val (.ref b), .val (.int (Int32.ofNat nd)), .unset, .unset, .unset, .unset] [])) (by first | (simp [entryFrame, mkF, argsToLocals, Value.category]; done) | rfl) ?_
  show OGo p e below _ s₁ (mkF m 0 #[.val (.ref b), .val (.int (Int32.ofNat nd)), .unset, .unset, .unset, .unset] [])
  refine OGo.step (fun _ k => XS.aloadN X0.here hx rfl (hb hby d_jdk_68_method_10_0) rfl rfl k) ?_
  show OGo p e below _ s₁ (mkF m 1 #[.val (.ref b), .val (.int (Int32.ofNat nd)), .unset, .unset, .unset, .unset] [(.ref b)])
  obtain ⟨T6, X6, e6, st6⟩ := getF X0 hx hZ hown (host := "") (Or.inl (hw _ (List.mem_of_getElem? (i := 62) rfl))) Via.refl e0 JF (g := (mkF m 1 #[.val (.ref b), .val (.int (Int32.ofNat nd)), .unset, .unset, .unset, .unset] [(.ref b)])) rfl rfl (hb hby d_jdk_68_method_10_1)
  refine OGo.step st6 ?_
  show OGo p e below _ T6 (mkF m 4 #[.val (.ref b), .val (.int (Int32.ofNat nd)), .unset, .unset, .unset, .unset] [(.ref d)])
  refine OGo.step (fun _ k => alenV X6 hx hZ e6 JV (g := (mkF m 4 #[.val (.ref b), .val (.int (Int32.ofNat nd)), .unset, .unset, .unset, .unset] [(.ref d)])) rfl rfl (hb hby d_jdk_68_method_10_4) _ k) ?_
  show OGo p e below _ T6 (mkF m 5 #[.val (.ref b), .val (.int (Int32.ofNat nd)), .unset, .unset, .unset, .unset] [(.int (Int32.ofNat zn))])
  refine OGo.step (fun _ k => XS.istoreN X6.here hx rfl (hb hby d_jdk_68_method_10_5) rfl (l' := #[.val (.ref b), .val (.int (Int32.ofNat nd)), .val (.int (Int32.ofNat zn)), .unset, .unset, .unset]) rfl k) ?_
  show OGo p e below _ T6 (mkF m 6 #[.val (.ref b), .val (.int (Int32.ofNat nd)), .val (.int (Int32.ofNat zn)), .unset, .unset, .unset] [])
  refine OGo.step (fun _ k => XS.iloadN X6.here hx rfl (hb hby d_jdk_68_method_10_6) rfl k) ?_
  show OGo p e below _ T6 (mkF m 7 #[.val (.ref b), .val (.int (Int32.ofNat nd)), .val (.int (Int32.ofNat zn)), .unset, .unset, .unset] [(.int (Int32.ofNat nd))])
  refine OGo.step (fun _ k => XS.aloadN X6.here hx rfl (hb hby d_jdk_68_method_10_7) rfl rfl k) ?_
  show OGo p e below _ T6 (mkF m 8 #[.val (.ref b), .val (.int (Int32.ofNat nd)), .val (.int (Int32.ofNat zn)), .unset, .unset, .unset] [(.ref b), (.int (Int32.ofNat nd))])
  obtain ⟨T7, X7, e7, st7⟩ := getF X6 hx hZ hown (host := "") (Or.inl (hw _ (List.mem_of_getElem? (i := 64) rfl))) Via.refl e6 JC (g := (mkF m 8 #[.val (.ref b), .val (.int (Int32.ofNat nd)), .val (.int (Int32.ofNat zn)), .unset, .unset, .unset] [(.ref b), (.int (Int32.ofNat nd))])) rfl rfl (hb hby d_jdk_68_method_10_8)
  refine OGo.step st7 ?_
  show OGo p e below _ T7 (mkF m 11 #[.val (.ref b), .val (.int (Int32.ofNat nd)), .val (.int (Int32.ofNat zn)), .unset, .unset, .unset] [(.int (0 : Int32)), (.int (Int32.ofNat nd))])
  refine OGo.step (fun _ k => XS.ishl X7.here hx rfl (hb hby d_jdk_68_method_10_11) rfl k) ?_
  show OGo p e below _ T7 (mkF m 12 #[.val (.ref b), .val (.int (Int32.ofNat nd)), .val (.int (Int32.ofNat zn)), .unset, .unset, .unset] [(.int ((Int32.ofNat nd) <<< ((0 : Int32) &&& 31)))])
  rw [own_shl0]
  show OGo p e below _ T7 (mkF m 12 #[.val (.ref b), .val (.int (Int32.ofNat nd)), .val (.int (Int32.ofNat zn)), .unset, .unset, .unset] [(.int (Int32.ofNat nd))])
  refine OGo.step (fun _ k => XS.istoreN X7.here hx rfl (hb hby d_jdk_68_method_10_12) rfl (l' := #[.val (.ref b), .val (.int (Int32.ofNat nd)), .val (.int (Int32.ofNat zn)), .val (.int (Int32.ofNat nd)), .unset, .unset]) rfl k) ?_
  show OGo p e below _ T7 (mkF m 13 #[.val (.ref b), .val (.int (Int32.ofNat nd)), .val (.int (Int32.ofNat zn)), .val (.int (Int32.ofNat nd)), .unset, .unset] [])
  refine OGo.step (fun _ k => XS.iloadN X7.here hx rfl (hb hby d_jdk_68_method_10_13) rfl k) ?_
  show OGo p e below _ T7 (mkF m 14 #[.val (.ref b), .val (.int (Int32.ofNat nd)), .val (.int (Int32.ofNat zn)), .val (.int (Int32.ofNat nd)), .unset, .unset] [(.int (Int32.ofNat nd))])
  refine OGo.step (fun _ k => XS.iloadN X7.here hx rfl (hb hby d_jdk_68_method_10_14) rfl k) ?_
  show OGo p e below _ T7 (mkF m 15 #[.val (.ref b), .val (.int (Int32.ofNat nd)), .val (.int (Int32.ofNat zn)), .val (.int (Int32.ofNat nd)), .unset, .unset] [(.int (Int32.ofNat zn)), (.int (Int32.ofNat nd))])
  refine OGo.step (fun _ k => XS.isub X7.here hx rfl (hb hby d_jdk_68_method_10_15) rfl k) ?_
  show OGo p e below _ T7 (mkF m 16 #[.val (.ref b), .val (.int (Int32.ofNat nd)), .val (.int (Int32.ofNat zn)), .val (.int (Int32.ofNat nd)), .unset, .unset] [(.int ((Int32.ofNat nd) - (Int32.ofNat zn)))])
  rw [own_subn (Nat.le_of_lt hlt) (by omega)]
  show OGo p e below _ T7 (mkF m 16 #[.val (.ref b), .val (.int (Int32.ofNat nd)), .val (.int (Int32.ofNat zn)), .val (.int (Int32.ofNat nd)), .unset, .unset] [(.int (Int32.ofNat (nd - zn)))])
  refine OGo.step (fun _ k => XS.istore X7.here hx rfl (hb hby d_jdk_68_method_10_16) rfl (l' := #[.val (.ref b), .val (.int (Int32.ofNat nd)), .val (.int (Int32.ofNat zn)), .val (.int (Int32.ofNat nd)), .val (.int (Int32.ofNat (nd - zn))), .unset]) rfl k) ?_
  show OGo p e below _ T7 (mkF m 18 #[.val (.ref b), .val (.int (Int32.ofNat nd)), .val (.int (Int32.ofNat zn)), .val (.int (Int32.ofNat nd)), .val (.int (Int32.ofNat (nd - zn))), .unset] [])
  refine OGo.step (fun _ k => XS.iloadN X7.here hx rfl (hb hby d_jdk_68_method_10_18) rfl k) ?_
  show OGo p e below _ T7 (mkF m 19 #[.val (.ref b), .val (.int (Int32.ofNat nd)), .val (.int (Int32.ofNat zn)), .val (.int (Int32.ofNat nd)), .val (.int (Int32.ofNat (nd - zn))), .unset] [(.int (Int32.ofNat zn))])
  refine OGo.step (fun _ k => XS.iload X7.here hx rfl (hb hby d_jdk_68_method_10_19) rfl k) ?_
  show OGo p e below _ T7 (mkF m 21 #[.val (.ref b), .val (.int (Int32.ofNat nd)), .val (.int (Int32.ofNat zn)), .val (.int (Int32.ofNat nd)), .val (.int (Int32.ofNat (nd - zn))), .unset] [(.int (Int32.ofNat (nd - zn))), (.int (Int32.ofNat zn))])
  refine OGo.step (fun _ k => XS.iloadN X7.here hx rfl (hb hby d_jdk_68_method_10_21) rfl k) ?_
  show OGo p e below _ T7 (mkF m 22 #[.val (.ref b), .val (.int (Int32.ofNat nd)), .val (.int (Int32.ofNat zn)), .val (.int (Int32.ofNat nd)), .val (.int (Int32.ofNat (nd - zn))), .unset] [(.int (Int32.ofNat zn)), (.int (Int32.ofNat (nd - zn))), (.int (Int32.ofNat zn))])
  refine OGo.step (fun _ k => XS.iconst X7.here hx rfl (hb hby d_jdk_68_method_10_22) k) ?_
  show OGo p e below _ T7 (mkF m 23 #[.val (.ref b), .val (.int (Int32.ofNat nd)), .val (.int (Int32.ofNat zn)), .val (.int (Int32.ofNat nd)), .val (.int (Int32.ofNat (nd - zn))), .unset] [(.int (2 : Int32)), (.int (Int32.ofNat zn)), (.int (Int32.ofNat (nd - zn))), (.int (Int32.ofNat zn))])
  refine OGo.step (fun _ k => XS.aloadN X7.here hx rfl (hb hby d_jdk_68_method_10_23) rfl rfl k) ?_
  show OGo p e below _ T7 (mkF m 24 #[.val (.ref b), .val (.int (Int32.ofNat nd)), .val (.int (Int32.ofNat zn)), .val (.int (Int32.ofNat nd)), .val (.int (Int32.ofNat (nd - zn))), .unset] [(.ref b), (.int (2 : Int32)), (.int (Int32.ofNat zn)), (.int (Int32.ofNat (nd - zn))), (.int (Int32.ofNat zn))])
  obtain ⟨T8, X8, e8, st8⟩ := getF X7 hx hZ hown (host := "") (Or.inl (hw _ (List.mem_of_getElem? (i := 64) rfl))) Via.refl e7 JC (g := (mkF m 24 #[.val (.ref b), .val (.int (Int32.ofNat nd)), .val (.int (Int32.ofNat zn)), .val (.int (Int32.ofNat nd)), .val (.int (Int32.ofNat (nd - zn))), .unset] [(.ref b), (.int (2 : Int32)), (.int (Int32.ofNat zn)), (.int (Int32.ofNat (nd - zn))), (.int (Int32.ofNat zn))])) rfl rfl (hb hby d_jdk_68_method_10_24)
  refine OGo.step st8 ?_
  show OGo p e below _ T8 (mkF m 27 #[.val (.ref b), .val (.int (Int32.ofNat nd)), .val (.int (Int32.ofNat zn)), .val (.int (Int32.ofNat nd)), .val (.int (Int32.ofNat (nd - zn))), .unset] [(.int (0 : Int32)), (.int (2 : Int32)), (.int (Int32.ofNat zn)), (.int (Int32.ofNat (nd - zn))), (.int (Int32.ofNat zn))])
  refine OGo.step (fun _ k => XS.ishl X8.here hx rfl (hb hby d_jdk_68_method_10_27) rfl k) ?_
  show OGo p e below _ T8 (mkF m 28 #[.val (.ref b), .val (.int (Int32.ofNat nd)), .val (.int (Int32.ofNat zn)), .val (.int (Int32.ofNat nd)), .val (.int (Int32.ofNat (nd - zn))), .unset] [(.int ((2 : Int32) <<< ((0 : Int32) &&& 31))), (.int (Int32.ofNat zn)), (.int (Int32.ofNat (nd - zn))), (.int (Int32.ofNat zn))])
  rw [own_shl0b]
  show OGo p e below _ T8 (mkF m 28 #[.val (.ref b), .val (.int (Int32.ofNat nd)), .val (.int (Int32.ofNat zn)), .val (.int (Int32.ofNat nd)), .val (.int (Int32.ofNat (nd - zn))), .unset] [(.int (2 : Int32)), (.int (Int32.ofNat zn)), (.int (Int32.ofNat (nd - zn))), (.int (Int32.ofNat zn))])
  refine OGo.step (fun _ k => XS.iadd X8.here hx rfl (hb hby d_jdk_68_method_10_28) rfl k) ?_
  show OGo p e below _ T8 (mkF m 29 #[.val (.ref b), .val (.int (Int32.ofNat nd)), .val (.int (Int32.ofNat zn)), .val (.int (Int32.ofNat nd)), .val (.int (Int32.ofNat (nd - zn))), .unset] [(.int ((Int32.ofNat zn) + (2 : Int32))), (.int (Int32.ofNat (nd - zn))), (.int (Int32.ofNat zn))])
  rw [own_addk]
  show OGo p e below _ T8 (mkF m 29 #[.val (.ref b), .val (.int (Int32.ofNat nd)), .val (.int (Int32.ofNat zn)), .val (.int (Int32.ofNat nd)), .val (.int (Int32.ofNat (nd - zn))), .unset] [(.int (Int32.ofNat (zn + 2))), (.int (Int32.ofNat (nd - zn))), (.int (Int32.ofNat zn))])
  obtain ⟨v9, T9, L9, X9, hQ9, st9⟩ := scall X8 hx hZ hown (hw _ (List.mem_of_getElem? (i := 101) rfl)) (hw _ (List.mem_of_getElem? (i := 102) rfl)) (hw _ (List.mem_of_getElem? (i := 103) rfl)) (hw _ (List.mem_of_getElem? (i := 104) rfl)) (by decide) (W := 0) (rm_newLen l Z a0 hw [] zn (nd - zn) (zn + 2) h0 (by omega) (by omega) (by omega) (by omega)) e8 (by decide) (by decide) (by decide) (by decide) (g := (mkF m 29 #[.val (.ref b), .val (.int (Int32.ofNat nd)), .val (.int (Int32.ofNat zn)), .val (.int (Int32.ofNat nd)), .val (.int (Int32.ofNat (nd - zn))), .unset] [(.int (Int32.ofNat (zn + 2))), (.int (Int32.ofNat (nd - zn))), (.int (Int32.ofNat zn))])) rfl (by rw [hml]; rfl) (argsL := [(.int (Int32.ofNat zn)), (.int (Int32.ofNat (nd - zn))), (.int (Int32.ofNat (zn + 2)))]) (rest := []) opd_2 rfl rfl rfl (by show 2 * 0 + _ ≤ _; exact Nat.le_of_eq rfl) (hb hby d_jdk_68_method_10_29)
  obtain ⟨rfl, rfl, e9⟩ := hQ9
  rw [List.append_nil] at X9
  refine OGo.step st9 ?_
  show OGo p e below _ T9 (mkF m 32 #[.val (.ref b), .val (.int (Int32.ofNat nd)), .val (.int (Int32.ofNat zn)), .val (.int (Int32.ofNat nd)), .val (.int (Int32.ofNat (nd - zn))), .unset] [(.int (Int32.ofNat (zn + max (nd - zn) (zn + 2))))])
  have hcp : zn + max (nd - zn) (zn + 2) = own_cap zn nd := by unfold own_cap; rw [if_neg (by omega)]; omega
  rw [hcp]
  show OGo p e below _ T9 (mkF m 32 #[.val (.ref b), .val (.int (Int32.ofNat nd)), .val (.int (Int32.ofNat zn)), .val (.int (Int32.ofNat nd)), .val (.int (Int32.ofNat (nd - zn))), .unset] [(.int (Int32.ofNat (own_cap zn nd)))])
  have hcb : own_cap zn nd ≤ 226 := by rw [← hcp]; omega
  refine OGo.step (fun _ k => XS.istore X9.here hx rfl (hb hby d_jdk_68_method_10_32) rfl (l' := #[.val (.ref b), .val (.int (Int32.ofNat nd)), .val (.int (Int32.ofNat zn)), .val (.int (Int32.ofNat nd)), .val (.int (Int32.ofNat (nd - zn))), .val (.int (Int32.ofNat (own_cap zn nd)))]) rfl k) ?_
  show OGo p e below _ T9 (mkF m 34 #[.val (.ref b), .val (.int (Int32.ofNat nd)), .val (.int (Int32.ofNat zn)), .val (.int (Int32.ofNat nd)), .val (.int (Int32.ofNat (nd - zn))), .val (.int (Int32.ofNat (own_cap zn nd)))] [])
  refine OGo.step (fun _ k => XS.iload X9.here hx rfl (hb hby d_jdk_68_method_10_34) rfl k) ?_
  show OGo p e below _ T9 (mkF m 36 #[.val (.ref b), .val (.int (Int32.ofNat nd)), .val (.int (Int32.ofNat zn)), .val (.int (Int32.ofNat nd)), .val (.int (Int32.ofNat (nd - zn))), .val (.int (Int32.ofNat (own_cap zn nd)))] [(.int (Int32.ofNat (own_cap zn nd)))])
  refine OGo.step (fun _ k => Jvm.Stand.ldcI X9 hx hown (mvT hZ (hw _ (List.mem_of_getElem? (i := 110) rfl))) rfl (hb hby d_jdk_68_method_10_36) k) ?_
  show OGo p e below _ T9 (mkF m 38 #[.val (.ref b), .val (.int (Int32.ofNat nd)), .val (.int (Int32.ofNat zn)), .val (.int (Int32.ofNat nd)), .val (.int (Int32.ofNat (nd - zn))), .val (.int (Int32.ofNat (own_cap zn nd)))] [(.int (2147483647 : Int32)), (.int (Int32.ofNat (own_cap zn nd)))])
  refine OGo.step (fun _ k => XS.icmpYes X9.here hx rfl (pc0 := 38) (pc' := 51) rfl (hb hby d_jdk_68_method_10_38) rfl (feq (fun q => absurd (congrArg Int32.toInt q) (by rw [own_toInt (by omega)]; show ¬ ((own_cap zn nd : Nat) : Int) = 2147483647; omega))).2 (by decide) (by decide) k) ?_
  show OGo p e below _ T9 (mkF m 51 #[.val (.ref b), .val (.int (Int32.ofNat nd)), .val (.int (Int32.ofNat zn)), .val (.int (Int32.ofNat nd)), .val (.int (Int32.ofNat (nd - zn))), .val (.int (Int32.ofNat (own_cap zn nd)))] [])
  refine OGo.step (fun _ k => XS.iload X9.here hx rfl (hb hby d_jdk_68_method_10_51) rfl k) ?_
  show OGo p e below _ T9 (mkF m 53 #[.val (.ref b), .val (.int (Int32.ofNat nd)), .val (.int (Int32.ofNat zn)), .val (.int (Int32.ofNat nd)), .val (.int (Int32.ofNat (nd - zn))), .val (.int (Int32.ofNat (own_cap zn nd)))] [(.int (Int32.ofNat (own_cap zn nd)))])
  refine OGo.step (fun _ k => XS.aloadN X9.here hx rfl (hb hby d_jdk_68_method_10_53) rfl rfl k) ?_
  show OGo p e below _ T9 (mkF m 54 #[.val (.ref b), .val (.int (Int32.ofNat nd)), .val (.int (Int32.ofNat zn)), .val (.int (Int32.ofNat nd)), .val (.int (Int32.ofNat (nd - zn))), .val (.int (Int32.ofNat (own_cap zn nd)))] [(.ref b), (.int (Int32.ofNat (own_cap zn nd)))])
  obtain ⟨T10, X10, e10, st10⟩ := getF X9 hx hZ hown (host := "") (Or.inl (hw _ (List.mem_of_getElem? (i := 64) rfl))) Via.refl e9 JC (g := (mkF m 54 #[.val (.ref b), .val (.int (Int32.ofNat nd)), .val (.int (Int32.ofNat zn)), .val (.int (Int32.ofNat nd)), .val (.int (Int32.ofNat (nd - zn))), .val (.int (Int32.ofNat (own_cap zn nd)))] [(.ref b), (.int (Int32.ofNat (own_cap zn nd)))])) rfl rfl (hb hby d_jdk_68_method_10_54)
  refine OGo.step st10 ?_
  show OGo p e below _ T10 (mkF m 57 #[.val (.ref b), .val (.int (Int32.ofNat nd)), .val (.int (Int32.ofNat zn)), .val (.int (Int32.ofNat nd)), .val (.int (Int32.ofNat (nd - zn))), .val (.int (Int32.ofNat (own_cap zn nd)))] [(.int (0 : Int32)), (.int (Int32.ofNat (own_cap zn nd)))])
  refine OGo.step (fun _ k => XS.ishr X10.here hx rfl (hb hby d_jdk_68_method_10_57) rfl k) ?_
  show OGo p e below _ T10 (mkF m 58 #[.val (.ref b), .val (.int (Int32.ofNat nd)), .val (.int (Int32.ofNat zn)), .val (.int (Int32.ofNat nd)), .val (.int (Int32.ofNat (nd - zn))), .val (.int (Int32.ofNat (own_cap zn nd)))] [(.int ((Int32.ofNat (own_cap zn nd)) >>> ((0 : Int32) &&& 31)))])
  rw [own_shr0]
  show OGo p e below _ T10 (mkF m 58 #[.val (.ref b), .val (.int (Int32.ofNat nd)), .val (.int (Int32.ofNat zn)), .val (.int (Int32.ofNat nd)), .val (.int (Int32.ofNat (nd - zn))), .val (.int (Int32.ofNat (own_cap zn nd)))] [(.int (Int32.ofNat (own_cap zn nd)))])
  exact OGo.ret X10 hx (t := .int) hret hlk rfl (Or.inl ⟨rfl, by simp, _, rfl⟩) (hb hby d_jdk_68_method_10_58) (by decide) (by decide) ⟨rfl, rfl, e10⟩
theorem d_jdk_65_method_121_0 : decode jdk_65_method_121_code 0 = .ok (.iload_n 1, 1) := by decide +kernel
theorem d_jdk_65_method_121_1 : decode jdk_65_method_121_code 1 = .ok (.aload_n 0, 1) := by decide +kernel
theorem d_jdk_65_method_121_2 : decode jdk_65_method_121_code 2 = .ok (.arraylength, 1) := by decide +kernel
theorem d_jdk_65_method_121_3 : decode jdk_65_method_121_code 3 = .ok (.if_icmp .ne 11, 3) := by decide +kernel
theorem d_jdk_65_method_121_14 : decode jdk_65_method_121_code 14 = .ok (.iload_n 1, 1) := by decide +kernel
theorem d_jdk_65_method_121_15 : decode jdk_65_method_121_code 15 = .ok (.newarray .byte, 2) := by decide +kernel
theorem d_jdk_65_method_121_17 : decode jdk_65_method_121_code 17 = .ok (.astore_n 2, 1) := by decide +kernel
theorem d_jdk_65_method_121_18 : decode jdk_65_method_121_code 18 = .ok (.aload_n 0, 1) := by decide +kernel
theorem d_jdk_65_method_121_19 : decode jdk_65_method_121_code 19 = .ok (.iconst 0, 1) := by decide +kernel
theorem d_jdk_65_method_121_20 : decode jdk_65_method_121_code 20 = .ok (.aload_n 2, 1) := by decide +kernel
theorem d_jdk_65_method_121_21 : decode jdk_65_method_121_code 21 = .ok (.iconst 0, 1) := by decide +kernel
theorem d_jdk_65_method_121_22 : decode jdk_65_method_121_code 22 = .ok (.aload_n 0, 1) := by decide +kernel
theorem d_jdk_65_method_121_23 : decode jdk_65_method_121_code 23 = .ok (.arraylength, 1) := by decide +kernel
theorem d_jdk_65_method_121_24 : decode jdk_65_method_121_code 24 = .ok (.iload_n 1, 1) := by decide +kernel
theorem d_jdk_65_method_121_25 : decode jdk_65_method_121_code 25 = .ok (.invokestatic 304, 3) := by decide +kernel
theorem d_jdk_65_method_121_28 : decode jdk_65_method_121_code 28 = .ok (.invokestatic 150, 3) := by decide +kernel
theorem d_jdk_65_method_121_31 : decode jdk_65_method_121_code 31 = .ok (.aload_n 2, 1) := by decide +kernel
theorem d_jdk_65_method_121_32 : decode jdk_65_method_121_code 32 = .ok (.areturn, 1) := by decide +kernel
theorem opl_rm_copyOf : plainFor (⟨"java/util/Arrays", "copyOf", "([BI)[B"⟩ : MethodName) = true := plainFor_of_name (by first | (simp [plainName, overriddenIn]; done) | decide +kernel)
set_option maxRecDepth 65536 in
set_option maxHeartbeats 40000000 in
theorem rm_copyOf (l : Launch) (Z : State) (a0 : Array Value) (hw : ∀ d ∈ tables_1, d.before a0 Z = true) (ws : List Jvm.Cond) (d : Addr) (k : ClassId) (zn n : Nat) (bs : List Value) (zc : Int32) (wf : Value) (n0 : Nat) (h0 : Heap) (SS : own_SS Z zc wf) (O : Old Z n0 h0) (V : Arv Z h0 d k .byte (Int32.ofNat zn) bs (.int (0 : Int32))) (hzn : zn ≤ 112) (hnc : n ≤ 226) (hlt : zn < n) (hbz : bs.length ≤ zn) :
    Con l Z (⟨"java/util/Arrays", "copyOf", "([BI)[B"⟩ : MethodName) jdk_65_method_121_code 3 (some (.array .byte)) ws ({ frames := 1, cells := 1, slots := 226, locals := 29 } : Room) #[(.ref d), (.int (Int32.ofNat n))] h0 (fun v h L => ∃ r k', v = some (.ref r) ∧ h0.size ≤ r ∧ Fr n0 L ∧ Keep h0 h [] ∧ Arv Z h r k' .byte (Int32.ofNat n) bs (.int (0 : Int32)) ∧ Exa Z h r "[B") := by
  refine Con.intro opl_rm_copyOf ?_
  intro p e s m below meth c s₁ hx hby hml hown hret hlk hZ hnm X0 e0
  obtain ⟨hzc, SC, hwf, SF⟩ := SS
  have Z0 : n0 ≤ h0.size := O.1 ▸ O.2.1
  have N0 := Fr.nil n0
  refine OGo.cast (g' := (mkF m 0 #[.val (.ref d), .val (.int (Int32.ofNat n)), .unset] [])) (by first | (simp [entryFrame, mkF, argsToLocals, Value.category]; done) | rfl) ?_
  show OGo p e below _ s₁ (mkF m 0 #[.val (.ref d), .val (.int (Int32.ofNat n)), .unset] [])
  refine OGo.step (fun _ k => XS.iloadN X0.here hx rfl (hb hby d_jdk_65_method_121_0) rfl k) ?_
  show OGo p e below _ s₁ (mkF m 1 #[.val (.ref d), .val (.int (Int32.ofNat n)), .unset] [(.int (Int32.ofNat n))])
  refine OGo.step (fun _ k => XS.aloadN X0.here hx rfl (hb hby d_jdk_65_method_121_1) rfl rfl k) ?_
  show OGo p e below _ s₁ (mkF m 2 #[.val (.ref d), .val (.int (Int32.ofNat n)), .unset] [(.ref d), (.int (Int32.ofNat n))])
  refine OGo.step (fun _ k => alenV X0 hx hZ e0 V (g := (mkF m 2 #[.val (.ref d), .val (.int (Int32.ofNat n)), .unset] [(.ref d), (.int (Int32.ofNat n))])) rfl rfl (hb hby d_jdk_65_method_121_2) _ k) ?_
  show OGo p e below _ s₁ (mkF m 3 #[.val (.ref d), .val (.int (Int32.ofNat n)), .unset] [(.int (Int32.ofNat zn)), (.int (Int32.ofNat n))])
  refine OGo.step (fun _ k => XS.icmpYes X0.here hx rfl (pc0 := 3) (pc' := 14) rfl (hb hby d_jdk_65_method_121_3) rfl (feq (fun q => absurd ((own_lt (by omega) (by omega)).mpr hlt) (by rw [q]; exact Int32.lt_irrefl))).2 (by decide) (by decide) k) ?_
  show OGo p e below _ s₁ (mkF m 14 #[.val (.ref d), .val (.int (Int32.ofNat n)), .unset] [])
  refine OGo.step (fun _ k => XS.iloadN X0.here hx rfl (hb hby d_jdk_65_method_121_14) rfl k) ?_
  show OGo p e below _ s₁ (mkF m 15 #[.val (.ref d), .val (.int (Int32.ofNat n)), .unset] [(.int (Int32.ofNat n))])
  obtain ⟨T11, h11, k11, X11, e11, E11, A11, AE11, st11⟩ := newPE X0 hx hZ (hw _ (List.mem_of_getElem? (i := 14) rfl)) e0 (g := (mkF m 15 #[.val (.ref d), .val (.int (Int32.ofNat n)), .unset] [(.int (Int32.ofNat n))])) rfl (hb hby d_jdk_65_method_121_15) rfl (own_nn (by omega)) (cap := 226) (by rw [own_cl (by omega)]; exact hnc) (by decide) (by decide) (by decide) (ad := "[B") (by decide)
  obtain ⟨b11, g11⟩ : ∃ z, z = h0.size := ⟨_, rfl⟩
  rw [← g11] at A11 AE11 st11
  have sz_b11 : h0.size ≤ b11 := Nat.le_trans (Keep.refl h0 []).1 (Nat.le_of_eq g11.symm)
  have KK11 : Keep h0 h11 [] := (Keep.refl h0 []).ext E11
  have V11 : Arv Z h11 b11 k11 .byte (Int32.ofNat n) [] (.int (0 : Int32)) := Arv.new A11 (own_nn (by omega))
  refine OGo.step st11 ?_
  show OGo p e below _ T11 (mkF m 17 #[.val (.ref d), .val (.int (Int32.ofNat n)), .unset] [(.ref b11)])
  refine OGo.step (fun _ k => XS.astoreN X11.here hx rfl (hb hby d_jdk_65_method_121_17) rfl rfl (l' := #[.val (.ref d), .val (.int (Int32.ofNat n)), .val (.ref b11)]) rfl k) ?_
  show OGo p e below _ T11 (mkF m 18 #[.val (.ref d), .val (.int (Int32.ofNat n)), .val (.ref b11)] [])
  refine OGo.step (fun _ k => XS.aloadN X11.here hx rfl (hb hby d_jdk_65_method_121_18) rfl rfl k) ?_
  show OGo p e below _ T11 (mkF m 19 #[.val (.ref d), .val (.int (Int32.ofNat n)), .val (.ref b11)] [(.ref d)])
  refine OGo.step (fun _ k => XS.iconst X11.here hx rfl (hb hby d_jdk_65_method_121_19) k) ?_
  show OGo p e below _ T11 (mkF m 20 #[.val (.ref d), .val (.int (Int32.ofNat n)), .val (.ref b11)] [(.int (0 : Int32)), (.ref d)])
  refine OGo.step (fun _ k => XS.aloadN X11.here hx rfl (hb hby d_jdk_65_method_121_20) rfl rfl k) ?_
  show OGo p e below _ T11 (mkF m 21 #[.val (.ref d), .val (.int (Int32.ofNat n)), .val (.ref b11)] [(.ref b11), (.int (0 : Int32)), (.ref d)])
  refine OGo.step (fun _ k => XS.iconst X11.here hx rfl (hb hby d_jdk_65_method_121_21) k) ?_
  show OGo p e below _ T11 (mkF m 22 #[.val (.ref d), .val (.int (Int32.ofNat n)), .val (.ref b11)] [(.int (0 : Int32)), (.ref b11), (.int (0 : Int32)), (.ref d)])
  refine OGo.step (fun _ k => XS.aloadN X11.here hx rfl (hb hby d_jdk_65_method_121_22) rfl rfl k) ?_
  show OGo p e below _ T11 (mkF m 23 #[.val (.ref d), .val (.int (Int32.ofNat n)), .val (.ref b11)] [(.ref d), (.int (0 : Int32)), (.ref b11), (.int (0 : Int32)), (.ref d)])
  refine OGo.step (fun _ k => alenV X11 hx hZ e11 (V.ext E11) (g := (mkF m 23 #[.val (.ref d), .val (.int (Int32.ofNat n)), .val (.ref b11)] [(.ref d), (.int (0 : Int32)), (.ref b11), (.int (0 : Int32)), (.ref d)])) rfl rfl (hb hby d_jdk_65_method_121_23) _ k) ?_
  show OGo p e below _ T11 (mkF m 24 #[.val (.ref d), .val (.int (Int32.ofNat n)), .val (.ref b11)] [(.int (Int32.ofNat zn)), (.int (0 : Int32)), (.ref b11), (.int (0 : Int32)), (.ref d)])
  refine OGo.step (fun _ k => XS.iloadN X11.here hx rfl (hb hby d_jdk_65_method_121_24) rfl k) ?_
  show OGo p e below _ T11 (mkF m 25 #[.val (.ref d), .val (.int (Int32.ofNat n)), .val (.ref b11)] [(.int (Int32.ofNat n)), (.int (Int32.ofNat zn)), (.int (0 : Int32)), (.ref b11), (.int (0 : Int32)), (.ref d)])
  obtain ⟨v12, T12, L12, X12, hQ12, st12⟩ := scall X11 hx hZ hown (hw _ (List.mem_of_getElem? (i := 115) rfl)) (hw _ (List.mem_of_getElem? (i := 116) rfl)) (hw _ (List.mem_of_getElem? (i := 107) rfl)) (hw _ (List.mem_of_getElem? (i := 117) rfl)) (by decide) (W := 4) (rm_minA l Z a0 hw [] (Int32.ofNat zn) (Int32.ofNat n) h11 (own_gelt (by omega) (by omega) (Nat.le_of_lt hlt) |> fun h q => absurd ((own_lt (by omega) (by omega)).mp q) (by omega))) e11 (by decide) (by decide) (by decide) (by decide) (g := (mkF m 25 #[.val (.ref d), .val (.int (Int32.ofNat n)), .val (.ref b11)] [(.int (Int32.ofNat n)), (.int (Int32.ofNat zn)), (.int (0 : Int32)), (.ref b11), (.int (0 : Int32)), (.ref d)])) rfl (by rw [hml]; rfl) (argsL := [(.int (Int32.ofNat zn)), (.int (Int32.ofNat n))]) (rest := [(.int (0 : Int32)), (.ref b11), (.int (0 : Int32)), (.ref d)]) opd_1 rfl rfl rfl (by show 2 * 0 + _ ≤ _; exact Nat.le_of_eq rfl) (hb hby d_jdk_65_method_121_25)
  obtain ⟨rfl, rfl, e12⟩ := hQ12
  rw [List.append_nil] at X12
  refine OGo.step st12 ?_
  show OGo p e below _ T12 (mkF m 28 #[.val (.ref d), .val (.int (Int32.ofNat n)), .val (.ref b11)] [(.int (Int32.ofNat zn)), (.int (0 : Int32)), (.ref b11), (.int (0 : Int32)), (.ref d)])
  have hl : (bs ++ List.replicate (zn - bs.length) (Value.int (0 : Int32))).length = zn := by rw [List.length_append, List.length_replicate]; omega
  have Vp : Arv Z h11 d k .byte (Int32.ofNat zn) (bs ++ List.replicate (zn - bs.length) (Value.int (0 : Int32))) (.int (0 : Int32)) := (V.ext E11).pad (pad_rep _ _ _)
  obtain ⟨T13, h13, L13, X13, e13, N13, K13, V13, st13⟩ := own_cp X12 hx hZ hown (hw _ (List.mem_of_getElem? (i := 118) rfl)) (hw _ (List.mem_of_getElem? (i := 121) rfl)) (hw _ (List.mem_of_getElem? (i := 119) rfl)) (hw _ (List.mem_of_getElem? (i := 120) rfl)) e12 Vp V11 (by rw [hl, own_cl (by omega)]; exact Nat.le_refl _) (by rw [hl, own_cl (by omega)]; show 0 + zn ≤ n; omega) (by rw [hl]; omega) (by decide) N0 (Nat.le_trans Z0 sz_b11) (g := (mkF m 28 #[.val (.ref d), .val (.int (Int32.ofNat n)), .val (.ref b11)] [(.int (Int32.ofNat zn)), (.int (0 : Int32)), (.ref b11), (.int (0 : Int32)), (.ref d)])) rfl (by rw [hml]; rfl) (rest := []) (by rw [hl]; rfl) (hb hby d_jdk_65_method_121_28) (by decide) (W := 0) (by show 2 * 0 + _ ≤ _; exact Nat.le_of_eq rfl) (by decide)
  have KK13 : Keep h0 h13 [] := KK11.trans K13 (allS (Or.inr sz_b11) all0)
  refine OGo.step st13 ?_
  show OGo p e below _ T13 (mkF m 31 #[.val (.ref d), .val (.int (Int32.ofNat n)), .val (.ref b11)] [])
  refine OGo.step (fun _ k => XS.aloadN X13.here hx rfl (hb hby d_jdk_65_method_121_31) rfl rfl k) ?_
  show OGo p e below _ T13 (mkF m 32 #[.val (.ref d), .val (.int (Int32.ofNat n)), .val (.ref b11)] [(.ref b11)])
  have Vf : Arv Z h13 b11 k11 .byte (Int32.ofNat n) bs (.int (0 : Int32)) := Arv.pad V13 (fun i => (pad_rep bs (.int (0 : Int32)) (zn - bs.length) i).symm)
  exact OGo.ret X13 hx (t := (.array .byte)) hret hlk rfl (Or.inr (Or.inr (Or.inr (Or.inr ⟨rfl, rfl, rfl⟩)))) (hb hby d_jdk_65_method_121_32) (by decide) (by decide) (by rw [e13]; exact ⟨b11, _, rfl, sz_b11, N13, KK13, Vf, (AE11.keep K13)⟩)
theorem d_jdk_68_method_9_0 : decode jdk_68_method_9_code 0 = .ok (.aload_n 0, 1) := by decide +kernel
theorem d_jdk_68_method_9_1 : decode jdk_68_method_9_code 1 = .ok (.getfield 15, 3) := by decide +kernel
theorem d_jdk_68_method_9_4 : decode jdk_68_method_9_code 4 = .ok (.arraylength, 1) := by decide +kernel
theorem d_jdk_68_method_9_5 : decode jdk_68_method_9_code 5 = .ok (.aload_n 0, 1) := by decide +kernel
theorem d_jdk_68_method_9_6 : decode jdk_68_method_9_code 6 = .ok (.getfield 22, 3) := by decide +kernel
theorem d_jdk_68_method_9_9 : decode jdk_68_method_9_code 9 = .ok (.ishr, 1) := by decide +kernel
theorem d_jdk_68_method_9_10 : decode jdk_68_method_9_code 10 = .ok (.istore_n 2, 1) := by decide +kernel
theorem d_jdk_68_method_9_11 : decode jdk_68_method_9_code 11 = .ok (.iload_n 1, 1) := by decide +kernel
theorem d_jdk_68_method_9_12 : decode jdk_68_method_9_code 12 = .ok (.iload_n 2, 1) := by decide +kernel
theorem d_jdk_68_method_9_13 : decode jdk_68_method_9_code 13 = .ok (.isub, 1) := by decide +kernel
theorem d_jdk_68_method_9_14 : decode jdk_68_method_9_code 14 = .ok (.ifCond .le 24, 3) := by decide +kernel
theorem d_jdk_68_method_9_17 : decode jdk_68_method_9_code 17 = .ok (.aload_n 0, 1) := by decide +kernel
theorem d_jdk_68_method_9_18 : decode jdk_68_method_9_code 18 = .ok (.aload_n 0, 1) := by decide +kernel
theorem d_jdk_68_method_9_19 : decode jdk_68_method_9_code 19 = .ok (.getfield 15, 3) := by decide +kernel
theorem d_jdk_68_method_9_22 : decode jdk_68_method_9_code 22 = .ok (.aload_n 0, 1) := by decide +kernel
theorem d_jdk_68_method_9_23 : decode jdk_68_method_9_code 23 = .ok (.iload_n 1, 1) := by decide +kernel
theorem opd_3 : parseMethodDescriptor "(I)I" = some ⟨[.int], some .int⟩ := by decide +kernel
theorem d_jdk_68_method_9_24 : decode jdk_68_method_9_code 24 = .ok (.invokevirtual 104, 3) := by decide +kernel
theorem d_jdk_68_method_9_27 : decode jdk_68_method_9_code 27 = .ok (.aload_n 0, 1) := by decide +kernel
theorem d_jdk_68_method_9_28 : decode jdk_68_method_9_code 28 = .ok (.getfield 22, 3) := by decide +kernel
theorem d_jdk_68_method_9_31 : decode jdk_68_method_9_code 31 = .ok (.ishl, 1) := by decide +kernel
theorem opd_4 : parseMethodDescriptor "([BI)[B" = some ⟨[(.array .byte), .int], some (.array .byte)⟩ := by decide +kernel
theorem d_jdk_68_method_9_32 : decode jdk_68_method_9_code 32 = .ok (.invokestatic 108, 3) := by decide +kernel
theorem d_jdk_68_method_9_35 : decode jdk_68_method_9_code 35 = .ok (.putfield 15, 3) := by decide +kernel
theorem d_jdk_68_method_9_38 : decode jdk_68_method_9_code 38 = .ok (.return_, 1) := by decide +kernel
theorem opl_rm_ensG : plainFor (⟨"java/lang/AbstractStringBuilder", "ensureCapacityInternal", "(I)V"⟩ : MethodName) = true := plainFor_of_name (by first | (simp [plainName, overriddenIn]; done) | decide +kernel)
set_option maxRecDepth 65536 in
set_option maxHeartbeats 40000000 in
theorem rm_ensG (l : Launch) (Z : State) (a0 : Array Value) (hw : ∀ d ∈ tables_1, d.before a0 Z = true) (ws : List Jvm.Cond) (b d : Addr) (k : ClassId) (zn : Nat) (bs : List Value) (nd : Nat) (zc : Int32) (wf : Value) (n0 : Nat) (h0 : Heap) (SS : own_SS Z zc wf) (O : Old Z n0 h0) (J : SBI Z h0 b d k (Int32.ofNat zn) bs) (hzn : zn ≤ 112) (hbz : bs.length ≤ zn) (hnd : nd ≤ 112) (g_b : n0 ≤ b) :
    Con l Z (⟨"java/lang/AbstractStringBuilder", "ensureCapacityInternal", "(I)V"⟩ : MethodName) jdk_68_method_9_code 3 none ws ({ frames := 3, cells := 1, slots := 226, locals := 48 } : Room) #[(.ref b), (.int (Int32.ofNat nd))] h0 (fun v h L => v = none ∧ Fr n0 L ∧ Keep h0 h [b] ∧ ∃ d' k', (d' = d ∨ h0.size ≤ d') ∧ SBI Z h b d' k' (Int32.ofNat (own_cap zn nd)) bs) := by
  refine Con.intro opl_rm_ensG ?_
  intro p e s m below meth c s₁ hx hby hml hown hret hlk hZ hnm X0 e0
  have SS' := SS
  obtain ⟨hzc, SC, hwf, SF⟩ := SS
  have Z0 : n0 ≤ h0.size := O.1 ▸ O.2.1
  have N0 := Fr.nil n0
  obtain ⟨JE, JF, JC, JN, JV, JX⟩ := J
  refine OGo.cast (g' := (mkF m 0 #[.val (.ref b), .val (.int (Int32.ofNat nd)), .unset] [])) (by first | (simp [entryFrame, mkF, argsToLocals, Value.category]; done) | rfl) ?_
  show OGo p e below _ s₁ (mkF m 0 #[.val (.ref b), .val (.int (Int32.ofNat nd)), .unset] [])
  refine OGo.step (fun _ k => XS.aloadN X0.here hx rfl (hb hby d_jdk_68_method_9_0) rfl rfl k) ?_
  show OGo p e below _ s₁ (mkF m 1 #[.val (.ref b), .val (.int (Int32.ofNat nd)), .unset] [(.ref b)])
  obtain ⟨T14, X14, e14, st14⟩ := getF X0 hx hZ hown (host := "") (Or.inl (hw _ (List.mem_of_getElem? (i := 62) rfl))) Via.refl e0 JF (g := (mkF m 1 #[.val (.ref b), .val (.int (Int32.ofNat nd)), .unset] [(.ref b)])) rfl rfl (hb hby d_jdk_68_method_9_1)
  refine OGo.step st14 ?_
  show OGo p e below _ T14 (mkF m 4 #[.val (.ref b), .val (.int (Int32.ofNat nd)), .unset] [(.ref d)])
  refine OGo.step (fun _ k => alenV X14 hx hZ e14 JV (g := (mkF m 4 #[.val (.ref b), .val (.int (Int32.ofNat nd)), .unset] [(.ref d)])) rfl rfl (hb hby d_jdk_68_method_9_4) _ k) ?_
  show OGo p e below _ T14 (mkF m 5 #[.val (.ref b), .val (.int (Int32.ofNat nd)), .unset] [(.int (Int32.ofNat zn))])
  refine OGo.step (fun _ k => XS.aloadN X14.here hx rfl (hb hby d_jdk_68_method_9_5) rfl rfl k) ?_
  show OGo p e below _ T14 (mkF m 6 #[.val (.ref b), .val (.int (Int32.ofNat nd)), .unset] [(.ref b), (.int (Int32.ofNat zn))])
  obtain ⟨T15, X15, e15, st15⟩ := getF X14 hx hZ hown (host := "") (Or.inl (hw _ (List.mem_of_getElem? (i := 64) rfl))) Via.refl e14 JC (g := (mkF m 6 #[.val (.ref b), .val (.int (Int32.ofNat nd)), .unset] [(.ref b), (.int (Int32.ofNat zn))])) rfl rfl (hb hby d_jdk_68_method_9_6)
  refine OGo.step st15 ?_
  show OGo p e below _ T15 (mkF m 9 #[.val (.ref b), .val (.int (Int32.ofNat nd)), .unset] [(.int (0 : Int32)), (.int (Int32.ofNat zn))])
  refine OGo.step (fun _ k => XS.ishr X15.here hx rfl (hb hby d_jdk_68_method_9_9) rfl k) ?_
  show OGo p e below _ T15 (mkF m 10 #[.val (.ref b), .val (.int (Int32.ofNat nd)), .unset] [(.int ((Int32.ofNat zn) >>> ((0 : Int32) &&& 31)))])
  rw [own_shr0]
  show OGo p e below _ T15 (mkF m 10 #[.val (.ref b), .val (.int (Int32.ofNat nd)), .unset] [(.int (Int32.ofNat zn))])
  refine OGo.step (fun _ k => XS.istoreN X15.here hx rfl (hb hby d_jdk_68_method_9_10) rfl (l' := #[.val (.ref b), .val (.int (Int32.ofNat nd)), .val (.int (Int32.ofNat zn))]) rfl k) ?_
  show OGo p e below _ T15 (mkF m 11 #[.val (.ref b), .val (.int (Int32.ofNat nd)), .val (.int (Int32.ofNat zn))] [])
  refine OGo.step (fun _ k => XS.iloadN X15.here hx rfl (hb hby d_jdk_68_method_9_11) rfl k) ?_
  show OGo p e below _ T15 (mkF m 12 #[.val (.ref b), .val (.int (Int32.ofNat nd)), .val (.int (Int32.ofNat zn))] [(.int (Int32.ofNat nd))])
  refine OGo.step (fun _ k => XS.iloadN X15.here hx rfl (hb hby d_jdk_68_method_9_12) rfl k) ?_
  show OGo p e below _ T15 (mkF m 13 #[.val (.ref b), .val (.int (Int32.ofNat nd)), .val (.int (Int32.ofNat zn))] [(.int (Int32.ofNat zn)), (.int (Int32.ofNat nd))])
  refine OGo.step (fun _ k => XS.isub X15.here hx rfl (hb hby d_jdk_68_method_9_13) rfl k) ?_
  show OGo p e below _ T15 (mkF m 14 #[.val (.ref b), .val (.int (Int32.ofNat nd)), .val (.int (Int32.ofNat zn))] [(.int ((Int32.ofNat nd) - (Int32.ofNat zn)))])
  by_cases q : zn < nd
  · refine OGo.step (fun _ k => XS.ifNo X15.here hx rfl (hb hby d_jdk_68_method_9_14) rfl ((if0 _ _).trans (tlt ((own_nd (by omega) (by omega)).mpr q)).2.2.2) k) ?_
    show OGo p e below _ T15 (mkF m 17 #[.val (.ref b), .val (.int (Int32.ofNat nd)), .val (.int (Int32.ofNat zn))] [])
    refine OGo.step (fun _ k => XS.aloadN X15.here hx rfl (hb hby d_jdk_68_method_9_17) rfl rfl k) ?_
    show OGo p e below _ T15 (mkF m 18 #[.val (.ref b), .val (.int (Int32.ofNat nd)), .val (.int (Int32.ofNat zn))] [(.ref b)])
    refine OGo.step (fun _ k => XS.aloadN X15.here hx rfl (hb hby d_jdk_68_method_9_18) rfl rfl k) ?_
    show OGo p e below _ T15 (mkF m 19 #[.val (.ref b), .val (.int (Int32.ofNat nd)), .val (.int (Int32.ofNat zn))] [(.ref b), (.ref b)])
    obtain ⟨T16, X16, e16, st16⟩ := getF X15 hx hZ hown (host := "") (Or.inl (hw _ (List.mem_of_getElem? (i := 62) rfl))) Via.refl e15 JF (g := (mkF m 19 #[.val (.ref b), .val (.int (Int32.ofNat nd)), .val (.int (Int32.ofNat zn))] [(.ref b), (.ref b)])) rfl rfl (hb hby d_jdk_68_method_9_19)
    refine OGo.step st16 ?_
    show OGo p e below _ T16 (mkF m 22 #[.val (.ref b), .val (.int (Int32.ofNat nd)), .val (.int (Int32.ofNat zn))] [(.ref d), (.ref b)])
    refine OGo.step (fun _ k => XS.aloadN X16.here hx rfl (hb hby d_jdk_68_method_9_22) rfl rfl k) ?_
    show OGo p e below _ T16 (mkF m 23 #[.val (.ref b), .val (.int (Int32.ofNat nd)), .val (.int (Int32.ofNat zn))] [(.ref b), (.ref d), (.ref b)])
    refine OGo.step (fun _ k => XS.iloadN X16.here hx rfl (hb hby d_jdk_68_method_9_23) rfl k) ?_
    show OGo p e below _ T16 (mkF m 24 #[.val (.ref b), .val (.int (Int32.ofNat nd)), .val (.int (Int32.ofNat zn))] [(.int (Int32.ofNat nd)), (.ref b), (.ref d), (.ref b)])
    obtain ⟨v17, T17, L17, X17, hQ17, st17⟩ := pcall X16 hx hZ hown (hw _ (List.mem_of_getElem? (i := 96) rfl)) (hw _ (List.mem_of_getElem? (i := 97) rfl)) (hw _ (List.mem_of_getElem? (i := 99) rfl)) (hw _ (List.mem_of_getElem? (i := 98) rfl)) (hw _ (List.mem_of_getElem? (i := 58) rfl)) (hw _ (List.mem_of_getElem? (i := 100) rfl)) (by decide) (W := 2) (rm_newCap l Z a0 hw [] b d k zn bs nd zc wf n0 h0 SS' O ⟨JE, JF, JC, JN, JV, JX⟩ hzn hbz hnd q) e16 (by decide) (by decide) (by decide) (by decide) (g := (mkF m 24 #[.val (.ref b), .val (.int (Int32.ofNat nd)), .val (.int (Int32.ofNat zn))] [(.int (Int32.ofNat nd)), (.ref b), (.ref d), (.ref b)])) rfl (by rw [hml]; rfl) JE (argsL := [(.int (Int32.ofNat nd))]) (rest := [(.ref d), (.ref b)]) opd_3 rfl rfl rfl (by show 2 * 0 + _ ≤ _; exact Nat.le_of_eq rfl) (hb hby d_jdk_68_method_9_24)
    obtain ⟨rfl, rfl, e17⟩ := hQ17
    rw [List.append_nil] at X17
    refine OGo.step st17 ?_
    show OGo p e below _ T17 (mkF m 27 #[.val (.ref b), .val (.int (Int32.ofNat nd)), .val (.int (Int32.ofNat zn))] [(.int (Int32.ofNat (own_cap zn nd))), (.ref d), (.ref b)])
    refine OGo.step (fun _ k => XS.aloadN X17.here hx rfl (hb hby d_jdk_68_method_9_27) rfl rfl k) ?_
    show OGo p e below _ T17 (mkF m 28 #[.val (.ref b), .val (.int (Int32.ofNat nd)), .val (.int (Int32.ofNat zn))] [(.ref b), (.int (Int32.ofNat (own_cap zn nd))), (.ref d), (.ref b)])
    obtain ⟨T18, X18, e18, st18⟩ := getF X17 hx hZ hown (host := "") (Or.inl (hw _ (List.mem_of_getElem? (i := 64) rfl))) Via.refl e17 JC (g := (mkF m 28 #[.val (.ref b), .val (.int (Int32.ofNat nd)), .val (.int (Int32.ofNat zn))] [(.ref b), (.int (Int32.ofNat (own_cap zn nd))), (.ref d), (.ref b)])) rfl rfl (hb hby d_jdk_68_method_9_28)
    refine OGo.step st18 ?_
    show OGo p e below _ T18 (mkF m 31 #[.val (.ref b), .val (.int (Int32.ofNat nd)), .val (.int (Int32.ofNat zn))] [(.int (0 : Int32)), (.int (Int32.ofNat (own_cap zn nd))), (.ref d), (.ref b)])
    refine OGo.step (fun _ k => XS.ishl X18.here hx rfl (hb hby d_jdk_68_method_9_31) rfl k) ?_
    show OGo p e below _ T18 (mkF m 32 #[.val (.ref b), .val (.int (Int32.ofNat nd)), .val (.int (Int32.ofNat zn))] [(.int ((Int32.ofNat (own_cap zn nd)) <<< ((0 : Int32) &&& 31))), (.ref d), (.ref b)])
    rw [own_shl0]
    show OGo p e below _ T18 (mkF m 32 #[.val (.ref b), .val (.int (Int32.ofNat nd)), .val (.int (Int32.ofNat zn))] [(.int (Int32.ofNat (own_cap zn nd))), (.ref d), (.ref b)])
    have hc1 : own_cap zn nd ≤ 226 ∧ zn < own_cap zn nd := by unfold own_cap; rw [if_neg (by omega)]; omega
    obtain ⟨v19, T19, L19, X19, hQ19, st19⟩ := scall X18 hx hZ hown (hw _ (List.mem_of_getElem? (i := 111) rfl)) (hw _ (List.mem_of_getElem? (i := 112) rfl)) (hw _ (List.mem_of_getElem? (i := 113) rfl)) (hw _ (List.mem_of_getElem? (i := 114) rfl)) (by decide) (W := 1) (rm_copyOf l Z a0 hw [] d k zn (own_cap zn nd) bs zc wf n0 h0 SS' O JV hzn hc1.1 hc1.2 hbz) e18 (by decide) (by decide) (by decide) (by decide) (g := (mkF m 32 #[.val (.ref b), .val (.int (Int32.ofNat nd)), .val (.int (Int32.ofNat zn))] [(.int (Int32.ofNat (own_cap zn nd))), (.ref d), (.ref b)])) rfl (by rw [hml]; rfl) (argsL := [(.ref d), (.int (Int32.ofNat (own_cap zn nd)))]) (rest := [(.ref b)]) opd_4 rfl rfl rfl (by show 2 * 0 + _ ≤ _; exact Nat.le_of_eq rfl) (hb hby d_jdk_68_method_9_32)
    obtain ⟨r19, kr19, rfl, sr19, N19, K19, V19, VX19⟩ := hQ19
    have NN19 := Fr.app N0 N19
    have KK19 : Keep h0 T19.heap [b] := (Keep.refl h0 [b]).trans K19 all0
    have sz_r19 : h0.size ≤ r19 := Nat.le_trans (Keep.refl h0 [b]).1 sr19
    refine OGo.step st19 ?_
    show OGo p e below _ T19 (mkF m 35 #[.val (.ref b), .val (.int (Int32.ofNat nd)), .val (.int (Int32.ofNat zn))] [(.ref r19), (.ref b)])
    obtain ⟨T20, h20, X20, e20, W20, st20⟩ := putF X19 hx hZ hown (host := "") (Or.inl (hw _ (List.mem_of_getElem? (i := 62) rfl))) Via.refl rfl (JF.keep K19 nin0) (JE.keep K19) (Or.inl (hw _ (List.mem_of_getElem? (i := 63) rfl))) (hw _ (List.mem_of_getElem? (i := 49) rfl)) (ty := (.array .byte)) (by decide) rfl rfl (g := (mkF m 35 #[.val (.ref b), .val (.int (Int32.ofNat nd)), .val (.int (Int32.ofNat zn))] [(.ref r19), (.ref b)])) rfl rfl (hb hby d_jdk_68_method_9_35)
    have Fw20 := (JF.keep K19 nin0).same W20
    have N20 := Fr.snoc X20 NN19 g_b
    have KK20 : Keep h0 h20 [b] := KK19.wr W20 (Or.inl (List.mem_of_getElem? (i := 0) rfl))
    refine OGo.step st20 ?_
    show OGo p e below _ T20 (mkF m 38 #[.val (.ref b), .val (.int (Int32.ofNat nd)), .val (.int (Int32.ofNat zn))] [])
    have q21 := ((JC.keep K19 nin0).other W20 (Or.inr (slot_ne (Or.inl (hw _ (List.mem_of_getElem? (i := 65) rfl))) (Or.inl (hw _ (List.mem_of_getElem? (i := 63) rfl))) (by decide) (t := .byte) (t' := (.array .byte)) (by decide) (by decide))))
    have q22 := ((JN.keep K19 nin0).other W20 (Or.inr (slot_ne (Or.inl (hw _ (List.mem_of_getElem? (i := 90) rfl))) (Or.inl (hw _ (List.mem_of_getElem? (i := 63) rfl))) (by decide) (t := .int) (t' := (.array .byte)) (by decide) (by decide))))
    have ne23 : r19 ≠ b := (Ne.symm (Nat.ne_of_lt (Nat.lt_of_lt_of_le JE.lt sz_r19)))
    exact OGo.retV X20 hx hret hlk (hb hby d_jdk_68_method_9_38) (by decide) (by decide) (by rw [e20]; exact ⟨rfl, N20, KK20, r19, _, Or.inr sz_r19, ⟨((JE.keep K19).wr W20), Fw20, q21, q22, (V19.other W20 ne23), (VX19.wr W20)⟩⟩)
  refine OGo.step (fun _ k => XS.ifYes X15.here hx rfl (pc0 := 14) (pc' := 38) rfl (hb hby d_jdk_68_method_9_14) rfl ((if0 _ _).trans (flt (fun p => q ((own_nd (by omega) (by omega)).mp p))).2.2.2) (by decide) (by decide) k) ?_
  show OGo p e below _ T15 (mkF m 38 #[.val (.ref b), .val (.int (Int32.ofNat nd)), .val (.int (Int32.ofNat zn))] [])
  have hc1 : own_cap zn nd = zn := by unfold own_cap; rw [if_pos (by omega)]
  exact OGo.retV X15 hx hret hlk (hb hby d_jdk_68_method_9_38) (by decide) (by decide) (by rw [e15, hc1]; exact ⟨rfl, N0, Keep.refl _ _, d, k, Or.inl rfl, ⟨JE, JF, JC, JN, JV, JX⟩⟩)
theorem d_jdk_68_method_71_0 : decode jdk_68_method_71_code 0 = .ok (.getstatic 18, 3) := by decide +kernel
theorem d_jdk_68_method_71_3 : decode jdk_68_method_71_code 3 = .ok (.ifCond .eq 18, 3) := by decide +kernel
theorem d_jdk_68_method_71_6 : decode jdk_68_method_71_code 6 = .ok (.aload_n 0, 1) := by decide +kernel
theorem d_jdk_68_method_71_7 : decode jdk_68_method_71_code 7 = .ok (.getfield 22, 3) := by decide +kernel
theorem d_jdk_68_method_71_10 : decode jdk_68_method_71_code 10 = .ok (.aload_n 1, 1) := by decide +kernel
theorem d_jdk_68_method_71_11 : decode jdk_68_method_71_code 11 = .ok (.invokevirtual 40, 3) := by decide +kernel
theorem d_jdk_68_method_71_14 : decode jdk_68_method_71_code 14 = .ok (.if_icmp .eq 7, 3) := by decide +kernel
theorem d_jdk_68_method_71_21 : decode jdk_68_method_71_code 21 = .ok (.return_, 1) := by decide +kernel
theorem opl_rm_infl : plainFor (⟨"java/lang/AbstractStringBuilder", "inflateIfNeededFor", "(Ljava/lang/String;)V"⟩ : MethodName) = true := plainFor_of_name (by first | (simp [plainName, overriddenIn]; done) | decide +kernel)
set_option maxRecDepth 65536 in
set_option maxHeartbeats 40000000 in
theorem rm_infl (l : Launch) (Z : State) (a0 : Array Value) (hw : ∀ d ∈ tables_1, d.before a0 Z = true) (ws : List Jvm.Cond) (b d : Addr) (k : ClassId) (z : Int32) (bs : List Value) (a e2 : Addr) (k2 : ClassId) (us : List Value) (zc : Int32) (wf : Value) (n0 : Nat) (h0 : Heap) (SS : own_SS Z zc wf) (O : Old Z n0 h0) (J : SBI Z h0 b d k z bs) (I : STI Z h0 a e2 k2 us) :
    Con l Z (⟨"java/lang/AbstractStringBuilder", "inflateIfNeededFor", "(Ljava/lang/String;)V"⟩ : MethodName) jdk_68_method_71_code 2 none ws ({ frames := 1, cells := 0, slots := 0, locals := 13 } : Room) #[(.ref b), (.ref a)] h0 (fun v h L => v = none ∧ L = [] ∧ h = h0) := by
  refine Con.intro opl_rm_infl ?_
  intro p e s m below meth c s₁ hx hby hml hown hret hlk hZ hnm X0 e0
  have SS' := SS
  obtain ⟨hzc, SC, hwf, SF⟩ := SS
  have Z0 : n0 ≤ h0.size := O.1 ▸ O.2.1
  have N0 := Fr.nil n0
  obtain ⟨JE, JF, JC, JN, JV, JX⟩ := J
  obtain ⟨IE, IC, IF, IV⟩ := I
  refine OGo.cast (g' := (mkF m 0 #[.val (.ref b), .val (.ref a)] [])) (by first | (simp [entryFrame, mkF, argsToLocals, Value.category]; done) | rfl) ?_
  show OGo p e below _ s₁ (mkF m 0 #[.val (.ref b), .val (.ref a)] [])
  obtain ⟨T24, X24, e24, st24⟩ := getS2 X0 hx hZ hown (host := "") (Or.inl (hw _ (List.mem_of_getElem? (i := 61) rfl))) Via.refl e0 (SC.ext O.2) (g := (mkF m 0 #[.val (.ref b), .val (.ref a)] [])) rfl (hb hby d_jdk_68_method_71_0)
  refine OGo.step st24 ?_
  show OGo p e below _ T24 (mkF m 3 #[.val (.ref b), .val (.ref a)] [(.int zc)])
  refine OGo.step (fun _ k => XS.ifNo X24.here hx rfl (hb hby d_jdk_68_method_71_3) rfl ((if0 _ _).trans (feq hzc).1) k) ?_
  show OGo p e below _ T24 (mkF m 6 #[.val (.ref b), .val (.ref a)] [])
  refine OGo.step (fun _ k => XS.aloadN X24.here hx rfl (hb hby d_jdk_68_method_71_6) rfl rfl k) ?_
  show OGo p e below _ T24 (mkF m 7 #[.val (.ref b), .val (.ref a)] [(.ref b)])
  obtain ⟨T25, X25, e25, st25⟩ := getF X24 hx hZ hown (host := "") (Or.inl (hw _ (List.mem_of_getElem? (i := 64) rfl))) Via.refl e24 JC (g := (mkF m 7 #[.val (.ref b), .val (.ref a)] [(.ref b)])) rfl rfl (hb hby d_jdk_68_method_71_7)
  refine OGo.step st25 ?_
  show OGo p e below _ T25 (mkF m 10 #[.val (.ref b), .val (.ref a)] [(.int (0 : Int32))])
  refine OGo.step (fun _ k => XS.aloadN X25.here hx rfl (hb hby d_jdk_68_method_71_10) rfl rfl k) ?_
  show OGo p e below _ T25 (mkF m 11 #[.val (.ref b), .val (.ref a)] [(.ref a), (.int (0 : Int32))])
  obtain ⟨v26, T26, L26, X26, hQ26, st26⟩ := vcall X25 hx hZ hown (hw _ (List.mem_of_getElem? (i := 132) rfl)) (hw _ (List.mem_of_getElem? (i := 85) rfl)) (hw _ (List.mem_of_getElem? (i := 87) rfl)) rfl (hw _ (List.mem_of_getElem? (i := 87) rfl)) (hw _ (List.mem_of_getElem? (i := 86) rfl)) (hw _ (List.mem_of_getElem? (i := 2) rfl)) (hw _ (List.mem_of_getElem? (i := 88) rfl)) (by decide) (W := 1) (rm_coder l Z a0 hw [] a zc wf n0 h0 SS' O IC) e25 (by decide) (by decide) (by decide) (by decide) (g := (mkF m 11 #[.val (.ref b), .val (.ref a)] [(.ref a), (.int (0 : Int32))])) rfl (by rw [hml]; rfl) IE (argsL := []) (rest := [(.int (0 : Int32))]) opd_0 rfl rfl rfl (by show 2 * 0 + _ ≤ _; exact Nat.le_of_eq rfl) (hb hby d_jdk_68_method_71_11)
  obtain ⟨rfl, rfl, e26⟩ := hQ26
  rw [List.append_nil] at X26
  refine OGo.step st26 ?_
  show OGo p e below _ T26 (mkF m 14 #[.val (.ref b), .val (.ref a)] [(.int (0 : Int32)), (.int (0 : Int32))])
  refine OGo.step (fun _ k => XS.icmpYes X26.here hx rfl (pc0 := 14) (pc' := 21) rfl (hb hby d_jdk_68_method_71_14) rfl (teq (rfl : (0 : Int32) = 0)).1 (by decide) (by decide) k) ?_
  show OGo p e below _ T26 (mkF m 21 #[.val (.ref b), .val (.ref a)] [])
  exact OGo.retV X26 hx hret hlk (hb hby d_jdk_68_method_71_21) (by decide) (by decide) ⟨rfl, rfl, e26⟩
theorem d_jdk_42_method_147_0 : decode jdk_42_method_147_code 0 = .ok (.aload_n 0, 1) := by decide +kernel
theorem d_jdk_42_method_147_1 : decode jdk_42_method_147_code 1 = .ok (.invokevirtual 335, 3) := by decide +kernel
theorem d_jdk_42_method_147_4 : decode jdk_42_method_147_code 4 = .ok (.iload_n 3, 1) := by decide +kernel
theorem d_jdk_42_method_147_5 : decode jdk_42_method_147_code 5 = .ok (.if_icmp .ne 23, 3) := by decide +kernel
theorem d_jdk_42_method_147_8 : decode jdk_42_method_147_code 8 = .ok (.aload_n 0, 1) := by decide +kernel
theorem d_jdk_42_method_147_9 : decode jdk_42_method_147_code 9 = .ok (.getfield 9, 3) := by decide +kernel
theorem d_jdk_42_method_147_12 : decode jdk_42_method_147_code 12 = .ok (.iconst 0, 1) := by decide +kernel
theorem d_jdk_42_method_147_13 : decode jdk_42_method_147_code 13 = .ok (.aload_n 1, 1) := by decide +kernel
theorem d_jdk_42_method_147_14 : decode jdk_42_method_147_code 14 = .ok (.iload_n 2, 1) := by decide +kernel
theorem d_jdk_42_method_147_15 : decode jdk_42_method_147_code 15 = .ok (.iload_n 3, 1) := by decide +kernel
theorem d_jdk_42_method_147_16 : decode jdk_42_method_147_code 16 = .ok (.ishl, 1) := by decide +kernel
theorem d_jdk_42_method_147_17 : decode jdk_42_method_147_code 17 = .ok (.aload_n 0, 1) := by decide +kernel
theorem d_jdk_42_method_147_18 : decode jdk_42_method_147_code 18 = .ok (.getfield 9, 3) := by decide +kernel
theorem d_jdk_42_method_147_21 : decode jdk_42_method_147_code 21 = .ok (.arraylength, 1) := by decide +kernel
theorem d_jdk_42_method_147_22 : decode jdk_42_method_147_code 22 = .ok (.invokestatic 212, 3) := by decide +kernel
theorem d_jdk_42_method_147_25 : decode jdk_42_method_147_code 25 = .ok (.goto 18, 3) := by decide +kernel
theorem d_jdk_42_method_147_43 : decode jdk_42_method_147_code 43 = .ok (.return_, 1) := by decide +kernel
theorem opl_rm_getB : plainFor (⟨"java/lang/String", "getBytes", "([BIB)V"⟩ : MethodName) = true := plainFor_of_name (by first | (simp [plainName, overriddenIn]; done) | decide +kernel)
set_option maxRecDepth 65536 in
set_option maxHeartbeats 40000000 in
theorem rm_getB (l : Launch) (Z : State) (a0 : Array Value) (hw : ∀ d ∈ tables_1, d.before a0 Z = true) (ws : List Jvm.Cond) (d : Addr) (k : ClassId) (z : Int32) (bs : List Value) (a e2 : Addr) (k2 : ClassId) (us : List Value) (zc : Int32) (wf : Value) (n0 : Nat) (h0 : Heap) (SS : own_SS Z zc wf) (O : Old Z n0 h0) (V : Arv Z h0 d k .byte z bs (.int (0 : Int32))) (I : STI Z h0 a e2 k2 us) (g_d : n0 ≤ d) (hs2 : bs.length + us.length ≤ z.toNatClampNeg) (hb1 : us.length < 2147483648) (hb2 : bs.length < 2147483648) :
    Con l Z (⟨"java/lang/String", "getBytes", "([BIB)V"⟩ : MethodName) jdk_42_method_147_code 4 none ws ({ frames := 1, cells := 0, slots := 0, locals := 29 } : Room) #[(.ref a), (.ref d), (.int (Int32.ofNat bs.length)), (.int (0 : Int32))] h0 (fun v h L => v = none ∧ Fr n0 L ∧ Keep h0 h [d] ∧ Arv Z h d k .byte z (bs ++ us) (.int (0 : Int32))) := by
  refine Con.intro opl_rm_getB ?_
  intro p e s m below meth c s₁ hx hby hml hown hret hlk hZ hnm X0 e0
  have SS' := SS
  obtain ⟨hzc, SC, hwf, SF⟩ := SS
  have Z0 : n0 ≤ h0.size := O.1 ▸ O.2.1
  have N0 := Fr.nil n0
  obtain ⟨IE, IC, IF, IV⟩ := I
  refine OGo.cast (g' := (mkF m 0 #[.val (.ref a), .val (.ref d), .val (.int (Int32.ofNat bs.length)), .val (.int (0 : Int32))] [])) (by first | (simp [entryFrame, mkF, argsToLocals, Value.category]; done) | rfl) ?_
  show OGo p e below _ s₁ (mkF m 0 #[.val (.ref a), .val (.ref d), .val (.int (Int32.ofNat bs.length)), .val (.int (0 : Int32))] [])
  refine OGo.step (fun _ k => XS.aloadN X0.here hx rfl (hb hby d_jdk_42_method_147_0) rfl rfl k) ?_
  show OGo p e below _ s₁ (mkF m 1 #[.val (.ref a), .val (.ref d), .val (.int (Int32.ofNat bs.length)), .val (.int (0 : Int32))] [(.ref a)])
  obtain ⟨v27, T27, L27, X27, hQ27, st27⟩ := vcall X0 hx hZ hown (hw _ (List.mem_of_getElem? (i := 84) rfl)) (hw _ (List.mem_of_getElem? (i := 85) rfl)) (hw _ (List.mem_of_getElem? (i := 87) rfl)) rfl (hw _ (List.mem_of_getElem? (i := 87) rfl)) (hw _ (List.mem_of_getElem? (i := 86) rfl)) (hw _ (List.mem_of_getElem? (i := 2) rfl)) (hw _ (List.mem_of_getElem? (i := 88) rfl)) (by decide) (W := 0) (rm_coder l Z a0 hw [] a zc wf n0 h0 SS' O IC) e0 (by decide) (by decide) (by decide) (by decide) (g := (mkF m 1 #[.val (.ref a), .val (.ref d), .val (.int (Int32.ofNat bs.length)), .val (.int (0 : Int32))] [(.ref a)])) rfl (by rw [hml]; rfl) IE (argsL := []) (rest := []) opd_0 rfl rfl rfl (by show 2 * 0 + _ ≤ _; exact Nat.le_of_eq rfl) (hb hby d_jdk_42_method_147_1)
  obtain ⟨rfl, rfl, e27⟩ := hQ27
  rw [List.append_nil] at X27
  refine OGo.step st27 ?_
  show OGo p e below _ T27 (mkF m 4 #[.val (.ref a), .val (.ref d), .val (.int (Int32.ofNat bs.length)), .val (.int (0 : Int32))] [(.int (0 : Int32))])
  refine OGo.step (fun _ k => XS.iloadN X27.here hx rfl (hb hby d_jdk_42_method_147_4) rfl k) ?_
  show OGo p e below _ T27 (mkF m 5 #[.val (.ref a), .val (.ref d), .val (.int (Int32.ofNat bs.length)), .val (.int (0 : Int32))] [(.int (0 : Int32)), (.int (0 : Int32))])
  refine OGo.step (fun _ k => XS.icmpNo X27.here hx rfl (hb hby d_jdk_42_method_147_5) rfl (teq (rfl : (0 : Int32) = 0)).2 k) ?_
  show OGo p e below _ T27 (mkF m 8 #[.val (.ref a), .val (.ref d), .val (.int (Int32.ofNat bs.length)), .val (.int (0 : Int32))] [])
  refine OGo.step (fun _ k => XS.aloadN X27.here hx rfl (hb hby d_jdk_42_method_147_8) rfl rfl k) ?_
  show OGo p e below _ T27 (mkF m 9 #[.val (.ref a), .val (.ref d), .val (.int (Int32.ofNat bs.length)), .val (.int (0 : Int32))] [(.ref a)])
  obtain ⟨T28, X28, e28, st28⟩ := getF X27 hx hZ hown (host := "") (Or.inl (hw _ (List.mem_of_getElem? (i := 22) rfl))) Via.refl e27 IF (g := (mkF m 9 #[.val (.ref a), .val (.ref d), .val (.int (Int32.ofNat bs.length)), .val (.int (0 : Int32))] [(.ref a)])) rfl rfl (hb hby d_jdk_42_method_147_9)
  refine OGo.step st28 ?_
  show OGo p e below _ T28 (mkF m 12 #[.val (.ref a), .val (.ref d), .val (.int (Int32.ofNat bs.length)), .val (.int (0 : Int32))] [(.ref e2)])
  refine OGo.step (fun _ k => XS.iconst X28.here hx rfl (hb hby d_jdk_42_method_147_12) k) ?_
  show OGo p e below _ T28 (mkF m 13 #[.val (.ref a), .val (.ref d), .val (.int (Int32.ofNat bs.length)), .val (.int (0 : Int32))] [(.int (0 : Int32)), (.ref e2)])
  refine OGo.step (fun _ k => XS.aloadN X28.here hx rfl (hb hby d_jdk_42_method_147_13) rfl rfl k) ?_
  show OGo p e below _ T28 (mkF m 14 #[.val (.ref a), .val (.ref d), .val (.int (Int32.ofNat bs.length)), .val (.int (0 : Int32))] [(.ref d), (.int (0 : Int32)), (.ref e2)])
  refine OGo.step (fun _ k => XS.iloadN X28.here hx rfl (hb hby d_jdk_42_method_147_14) rfl k) ?_
  show OGo p e below _ T28 (mkF m 15 #[.val (.ref a), .val (.ref d), .val (.int (Int32.ofNat bs.length)), .val (.int (0 : Int32))] [(.int (Int32.ofNat bs.length)), (.ref d), (.int (0 : Int32)), (.ref e2)])
  refine OGo.step (fun _ k => XS.iloadN X28.here hx rfl (hb hby d_jdk_42_method_147_15) rfl k) ?_
  show OGo p e below _ T28 (mkF m 16 #[.val (.ref a), .val (.ref d), .val (.int (Int32.ofNat bs.length)), .val (.int (0 : Int32))] [(.int (0 : Int32)), (.int (Int32.ofNat bs.length)), (.ref d), (.int (0 : Int32)), (.ref e2)])
  refine OGo.step (fun _ k => XS.ishl X28.here hx rfl (hb hby d_jdk_42_method_147_16) rfl k) ?_
  show OGo p e below _ T28 (mkF m 17 #[.val (.ref a), .val (.ref d), .val (.int (Int32.ofNat bs.length)), .val (.int (0 : Int32))] [(.int ((Int32.ofNat bs.length) <<< ((0 : Int32) &&& 31))), (.ref d), (.int (0 : Int32)), (.ref e2)])
  rw [own_shl0]
  show OGo p e below _ T28 (mkF m 17 #[.val (.ref a), .val (.ref d), .val (.int (Int32.ofNat bs.length)), .val (.int (0 : Int32))] [(.int (Int32.ofNat bs.length)), (.ref d), (.int (0 : Int32)), (.ref e2)])
  refine OGo.step (fun _ k => XS.aloadN X28.here hx rfl (hb hby d_jdk_42_method_147_17) rfl rfl k) ?_
  show OGo p e below _ T28 (mkF m 18 #[.val (.ref a), .val (.ref d), .val (.int (Int32.ofNat bs.length)), .val (.int (0 : Int32))] [(.ref a), (.int (Int32.ofNat bs.length)), (.ref d), (.int (0 : Int32)), (.ref e2)])
  obtain ⟨T29, X29, e29, st29⟩ := getF X28 hx hZ hown (host := "") (Or.inl (hw _ (List.mem_of_getElem? (i := 22) rfl))) Via.refl e28 IF (g := (mkF m 18 #[.val (.ref a), .val (.ref d), .val (.int (Int32.ofNat bs.length)), .val (.int (0 : Int32))] [(.ref a), (.int (Int32.ofNat bs.length)), (.ref d), (.int (0 : Int32)), (.ref e2)])) rfl rfl (hb hby d_jdk_42_method_147_18)
  refine OGo.step st29 ?_
  show OGo p e below _ T29 (mkF m 21 #[.val (.ref a), .val (.ref d), .val (.int (Int32.ofNat bs.length)), .val (.int (0 : Int32))] [(.ref e2), (.int (Int32.ofNat bs.length)), (.ref d), (.int (0 : Int32)), (.ref e2)])
  refine OGo.step (fun _ k => alenV X29 hx hZ e29 IV (g := (mkF m 21 #[.val (.ref a), .val (.ref d), .val (.int (Int32.ofNat bs.length)), .val (.int (0 : Int32))] [(.ref e2), (.int (Int32.ofNat bs.length)), (.ref d), (.int (0 : Int32)), (.ref e2)])) rfl rfl (hb hby d_jdk_42_method_147_21) _ k) ?_
  show OGo p e below _ T29 (mkF m 22 #[.val (.ref a), .val (.ref d), .val (.int (Int32.ofNat bs.length)), .val (.int (0 : Int32))] [(.int (Int32.ofNat us.length)), (.int (Int32.ofNat bs.length)), (.ref d), (.int (0 : Int32)), (.ref e2)])
  obtain ⟨T30, h30, L30, X30, e30, N30, K30, V30, st30⟩ := own_cp X29 hx hZ hown (hw _ (List.mem_of_getElem? (i := 138) rfl)) (hw _ (List.mem_of_getElem? (i := 121) rfl)) (hw _ (List.mem_of_getElem? (i := 119) rfl)) (hw _ (List.mem_of_getElem? (i := 120) rfl)) e29 IV V (by rw [own_cl hb1]; exact Nat.le_refl _) hs2 hb1 hb2 N0 g_d (g := (mkF m 22 #[.val (.ref a), .val (.ref d), .val (.int (Int32.ofNat bs.length)), .val (.int (0 : Int32))] [(.int (Int32.ofNat us.length)), (.int (Int32.ofNat bs.length)), (.ref d), (.int (0 : Int32)), (.ref e2)])) rfl (by rw [hml]; rfl) (rest := []) rfl (hb hby d_jdk_42_method_147_22) (by decide) (W := 0) (by show 2 * 0 + _ ≤ _; exact Nat.le_of_eq rfl) (by decide)
  have KK30 : Keep h0 h30 [d] := (Keep.refl h0 [d]).trans K30 (allS (Or.inl (List.mem_of_getElem? (i := 0) rfl)) all0)
  refine OGo.step st30 ?_
  show OGo p e below _ T30 (mkF m 25 #[.val (.ref a), .val (.ref d), .val (.int (Int32.ofNat bs.length)), .val (.int (0 : Int32))] [])
  refine OGo.step (fun _ k => XS.goto X30.here hx rfl (pc0 := 25) (pc' := 43) rfl (hb hby d_jdk_42_method_147_25) (by decide) (by decide) k) ?_
  show OGo p e below _ T30 (mkF m 43 #[.val (.ref a), .val (.ref d), .val (.int (Int32.ofNat bs.length)), .val (.int (0 : Int32))] [])
  exact OGo.retV X30 hx hret hlk (hb hby d_jdk_42_method_147_43) (by decide) (by decide) (by rw [e30]; exact ⟨rfl, N30, KK30, V30⟩)
theorem d_jdk_68_method_73_0 : decode jdk_68_method_73_code 0 = .ok (.aload_n 0, 1) := by decide +kernel
theorem d_jdk_68_method_73_1 : decode jdk_68_method_73_code 1 = .ok (.aload_n 2, 1) := by decide +kernel
theorem opd_5 : parseMethodDescriptor "(Ljava/lang/String;)V" = some ⟨[(.object "java/lang/String")], none⟩ := by decide +kernel
theorem d_jdk_68_method_73_2 : decode jdk_68_method_73_code 2 = .ok (.invokevirtual 397, 3) := by decide +kernel
theorem d_jdk_68_method_73_5 : decode jdk_68_method_73_code 5 = .ok (.aload_n 2, 1) := by decide +kernel
theorem d_jdk_68_method_73_6 : decode jdk_68_method_73_code 6 = .ok (.aload_n 0, 1) := by decide +kernel
theorem d_jdk_68_method_73_7 : decode jdk_68_method_73_code 7 = .ok (.getfield 15, 3) := by decide +kernel
theorem d_jdk_68_method_73_10 : decode jdk_68_method_73_code 10 = .ok (.iload_n 1, 1) := by decide +kernel
theorem d_jdk_68_method_73_11 : decode jdk_68_method_73_code 11 = .ok (.aload_n 0, 1) := by decide +kernel
theorem d_jdk_68_method_73_12 : decode jdk_68_method_73_code 12 = .ok (.getfield 22, 3) := by decide +kernel
theorem opd_6 : parseMethodDescriptor "([BIB)V" = some ⟨[(.array .byte), .int, .byte], none⟩ := by decide +kernel
theorem d_jdk_68_method_73_15 : decode jdk_68_method_73_code 15 = .ok (.invokevirtual 399, 3) := by decide +kernel
theorem d_jdk_68_method_73_18 : decode jdk_68_method_73_code 18 = .ok (.return_, 1) := by decide +kernel
theorem opl_rm_put : plainFor (⟨"java/lang/AbstractStringBuilder", "putStringAt", "(ILjava/lang/String;)V"⟩ : MethodName) = true := plainFor_of_name (by first | (simp [plainName, overriddenIn]; done) | decide +kernel)
set_option maxRecDepth 65536 in
set_option maxHeartbeats 40000000 in
theorem rm_put (l : Launch) (Z : State) (a0 : Array Value) (hw : ∀ d ∈ tables_1, d.before a0 Z = true) (ws : List Jvm.Cond) (b d : Addr) (k : ClassId) (z : Int32) (bs : List Value) (a e2 : Addr) (k2 : ClassId) (us : List Value) (zc : Int32) (wf : Value) (n0 : Nat) (h0 : Heap) (SS : own_SS Z zc wf) (O : Old Z n0 h0) (J : SBI Z h0 b d k z bs) (I : STI Z h0 a e2 k2 us) (g_b : n0 ≤ b) (g_d : n0 ≤ d) (hs2 : bs.length + us.length ≤ z.toNatClampNeg) (hb1 : us.length < 2147483648) (hb2 : bs.length < 2147483648) (nde : e2 ≠ d) (nab : a ≠ b) :
    Con l Z (⟨"java/lang/AbstractStringBuilder", "putStringAt", "(ILjava/lang/String;)V"⟩ : MethodName) jdk_68_method_73_code 3 none ws ({ frames := 2, cells := 0, slots := 0, locals := 44 } : Room) #[(.ref b), (.int (Int32.ofNat bs.length)), (.ref a)] h0 (fun v h L => v = none ∧ Fr n0 L ∧ Keep h0 h [d] ∧ Arv Z h d k .byte z (bs ++ us) (.int (0 : Int32))) := by
  refine Con.intro opl_rm_put ?_
  intro p e s m below meth c s₁ hx hby hml hown hret hlk hZ hnm X0 e0
  have SS' := SS
  obtain ⟨hzc, SC, hwf, SF⟩ := SS
  have Z0 : n0 ≤ h0.size := O.1 ▸ O.2.1
  have N0 := Fr.nil n0
  obtain ⟨JE, JF, JC, JN, JV, JX⟩ := J
  obtain ⟨IE, IC, IF, IV⟩ := I
  refine OGo.cast (g' := (mkF m 0 #[.val (.ref b), .val (.int (Int32.ofNat bs.length)), .val (.ref a)] [])) (by first | (simp [entryFrame, mkF, argsToLocals, Value.category]; done) | rfl) ?_
  show OGo p e below _ s₁ (mkF m 0 #[.val (.ref b), .val (.int (Int32.ofNat bs.length)), .val (.ref a)] [])
  refine OGo.step (fun _ k => XS.aloadN X0.here hx rfl (hb hby d_jdk_68_method_73_0) rfl rfl k) ?_
  show OGo p e below _ s₁ (mkF m 1 #[.val (.ref b), .val (.int (Int32.ofNat bs.length)), .val (.ref a)] [(.ref b)])
  refine OGo.step (fun _ k => XS.aloadN X0.here hx rfl (hb hby d_jdk_68_method_73_1) rfl rfl k) ?_
  show OGo p e below _ s₁ (mkF m 2 #[.val (.ref b), .val (.int (Int32.ofNat bs.length)), .val (.ref a)] [(.ref a), (.ref b)])
  obtain ⟨v31, T31, L31, X31, hQ31, st31⟩ := pcall X0 hx hZ hown (hw _ (List.mem_of_getElem? (i := 127) rfl)) (hw _ (List.mem_of_getElem? (i := 128) rfl)) (hw _ (List.mem_of_getElem? (i := 130) rfl)) (hw _ (List.mem_of_getElem? (i := 129) rfl)) (hw _ (List.mem_of_getElem? (i := 58) rfl)) (hw _ (List.mem_of_getElem? (i := 131) rfl)) (by decide) (W := 0) (rm_infl l Z a0 hw [] b d k z bs a e2 k2 us zc wf n0 h0 SS' O ⟨JE, JF, JC, JN, JV, JX⟩ ⟨IE, IC, IF, IV⟩) e0 (by decide) (by decide) (by decide) (by decide) (g := (mkF m 2 #[.val (.ref b), .val (.int (Int32.ofNat bs.length)), .val (.ref a)] [(.ref a), (.ref b)])) rfl (by rw [hml]; rfl) JE (argsL := [(.ref a)]) (rest := []) opd_5 rfl rfl rfl (by show 2 * 0 + _ ≤ _; exact Nat.le_of_eq rfl) (hb hby d_jdk_68_method_73_2)
  obtain ⟨rfl, rfl, e31⟩ := hQ31
  rw [List.append_nil] at X31
  refine OGo.step st31 ?_
  show OGo p e below _ T31 (mkF m 5 #[.val (.ref b), .val (.int (Int32.ofNat bs.length)), .val (.ref a)] [])
  refine OGo.step (fun _ k => XS.aloadN X31.here hx rfl (hb hby d_jdk_68_method_73_5) rfl rfl k) ?_
  show OGo p e below _ T31 (mkF m 6 #[.val (.ref b), .val (.int (Int32.ofNat bs.length)), .val (.ref a)] [(.ref a)])
  refine OGo.step (fun _ k => XS.aloadN X31.here hx rfl (hb hby d_jdk_68_method_73_6) rfl rfl k) ?_
  show OGo p e below _ T31 (mkF m 7 #[.val (.ref b), .val (.int (Int32.ofNat bs.length)), .val (.ref a)] [(.ref b), (.ref a)])
  obtain ⟨T32, X32, e32, st32⟩ := getF X31 hx hZ hown (host := "") (Or.inl (hw _ (List.mem_of_getElem? (i := 62) rfl))) Via.refl e31 JF (g := (mkF m 7 #[.val (.ref b), .val (.int (Int32.ofNat bs.length)), .val (.ref a)] [(.ref b), (.ref a)])) rfl rfl (hb hby d_jdk_68_method_73_7)
  refine OGo.step st32 ?_
  show OGo p e below _ T32 (mkF m 10 #[.val (.ref b), .val (.int (Int32.ofNat bs.length)), .val (.ref a)] [(.ref d), (.ref a)])
  refine OGo.step (fun _ k => XS.iloadN X32.here hx rfl (hb hby d_jdk_68_method_73_10) rfl k) ?_
  show OGo p e below _ T32 (mkF m 11 #[.val (.ref b), .val (.int (Int32.ofNat bs.length)), .val (.ref a)] [(.int (Int32.ofNat bs.length)), (.ref d), (.ref a)])
  refine OGo.step (fun _ k => XS.aloadN X32.here hx rfl (hb hby d_jdk_68_method_73_11) rfl rfl k) ?_
  show OGo p e below _ T32 (mkF m 12 #[.val (.ref b), .val (.int (Int32.ofNat bs.length)), .val (.ref a)] [(.ref b), (.int (Int32.ofNat bs.length)), (.ref d), (.ref a)])
  obtain ⟨T33, X33, e33, st33⟩ := getF X32 hx hZ hown (host := "") (Or.inl (hw _ (List.mem_of_getElem? (i := 64) rfl))) Via.refl e32 JC (g := (mkF m 12 #[.val (.ref b), .val (.int (Int32.ofNat bs.length)), .val (.ref a)] [(.ref b), (.int (Int32.ofNat bs.length)), (.ref d), (.ref a)])) rfl rfl (hb hby d_jdk_68_method_73_12)
  refine OGo.step st33 ?_
  show OGo p e below _ T33 (mkF m 15 #[.val (.ref b), .val (.int (Int32.ofNat bs.length)), .val (.ref a)] [(.int (0 : Int32)), (.int (Int32.ofNat bs.length)), (.ref d), (.ref a)])
  obtain ⟨v34, T34, L34, X34, hQ34, st34⟩ := vcall X33 hx hZ hown (hw _ (List.mem_of_getElem? (i := 133) rfl)) (hw _ (List.mem_of_getElem? (i := 134) rfl)) (hw _ (List.mem_of_getElem? (i := 136) rfl)) rfl (hw _ (List.mem_of_getElem? (i := 136) rfl)) (hw _ (List.mem_of_getElem? (i := 135) rfl)) (hw _ (List.mem_of_getElem? (i := 2) rfl)) (hw _ (List.mem_of_getElem? (i := 137) rfl)) (by decide) (W := 0) (rm_getB l Z a0 hw [] d k z bs a e2 k2 us zc wf n0 h0 SS' O JV ⟨IE, IC, IF, IV⟩ g_d hs2 hb1 hb2) e33 (by decide) (by decide) (by decide) (by decide) (g := (mkF m 15 #[.val (.ref b), .val (.int (Int32.ofNat bs.length)), .val (.ref a)] [(.int (0 : Int32)), (.int (Int32.ofNat bs.length)), (.ref d), (.ref a)])) rfl (by rw [hml]; rfl) IE (argsL := [(.ref d), (.int (Int32.ofNat bs.length)), (.int (0 : Int32))]) (rest := []) opd_6 rfl rfl rfl (by show 2 * 0 + _ ≤ _; exact Nat.le_of_eq rfl) (hb hby d_jdk_68_method_73_15)
  obtain ⟨rfl, N34, K34, V34⟩ := hQ34
  have NN34 := Fr.app N0 N34
  have KK34 : Keep h0 T34.heap [d] := (Keep.refl h0 [d]).trans K34 (allS (Or.inl (List.mem_of_getElem? (i := 0) rfl)) all0)
  refine OGo.step st34 ?_
  show OGo p e below _ T34 (mkF m 18 #[.val (.ref b), .val (.int (Int32.ofNat bs.length)), .val (.ref a)] [])
  exact OGo.retV X34 hx hret hlk (hb hby d_jdk_68_method_73_18) (by decide) (by decide) ⟨rfl, NN34, KK34, V34⟩
theorem d_jdk_68_method_22_0 : decode jdk_68_method_22_code 0 = .ok (.aload_n 1, 1) := by decide +kernel
theorem d_jdk_68_method_22_1 : decode jdk_68_method_22_code 1 = .ok (.ifnonnull 8, 3) := by decide +kernel
theorem d_jdk_68_method_22_9 : decode jdk_68_method_22_code 9 = .ok (.aload_n 1, 1) := by decide +kernel
theorem opd_7 : parseMethodDescriptor "()I" = some ⟨[], some .int⟩ := by decide +kernel
theorem d_jdk_68_method_22_10 : decode jdk_68_method_22_code 10 = .ok (.invokevirtual 32, 3) := by decide +kernel
theorem d_jdk_68_method_22_13 : decode jdk_68_method_22_code 13 = .ok (.istore_n 2, 1) := by decide +kernel
theorem d_jdk_68_method_22_14 : decode jdk_68_method_22_code 14 = .ok (.aload_n 0, 1) := by decide +kernel
theorem d_jdk_68_method_22_15 : decode jdk_68_method_22_code 15 = .ok (.aload_n 0, 1) := by decide +kernel
theorem d_jdk_68_method_22_16 : decode jdk_68_method_22_code 16 = .ok (.getfield 79, 3) := by decide +kernel
theorem d_jdk_68_method_22_19 : decode jdk_68_method_22_code 19 = .ok (.iload_n 2, 1) := by decide +kernel
theorem d_jdk_68_method_22_20 : decode jdk_68_method_22_code 20 = .ok (.iadd, 1) := by decide +kernel
theorem opd_8 : parseMethodDescriptor "(I)V" = some ⟨[.int], none⟩ := by decide +kernel
theorem d_jdk_68_method_22_21 : decode jdk_68_method_22_code 21 = .ok (.invokevirtual 100, 3) := by decide +kernel
theorem d_jdk_68_method_22_24 : decode jdk_68_method_22_code 24 = .ok (.aload_n 0, 1) := by decide +kernel
theorem d_jdk_68_method_22_25 : decode jdk_68_method_22_code 25 = .ok (.aload_n 0, 1) := by decide +kernel
theorem d_jdk_68_method_22_26 : decode jdk_68_method_22_code 26 = .ok (.getfield 79, 3) := by decide +kernel
theorem d_jdk_68_method_22_29 : decode jdk_68_method_22_code 29 = .ok (.aload_n 1, 1) := by decide +kernel
theorem opd_9 : parseMethodDescriptor "(ILjava/lang/String;)V" = some ⟨[.int, (.object "java/lang/String")], none⟩ := by decide +kernel
theorem d_jdk_68_method_22_30 : decode jdk_68_method_22_code 30 = .ok (.invokevirtual 208, 3) := by decide +kernel
theorem d_jdk_68_method_22_33 : decode jdk_68_method_22_code 33 = .ok (.aload_n 0, 1) := by decide +kernel
theorem d_jdk_68_method_22_34 : decode jdk_68_method_22_code 34 = .ok (.dup, 1) := by decide +kernel
theorem d_jdk_68_method_22_35 : decode jdk_68_method_22_code 35 = .ok (.getfield 79, 3) := by decide +kernel
theorem d_jdk_68_method_22_38 : decode jdk_68_method_22_code 38 = .ok (.iload_n 2, 1) := by decide +kernel
theorem d_jdk_68_method_22_39 : decode jdk_68_method_22_code 39 = .ok (.iadd, 1) := by decide +kernel
theorem d_jdk_68_method_22_40 : decode jdk_68_method_22_code 40 = .ok (.putfield 79, 3) := by decide +kernel
theorem d_jdk_68_method_22_43 : decode jdk_68_method_22_code 43 = .ok (.aload_n 0, 1) := by decide +kernel
theorem d_jdk_68_method_22_44 : decode jdk_68_method_22_code 44 = .ok (.areturn, 1) := by decide +kernel
theorem opl_rm_asbAppG : plainFor (⟨"java/lang/AbstractStringBuilder", "append", "(Ljava/lang/String;)Ljava/lang/AbstractStringBuilder;"⟩ : MethodName) = true := plainFor_of_name (by first | (simp [plainName, overriddenIn]; done) | decide +kernel)
set_option maxRecDepth 65536 in
set_option maxHeartbeats 40000000 in
theorem rm_asbAppG (l : Launch) (Z : State) (a0 : Array Value) (hw : ∀ d ∈ tables_1, d.before a0 Z = true) (ws : List Jvm.Cond) (b d : Addr) (k : ClassId) (zn : Nat) (bs : List Value) (a e2 : Addr) (k2 : ClassId) (us : List Value) (zc : Int32) (wf : Value) (n0 : Nat) (h0 : Heap) (SS : own_SS Z zc wf) (O : Old Z n0 h0) (J : SBI Z h0 b d k (Int32.ofNat zn) bs) (hzn : zn ≤ 112) (hbz : bs.length ≤ zn) (I : STI Z h0 a e2 k2 us) (g_b : n0 ≤ b) (g_d : n0 ≤ d) (hsm : bs.length + us.length ≤ 112) (nde : e2 ≠ d) (nab : a ≠ b) :
    Con l Z (⟨"java/lang/AbstractStringBuilder", "append", "(Ljava/lang/String;)Ljava/lang/AbstractStringBuilder;"⟩ : MethodName) jdk_68_method_22_code 3 (some (.object "java/lang/AbstractStringBuilder")) ws ({ frames := 4, cells := 1, slots := 226, locals := 62 } : Room) #[(.ref b), (.ref a)] h0 (fun v h L => v = some (.ref b) ∧ Fr n0 L ∧ Keep h0 h [b, d] ∧ ∃ d' k', (d' = d ∨ h0.size ≤ d') ∧ SBI Z h b d' k' (Int32.ofNat (own_cap zn (bs.length + us.length))) (bs ++ us)) := by
  refine Con.intro opl_rm_asbAppG ?_
  intro p e s m below meth c s₁ hx hby hml hown hret hlk hZ hnm X0 e0
  have SS' := SS
  obtain ⟨hzc, SC, hwf, SF⟩ := SS
  have Z0 : n0 ≤ h0.size := O.1 ▸ O.2.1
  have N0 := Fr.nil n0
  obtain ⟨JE, JF, JC, JN, JV, JX⟩ := J
  obtain ⟨IE, IC, IF, IV⟩ := I
  have nbd : b ≠ d := JE.neArv JV (hw _ (List.mem_of_getElem? (i := 49) rfl))
  have neb : e2 ≠ b := Ne.symm (JE.neArv IV (hw _ (List.mem_of_getElem? (i := 49) rfl)))
  refine OGo.cast (g' := (mkF m 0 #[.val (.ref b), .val (.ref a), .unset] [])) (by first | (simp [entryFrame, mkF, argsToLocals, Value.category]; done) | rfl) ?_
  show OGo p e below _ s₁ (mkF m 0 #[.val (.ref b), .val (.ref a), .unset] [])
  refine OGo.step (fun _ k => XS.aloadN X0.here hx rfl (hb hby d_jdk_68_method_22_0) rfl rfl k) ?_
  show OGo p e below _ s₁ (mkF m 1 #[.val (.ref b), .val (.ref a), .unset] [(.ref a)])
  refine OGo.step (fun _ k => XS.ifnonnullYes X0.here hx rfl (pc0 := 1) (pc' := 9) rfl (hb hby d_jdk_68_method_22_1) rfl (by decide) (by decide) k) ?_
  show OGo p e below _ s₁ (mkF m 9 #[.val (.ref b), .val (.ref a), .unset] [])
  refine OGo.step (fun _ k => XS.aloadN X0.here hx rfl (hb hby d_jdk_68_method_22_9) rfl rfl k) ?_
  show OGo p e below _ s₁ (mkF m 10 #[.val (.ref b), .val (.ref a), .unset] [(.ref a)])
  obtain ⟨v35, T35, L35, X35, hQ35, st35⟩ := vcall X0 hx hZ hown (hw _ (List.mem_of_getElem? (i := 79) rfl)) (hw _ (List.mem_of_getElem? (i := 80) rfl)) (hw _ (List.mem_of_getElem? (i := 82) rfl)) rfl (hw _ (List.mem_of_getElem? (i := 82) rfl)) (hw _ (List.mem_of_getElem? (i := 81) rfl)) (hw _ (List.mem_of_getElem? (i := 2) rfl)) (hw _ (List.mem_of_getElem? (i := 83) rfl)) (by decide) (W := 0) (rm_length l Z a0 hw [] a e2 k2 us zc wf n0 h0 SS' O ⟨IE, IC, IF, IV⟩) e0 (by decide) (by decide) (by decide) (by decide) (g := (mkF m 10 #[.val (.ref b), .val (.ref a), .unset] [(.ref a)])) rfl (by rw [hml]; rfl) IE (argsL := []) (rest := []) opd_7 rfl rfl rfl (by show 2 * 0 + _ ≤ _; exact Nat.le_of_eq rfl) (hb hby d_jdk_68_method_22_10)
  obtain ⟨rfl, rfl, e35⟩ := hQ35
  rw [List.append_nil] at X35
  refine OGo.step st35 ?_
  show OGo p e below _ T35 (mkF m 13 #[.val (.ref b), .val (.ref a), .unset] [(.int (Int32.ofNat us.length))])
  refine OGo.step (fun _ k => XS.istoreN X35.here hx rfl (hb hby d_jdk_68_method_22_13) rfl (l' := #[.val (.ref b), .val (.ref a), .val (.int (Int32.ofNat us.length))]) rfl k) ?_
  show OGo p e below _ T35 (mkF m 14 #[.val (.ref b), .val (.ref a), .val (.int (Int32.ofNat us.length))] [])
  refine OGo.step (fun _ k => XS.aloadN X35.here hx rfl (hb hby d_jdk_68_method_22_14) rfl rfl k) ?_
  show OGo p e below _ T35 (mkF m 15 #[.val (.ref b), .val (.ref a), .val (.int (Int32.ofNat us.length))] [(.ref b)])
  refine OGo.step (fun _ k => XS.aloadN X35.here hx rfl (hb hby d_jdk_68_method_22_15) rfl rfl k) ?_
  show OGo p e below _ T35 (mkF m 16 #[.val (.ref b), .val (.ref a), .val (.int (Int32.ofNat us.length))] [(.ref b), (.ref b)])
  obtain ⟨T36, X36, e36, st36⟩ := getF X35 hx hZ hown (host := "") (Or.inl (hw _ (List.mem_of_getElem? (i := 89) rfl))) Via.refl e35 JN (g := (mkF m 16 #[.val (.ref b), .val (.ref a), .val (.int (Int32.ofNat us.length))] [(.ref b), (.ref b)])) rfl rfl (hb hby d_jdk_68_method_22_16)
  refine OGo.step st36 ?_
  show OGo p e below _ T36 (mkF m 19 #[.val (.ref b), .val (.ref a), .val (.int (Int32.ofNat us.length))] [(.int (Int32.ofNat bs.length)), (.ref b)])
  refine OGo.step (fun _ k => XS.iloadN X36.here hx rfl (hb hby d_jdk_68_method_22_19) rfl k) ?_
  show OGo p e below _ T36 (mkF m 20 #[.val (.ref b), .val (.ref a), .val (.int (Int32.ofNat us.length))] [(.int (Int32.ofNat us.length)), (.int (Int32.ofNat bs.length)), (.ref b)])
  refine OGo.step (fun _ k => XS.iadd X36.here hx rfl (hb hby d_jdk_68_method_22_20) rfl k) ?_
  show OGo p e below _ T36 (mkF m 21 #[.val (.ref b), .val (.ref a), .val (.int (Int32.ofNat us.length))] [(.int ((Int32.ofNat bs.length) + (Int32.ofNat us.length))), (.ref b)])
  rw [own_addn]
  show OGo p e below _ T36 (mkF m 21 #[.val (.ref b), .val (.ref a), .val (.int (Int32.ofNat us.length))] [(.int (Int32.ofNat (bs.length + us.length))), (.ref b)])
  obtain ⟨v37, T37, L37, X37, hQ37, st37⟩ := pcall X36 hx hZ hown (hw _ (List.mem_of_getElem? (i := 91) rfl)) (hw _ (List.mem_of_getElem? (i := 92) rfl)) (hw _ (List.mem_of_getElem? (i := 94) rfl)) (hw _ (List.mem_of_getElem? (i := 93) rfl)) (hw _ (List.mem_of_getElem? (i := 58) rfl)) (hw _ (List.mem_of_getElem? (i := 95) rfl)) (by decide) (W := 0) (rm_ensG l Z a0 hw [] b d k zn bs (bs.length + us.length) zc wf n0 h0 SS' O ⟨JE, JF, JC, JN, JV, JX⟩ hzn hbz hsm g_b) e36 (by decide) (by decide) (by decide) (by decide) (g := (mkF m 21 #[.val (.ref b), .val (.ref a), .val (.int (Int32.ofNat us.length))] [(.int (Int32.ofNat (bs.length + us.length))), (.ref b)])) rfl (by rw [hml]; rfl) JE (argsL := [(.int (Int32.ofNat (bs.length + us.length)))]) (rest := []) opd_8 rfl rfl rfl (by show 2 * 0 + _ ≤ _; exact Nat.le_of_eq rfl) (hb hby d_jdk_68_method_22_21)
  obtain ⟨rfl, N37, K37, d37, k37, hd37, J37⟩ := hQ37
  have NN37 := Fr.app N0 N37
  have KK37 : Keep h0 T37.heap [b, d] := (Keep.refl h0 [b, d]).trans K37 (allS (Or.inl (List.mem_of_getElem? (i := 0) rfl)) all0)
  refine OGo.step st37 ?_
  show OGo p e below _ T37 (mkF m 24 #[.val (.ref b), .val (.ref a), .val (.int (Int32.ofNat us.length))] [])
  have g_d37 : n0 ≤ d37 := hd37.elim (fun q => q ▸ g_d) (fun q => Nat.le_trans (Nat.le_trans Z0 (Keep.refl h0 [b, d]).1) q)
  have sz_d37 : d37 ∈ [b, d] ∨ h0.size ≤ d37 := hd37.elim (fun q => Or.inl (q ▸ List.mem_of_getElem? (i := 1) rfl)) Or.inr
  obtain ⟨JE37, JF37, JC37, JN37, JV37, JX37⟩ := J37
  have nb2 : b ≠ d37 := JE37.neArv JV37 (hw _ (List.mem_of_getElem? (i := 49) rfl))
  have hcb : own_cap zn (bs.length + us.length) ≤ 226 := by unfold own_cap; split <;> omega
  have hcg := own_cap_ge zn (bs.length + us.length)
  refine OGo.step (fun _ k => XS.aloadN X37.here hx rfl (hb hby d_jdk_68_method_22_24) rfl rfl k) ?_
  show OGo p e below _ T37 (mkF m 25 #[.val (.ref b), .val (.ref a), .val (.int (Int32.ofNat us.length))] [(.ref b)])
  refine OGo.step (fun _ k => XS.aloadN X37.here hx rfl (hb hby d_jdk_68_method_22_25) rfl rfl k) ?_
  show OGo p e below _ T37 (mkF m 26 #[.val (.ref b), .val (.ref a), .val (.int (Int32.ofNat us.length))] [(.ref b), (.ref b)])
  obtain ⟨T38, X38, e38, st38⟩ := getF X37 hx hZ hown (host := "") (Or.inl (hw _ (List.mem_of_getElem? (i := 89) rfl))) Via.refl rfl JN37 (g := (mkF m 26 #[.val (.ref b), .val (.ref a), .val (.int (Int32.ofNat us.length))] [(.ref b), (.ref b)])) rfl rfl (hb hby d_jdk_68_method_22_26)
  refine OGo.step st38 ?_
  show OGo p e below _ T38 (mkF m 29 #[.val (.ref b), .val (.ref a), .val (.int (Int32.ofNat us.length))] [(.int (Int32.ofNat bs.length)), (.ref b)])
  refine OGo.step (fun _ k => XS.aloadN X38.here hx rfl (hb hby d_jdk_68_method_22_29) rfl rfl k) ?_
  show OGo p e below _ T38 (mkF m 30 #[.val (.ref b), .val (.ref a), .val (.int (Int32.ofNat us.length))] [(.ref a), (.int (Int32.ofNat bs.length)), (.ref b)])
  obtain ⟨v39, T39, L39, X39, hQ39, st39⟩ := pcall X38 hx hZ hown (hw _ (List.mem_of_getElem? (i := 122) rfl)) (hw _ (List.mem_of_getElem? (i := 123) rfl)) (hw _ (List.mem_of_getElem? (i := 125) rfl)) (hw _ (List.mem_of_getElem? (i := 124) rfl)) (hw _ (List.mem_of_getElem? (i := 58) rfl)) (hw _ (List.mem_of_getElem? (i := 126) rfl)) (by decide) (W := 0) (rm_put l Z a0 hw [] b d37 k37 (Int32.ofNat (own_cap zn (bs.length + us.length))) bs a e2 k2 us zc wf n0 T37.heap SS' (O.keep K37 (allS g_b all0)) ⟨JE37, JF37, JC37, JN37, JV37, JX37⟩ ⟨(IE.keep K37), (IC.keep K37 (ninS nab nin0)), (IF.keep K37 (ninS nab nin0)), (IV.keep K37 (ninS neb nin0))⟩ g_b g_d37 (by rw [own_cl (by omega)]; exact hcg) (by omega) (by omega) (own_nen IV.lt nde hd37) nab) e38 (by decide) (by decide) (by decide) (by decide) (g := (mkF m 30 #[.val (.ref b), .val (.ref a), .val (.int (Int32.ofNat us.length))] [(.ref a), (.int (Int32.ofNat bs.length)), (.ref b)])) rfl (by rw [hml]; rfl) JE37 (argsL := [(.int (Int32.ofNat bs.length)), (.ref a)]) (rest := []) opd_9 rfl rfl rfl (by show 2 * 0 + _ ≤ _; exact Nat.le_of_eq rfl) (hb hby d_jdk_68_method_22_30)
  obtain ⟨rfl, N39, K39, V39⟩ := hQ39
  have NN39 := Fr.app NN37 N39
  have KK39 : Keep h0 T39.heap [b, d] := KK37.trans K39 (allS sz_d37 all0)
  refine OGo.step st39 ?_
  show OGo p e below _ T39 (mkF m 33 #[.val (.ref b), .val (.ref a), .val (.int (Int32.ofNat us.length))] [])
  refine OGo.step (fun _ k => XS.aloadN X39.here hx rfl (hb hby d_jdk_68_method_22_33) rfl rfl k) ?_
  show OGo p e below _ T39 (mkF m 34 #[.val (.ref b), .val (.ref a), .val (.int (Int32.ofNat us.length))] [(.ref b)])
  refine OGo.step (fun _ k => XS.dup X39.here hx rfl (hb hby d_jdk_68_method_22_34) rfl rfl k) ?_
  show OGo p e below _ T39 (mkF m 35 #[.val (.ref b), .val (.ref a), .val (.int (Int32.ofNat us.length))] [(.ref b), (.ref b)])
  obtain ⟨T40, X40, e40, st40⟩ := getF X39 hx hZ hown (host := "") (Or.inl (hw _ (List.mem_of_getElem? (i := 89) rfl))) Via.refl rfl (JN37.keep K39 (ninS nb2 nin0)) (g := (mkF m 35 #[.val (.ref b), .val (.ref a), .val (.int (Int32.ofNat us.length))] [(.ref b), (.ref b)])) rfl rfl (hb hby d_jdk_68_method_22_35)
  refine OGo.step st40 ?_
  show OGo p e below _ T40 (mkF m 38 #[.val (.ref b), .val (.ref a), .val (.int (Int32.ofNat us.length))] [(.int (Int32.ofNat bs.length)), (.ref b)])
  refine OGo.step (fun _ k => XS.iloadN X40.here hx rfl (hb hby d_jdk_68_method_22_38) rfl k) ?_
  show OGo p e below _ T40 (mkF m 39 #[.val (.ref b), .val (.ref a), .val (.int (Int32.ofNat us.length))] [(.int (Int32.ofNat us.length)), (.int (Int32.ofNat bs.length)), (.ref b)])
  refine OGo.step (fun _ k => XS.iadd X40.here hx rfl (hb hby d_jdk_68_method_22_39) rfl k) ?_
  show OGo p e below _ T40 (mkF m 40 #[.val (.ref b), .val (.ref a), .val (.int (Int32.ofNat us.length))] [(.int ((Int32.ofNat bs.length) + (Int32.ofNat us.length))), (.ref b)])
  rw [own_addln]
  show OGo p e below _ T40 (mkF m 40 #[.val (.ref b), .val (.ref a), .val (.int (Int32.ofNat us.length))] [(.int (Int32.ofNat (bs ++ us).length)), (.ref b)])
  obtain ⟨T41, h41, X41, e41, W41, st41⟩ := putF X40 hx hZ hown (host := "") (Or.inl (hw _ (List.mem_of_getElem? (i := 89) rfl))) Via.refl e40 (JN37.keep K39 (ninS nb2 nin0)) (JE37.keep K39) (Or.inl (hw _ (List.mem_of_getElem? (i := 90) rfl))) (hw _ (List.mem_of_getElem? (i := 49) rfl)) (ty := .int) (by decide) rfl rfl (g := (mkF m 40 #[.val (.ref b), .val (.ref a), .val (.int (Int32.ofNat us.length))] [(.int (Int32.ofNat (bs ++ us).length)), (.ref b)])) rfl rfl (hb hby d_jdk_68_method_22_40)
  have Fw41 := (JN37.keep K39 (ninS nb2 nin0)).same W41
  have N41 := Fr.snoc X41 NN39 g_b
  have KK41 : Keep h0 h41 [b, d] := KK39.wr W41 (Or.inl (List.mem_of_getElem? (i := 0) rfl))
  refine OGo.step st41 ?_
  show OGo p e below _ T41 (mkF m 43 #[.val (.ref b), .val (.ref a), .val (.int (Int32.ofNat us.length))] [])
  refine OGo.step (fun _ k => XS.aloadN X41.here hx rfl (hb hby d_jdk_68_method_22_43) rfl rfl k) ?_
  show OGo p e below _ T41 (mkF m 44 #[.val (.ref b), .val (.ref a), .val (.int (Int32.ofNat us.length))] [(.ref b)])
  have q42 := ((JF37.keep K39 (ninS nb2 nin0)).other W41 (Or.inr (slot_ne (Or.inl (hw _ (List.mem_of_getElem? (i := 63) rfl))) (Or.inl (hw _ (List.mem_of_getElem? (i := 90) rfl))) (by decide) (t := (.array .byte)) (t' := .int) (by decide) (by decide))))
  have q43 := ((JC37.keep K39 (ninS nb2 nin0)).other W41 (Or.inr (slot_ne (Or.inl (hw _ (List.mem_of_getElem? (i := 65) rfl))) (Or.inl (hw _ (List.mem_of_getElem? (i := 90) rfl))) (by decide) (t := .byte) (t' := .int) (by decide) (by decide))))
  exact OGo.ret X41 hx (t := (.object "java/lang/AbstractStringBuilder")) hret hlk rfl (Or.inr (Or.inr (Or.inr (Or.inr ⟨rfl, rfl, rfl⟩)))) (hb hby d_jdk_68_method_22_44) (by decide) (by decide) (by rw [e41]; exact ⟨rfl, N41, KK41, d37, _, hd37, ⟨((JE37.keep K39).wr W41), q42, q43, Fw41, (V39.other W41 (Ne.symm nb2)), ((JX37.keep K39).wr W41)⟩⟩)
theorem d_jdk_67_method_7_0 : decode jdk_67_method_7_code 0 = .ok (.aload_n 0, 1) := by decide +kernel
theorem d_jdk_67_method_7_1 : decode jdk_67_method_7_code 1 = .ok (.aload_n 1, 1) := by decide +kernel
theorem opd_10 : parseMethodDescriptor "(Ljava/lang/String;)Ljava/lang/AbstractStringBuilder;" = some ⟨[(.object "java/lang/String")], some (.object "java/lang/AbstractStringBuilder")⟩ := by decide +kernel
theorem d_jdk_67_method_7_2 : decode jdk_67_method_7_code 2 = .ok (.invokespecial 29, 3) := by decide +kernel
theorem d_jdk_67_method_7_5 : decode jdk_67_method_7_code 5 = .ok (.pop, 1) := by decide +kernel
theorem d_jdk_67_method_7_6 : decode jdk_67_method_7_code 6 = .ok (.aload_n 0, 1) := by decide +kernel
theorem d_jdk_67_method_7_7 : decode jdk_67_method_7_code 7 = .ok (.areturn, 1) := by decide +kernel
theorem opl_rm_sbAppG : plainFor (⟨"java/lang/StringBuilder", "append", "(Ljava/lang/String;)Ljava/lang/StringBuilder;"⟩ : MethodName) = true := plainFor_of_name (by first | (simp [plainName, overriddenIn]; done) | decide +kernel)
set_option maxRecDepth 65536 in
set_option maxHeartbeats 40000000 in
theorem rm_sbAppG (l : Launch) (Z : State) (a0 : Array Value) (hw : ∀ d ∈ tables_1, d.before a0 Z = true) (ws : List Jvm.Cond) (b d : Addr) (k : ClassId) (zn : Nat) (bs : List Value) (a e2 : Addr) (k2 : ClassId) (us : List Value) (zc : Int32) (wf : Value) (n0 : Nat) (h0 : Heap) (SS : own_SS Z zc wf) (O : Old Z n0 h0) (J : SBI Z h0 b d k (Int32.ofNat zn) bs) (hzn : zn ≤ 112) (hbz : bs.length ≤ zn) (I : STI Z h0 a e2 k2 us) (g_b : n0 ≤ b) (g_d : n0 ≤ d) (hsm : bs.length + us.length ≤ 112) (nde : e2 ≠ d) (nab : a ≠ b) :
    Con l Z (⟨"java/lang/StringBuilder", "append", "(Ljava/lang/String;)Ljava/lang/StringBuilder;"⟩ : MethodName) jdk_67_method_7_code 2 (some (.object "java/lang/StringBuilder")) ws ({ frames := 5, cells := 1, slots := 226, locals := 76 } : Room) #[(.ref b), (.ref a)] h0 (fun v h L => v = some (.ref b) ∧ Fr n0 L ∧ Keep h0 h [b, d] ∧ ∃ d' k', (d' = d ∨ h0.size ≤ d') ∧ SBI Z h b d' k' (Int32.ofNat (own_cap zn (bs.length + us.length))) (bs ++ us)) := by
  refine Con.intro opl_rm_sbAppG ?_
  intro p e s m below meth c s₁ hx hby hml hown hret hlk hZ hnm X0 e0
  have SS' := SS
  obtain ⟨hzc, SC, hwf, SF⟩ := SS
  have Z0 : n0 ≤ h0.size := O.1 ▸ O.2.1
  have N0 := Fr.nil n0
  obtain ⟨JE, JF, JC, JN, JV, JX⟩ := J
  obtain ⟨IE, IC, IF, IV⟩ := I
  have nbd : b ≠ d := JE.neArv JV (hw _ (List.mem_of_getElem? (i := 49) rfl))
  have neb : e2 ≠ b := Ne.symm (JE.neArv IV (hw _ (List.mem_of_getElem? (i := 49) rfl)))
  refine OGo.cast (g' := (mkF m 0 #[.val (.ref b), .val (.ref a)] [])) (by first | (simp [entryFrame, mkF, argsToLocals, Value.category]; done) | rfl) ?_
  show OGo p e below _ s₁ (mkF m 0 #[.val (.ref b), .val (.ref a)] [])
  refine OGo.step (fun _ k => XS.aloadN X0.here hx rfl (hb hby d_jdk_67_method_7_0) rfl rfl k) ?_
  show OGo p e below _ s₁ (mkF m 1 #[.val (.ref b), .val (.ref a)] [(.ref b)])
  refine OGo.step (fun _ k => XS.aloadN X0.here hx rfl (hb hby d_jdk_67_method_7_1) rfl rfl k) ?_
  show OGo p e below _ s₁ (mkF m 2 #[.val (.ref b), .val (.ref a)] [(.ref a), (.ref b)])
  obtain ⟨v44, T44, L44, X44, hQ44, st44⟩ := ucall X0 hx hZ hown (hw _ (List.mem_of_getElem? (i := 74) rfl)) (own_same (hw _ (List.mem_of_getElem? (i := 94) rfl)) rfl (hw _ (List.mem_of_getElem? (i := 75) rfl)) (by decide)) (hw _ (List.mem_of_getElem? (i := 75) rfl)) (hw _ (List.mem_of_getElem? (i := 76) rfl)) (hw _ (List.mem_of_getElem? (i := 58) rfl)) (hw _ (List.mem_of_getElem? (i := 78) rfl)) (by decide) (W := 0) (rm_asbAppG l Z a0 hw [] b d k zn bs a e2 k2 us zc wf n0 h0 SS' O ⟨JE, JF, JC, JN, JV, JX⟩ hzn hbz ⟨IE, IC, IF, IV⟩ g_b g_d hsm nde nab) e0 (by decide) (by decide) (by decide) (by decide) (g := (mkF m 2 #[.val (.ref b), .val (.ref a)] [(.ref a), (.ref b)])) rfl (by rw [hml]; rfl) JE (argsL := [(.ref a)]) (rest := []) opd_10 rfl rfl rfl (by show 2 * 0 + _ ≤ _; exact Nat.le_of_eq rfl) (hb hby d_jdk_67_method_7_2)
  obtain ⟨rfl, N44, K44, d44, k44, hd44, J44⟩ := hQ44
  have NN44 := Fr.app N0 N44
  have KK44 : Keep h0 T44.heap [b, d] := (Keep.refl h0 [b, d]).trans K44 (allS (Or.inl (List.mem_of_getElem? (i := 0) rfl)) (allS (Or.inl (List.mem_of_getElem? (i := 1) rfl)) all0))
  refine OGo.step st44 ?_
  show OGo p e below _ T44 (mkF m 5 #[.val (.ref b), .val (.ref a)] [(.ref b)])
  refine OGo.step (fun _ k => XS.pop X44.here hx rfl (hb hby d_jdk_67_method_7_5) rfl rfl k) ?_
  show OGo p e below _ T44 (mkF m 6 #[.val (.ref b), .val (.ref a)] [])
  refine OGo.step (fun _ k => XS.aloadN X44.here hx rfl (hb hby d_jdk_67_method_7_6) rfl rfl k) ?_
  show OGo p e below _ T44 (mkF m 7 #[.val (.ref b), .val (.ref a)] [(.ref b)])
  exact OGo.ret X44 hx (t := (.object "java/lang/StringBuilder")) hret hlk rfl (Or.inr (Or.inr (Or.inr (Or.inr ⟨rfl, rfl, rfl⟩)))) (hb hby d_jdk_67_method_7_7) (by decide) (by decide) ⟨rfl, NN44, KK44, d44, _, hd44, J44⟩
theorem d_jdk_68_method_2_0 : decode jdk_68_method_2_code 0 = .ok (.aload_n 0, 1) := by decide +kernel
theorem d_jdk_68_method_2_1 : decode jdk_68_method_2_code 1 = .ok (.invokespecial 3, 3) := by decide +kernel
theorem d_jdk_68_method_2_4 : decode jdk_68_method_2_code 4 = .ok (.getstatic 18, 3) := by decide +kernel
theorem d_jdk_68_method_2_7 : decode jdk_68_method_2_code 7 = .ok (.ifCond .eq 18, 3) := by decide +kernel
theorem d_jdk_68_method_2_10 : decode jdk_68_method_2_code 10 = .ok (.aload_n 0, 1) := by decide +kernel
theorem d_jdk_68_method_2_11 : decode jdk_68_method_2_code 11 = .ok (.iload_n 1, 1) := by decide +kernel
theorem d_jdk_68_method_2_12 : decode jdk_68_method_2_code 12 = .ok (.newarray .byte, 2) := by decide +kernel
theorem d_jdk_68_method_2_14 : decode jdk_68_method_2_code 14 = .ok (.putfield 15, 3) := by decide +kernel
theorem d_jdk_68_method_2_17 : decode jdk_68_method_2_code 17 = .ok (.aload_n 0, 1) := by decide +kernel
theorem d_jdk_68_method_2_18 : decode jdk_68_method_2_code 18 = .ok (.iconst 0, 1) := by decide +kernel
theorem d_jdk_68_method_2_19 : decode jdk_68_method_2_code 19 = .ok (.putfield 22, 3) := by decide +kernel
theorem d_jdk_68_method_2_22 : decode jdk_68_method_2_code 22 = .ok (.goto 16, 3) := by decide +kernel
theorem d_jdk_68_method_2_38 : decode jdk_68_method_2_code 38 = .ok (.return_, 1) := by decide +kernel
theorem opl_rm_asbInit : plainFor (⟨"java/lang/AbstractStringBuilder", "<init>", "(I)V"⟩ : MethodName) = true := plainFor_of_name (by first | (simp [plainName, overriddenIn]; done) | decide +kernel)
set_option maxRecDepth 65536 in
set_option maxHeartbeats 40000000 in
theorem rm_asbInit (l : Launch) (Z : State) (a0 : Array Value) (hw : ∀ d ∈ tables_1, d.before a0 Z = true) (ws : List Jvm.Cond) (b : Addr) (zc : Int32) (wf : Value) (n0 : Nat) (h0 : Heap) (SS : own_SS Z zc wf) (O : Old Z n0 h0) (E : Exa Z h0 b "java/lang/StringBuilder") (Fv : Fld Z h0 b "java/lang/AbstractStringBuilder" "value" "[B" .null) (Fc : Fld Z h0 b "java/lang/AbstractStringBuilder" "coder" "B" (.int (0 : Int32))) (Fn : Fld Z h0 b "java/lang/AbstractStringBuilder" "count" "I" (.int (0 : Int32))) (g_b : n0 ≤ b) :
    Con l Z (⟨"java/lang/AbstractStringBuilder", "<init>", "(I)V"⟩ : MethodName) jdk_68_method_2_code 2 none ws ({ frames := 1, cells := 1, slots := 16, locals := 12 } : Room) #[(.ref b), (.int (16 : Int32))] h0 (fun v h L => v = none ∧ Fr n0 L ∧ Keep h0 h [b] ∧ ∃ d k, h0.size ≤ d ∧ SBI Z h b d k (Int32.ofNat 16) []) := by
  refine Con.intro opl_rm_asbInit ?_
  intro p e s m below meth c s₁ hx hby hml hown hret hlk hZ hnm X0 e0
  obtain ⟨hzc, SC, hwf, SF⟩ := SS
  have Z0 : n0 ≤ h0.size := O.1 ▸ O.2.1
  have N0 := Fr.nil n0
  refine OGo.cast (g' := (mkF m 0 #[.val (.ref b), .val (.int (16 : Int32))] [])) (by first | (simp [entryFrame, mkF, argsToLocals, Value.category]; done) | rfl) ?_
  show OGo p e below _ s₁ (mkF m 0 #[.val (.ref b), .val (.int (16 : Int32))] [])
  refine OGo.step (fun _ k => XS.aloadN X0.here hx rfl (hb hby d_jdk_68_method_2_0) rfl rfl k) ?_
  show OGo p e below _ s₁ (mkF m 1 #[.val (.ref b), .val (.int (16 : Int32))] [(.ref b)])
  obtain ⟨T45, X45, e45, st45⟩ := initO X0 hx hZ hown (hw _ (List.mem_of_getElem? (i := 60) rfl)) (hw _ (List.mem_of_getElem? (i := 20) rfl)) (hw _ (List.mem_of_getElem? (i := 21) rfl)) e0 (g := (mkF m 1 #[.val (.ref b), .val (.int (16 : Int32))] [(.ref b)])) rfl (by rw [hml]; rfl) rfl (hb hby d_jdk_68_method_2_1) (by decide) (W := 0) (by show 2 * 0 + _ ≤ _; exact Nat.le_of_eq rfl) (by decide)
  refine OGo.step st45 ?_
  show OGo p e below _ T45 (mkF m 4 #[.val (.ref b), .val (.int (16 : Int32))] [])
  obtain ⟨T46, X46, e46, st46⟩ := getS2 X45 hx hZ hown (host := "") (Or.inl (hw _ (List.mem_of_getElem? (i := 61) rfl))) Via.refl e45 (SC.ext O.2) (g := (mkF m 4 #[.val (.ref b), .val (.int (16 : Int32))] [])) rfl (hb hby d_jdk_68_method_2_4)
  refine OGo.step st46 ?_
  show OGo p e below _ T46 (mkF m 7 #[.val (.ref b), .val (.int (16 : Int32))] [(.int zc)])
  refine OGo.step (fun _ k => XS.ifNo X46.here hx rfl (hb hby d_jdk_68_method_2_7) rfl ((if0 _ _).trans (feq hzc).1) k) ?_
  show OGo p e below _ T46 (mkF m 10 #[.val (.ref b), .val (.int (16 : Int32))] [])
  refine OGo.step (fun _ k => XS.aloadN X46.here hx rfl (hb hby d_jdk_68_method_2_10) rfl rfl k) ?_
  show OGo p e below _ T46 (mkF m 11 #[.val (.ref b), .val (.int (16 : Int32))] [(.ref b)])
  refine OGo.step (fun _ k => XS.iloadN X46.here hx rfl (hb hby d_jdk_68_method_2_11) rfl k) ?_
  show OGo p e below _ T46 (mkF m 12 #[.val (.ref b), .val (.int (16 : Int32))] [(.int (16 : Int32)), (.ref b)])
  obtain ⟨T47, h47, k47, X47, e47, E47, A47, AE47, st47⟩ := newPE X46 hx hZ (hw _ (List.mem_of_getElem? (i := 14) rfl)) e46 (g := (mkF m 12 #[.val (.ref b), .val (.int (16 : Int32))] [(.int (16 : Int32)), (.ref b)])) rfl (hb hby d_jdk_68_method_2_12) rfl (by decide) (cap := 16) (by decide) (by decide) (by decide) (by decide) (ad := "[B") (by decide)
  obtain ⟨b47, g47⟩ : ∃ z, z = h0.size := ⟨_, rfl⟩
  rw [← g47] at A47 AE47 st47
  have sz_b47 : h0.size ≤ b47 := Nat.le_trans (Keep.refl h0 [b]).1 (Nat.le_of_eq g47.symm)
  have KK47 : Keep h0 h47 [b] := (Keep.refl h0 [b]).ext E47
  have V47 : Arv Z h47 b47 k47 .byte (16 : Int32) [] (.int (0 : Int32)) := Arv.new A47 (by decide)
  refine OGo.step st47 ?_
  show OGo p e below _ T47 (mkF m 14 #[.val (.ref b), .val (.int (16 : Int32))] [(.ref b47), (.ref b)])
  obtain ⟨T48, h48, X48, e48, W48, st48⟩ := putF X47 hx hZ hown (host := "") (Or.inl (hw _ (List.mem_of_getElem? (i := 62) rfl))) Via.refl e47 (Fv.ext E47) (E.ext E47) (Or.inl (hw _ (List.mem_of_getElem? (i := 63) rfl))) (hw _ (List.mem_of_getElem? (i := 49) rfl)) (ty := (.array .byte)) (by decide) rfl rfl (g := (mkF m 14 #[.val (.ref b), .val (.int (16 : Int32))] [(.ref b47), (.ref b)])) rfl rfl (hb hby d_jdk_68_method_2_14)
  have Fw48 := (Fv.ext E47).same W48
  have N48 := Fr.snoc X48 N0 g_b
  have KK48 : Keep h0 h48 [b] := KK47.wr W48 (Or.inl (List.mem_of_getElem? (i := 0) rfl))
  refine OGo.step st48 ?_
  show OGo p e below _ T48 (mkF m 17 #[.val (.ref b), .val (.int (16 : Int32))] [])
  refine OGo.step (fun _ k => XS.aloadN X48.here hx rfl (hb hby d_jdk_68_method_2_17) rfl rfl k) ?_
  show OGo p e below _ T48 (mkF m 18 #[.val (.ref b), .val (.int (16 : Int32))] [(.ref b)])
  refine OGo.step (fun _ k => XS.iconst X48.here hx rfl (hb hby d_jdk_68_method_2_18) k) ?_
  show OGo p e below _ T48 (mkF m 19 #[.val (.ref b), .val (.int (16 : Int32))] [(.int (0 : Int32)), (.ref b)])
  have q50 := ((Fc.ext E47).other W48 (Or.inr (slot_ne (Or.inl (hw _ (List.mem_of_getElem? (i := 65) rfl))) (Or.inl (hw _ (List.mem_of_getElem? (i := 63) rfl))) (by decide) (t := .byte) (t' := (.array .byte)) (by decide) (by decide))))
  obtain ⟨T49, h49, X49, e49, W49, st49⟩ := putFN X48 hx hZ hown (hw _ (List.mem_of_getElem? (i := 64) rfl)) Via.refl e48 q50 ((E.ext E47).wr W48) (Or.inl (hw _ (List.mem_of_getElem? (i := 65) rfl))) (hw _ (List.mem_of_getElem? (i := 49) rfl)) (ty := .byte) (v' := (.int (0 : Int32))) (by decide) rfl rfl (g := (mkF m 19 #[.val (.ref b), .val (.int (16 : Int32))] [(.int (0 : Int32)), (.ref b)])) rfl rfl (hb hby d_jdk_68_method_2_19)
  have Fw49 := q50.same W49
  have N49 := Fr.snoc X49 N48 g_b
  have KK49 : Keep h0 h49 [b] := KK48.wr W49 (Or.inl (List.mem_of_getElem? (i := 0) rfl))
  refine OGo.step st49 ?_
  show OGo p e below _ T49 (mkF m 22 #[.val (.ref b), .val (.int (16 : Int32))] [])
  refine OGo.step (fun _ k => XS.goto X49.here hx rfl (pc0 := 22) (pc' := 38) rfl (hb hby d_jdk_68_method_2_22) (by decide) (by decide) k) ?_
  show OGo p e below _ T49 (mkF m 38 #[.val (.ref b), .val (.int (16 : Int32))] [])
  refine OGo.cast rfl ?_
  have q51 := (Fw48.other W49 (Or.inr (slot_ne (Or.inl (hw _ (List.mem_of_getElem? (i := 63) rfl))) (Or.inl (hw _ (List.mem_of_getElem? (i := 65) rfl))) (by decide) (t := (.array .byte)) (t' := .byte) (by decide) (by decide))))
  have q52 := (((Fn.ext E47).other W48 (Or.inr (slot_ne (Or.inl (hw _ (List.mem_of_getElem? (i := 90) rfl))) (Or.inl (hw _ (List.mem_of_getElem? (i := 63) rfl))) (by decide) (t := .int) (t' := (.array .byte)) (by decide) (by decide)))).other W49 (Or.inr (slot_ne (Or.inl (hw _ (List.mem_of_getElem? (i := 90) rfl))) (Or.inl (hw _ (List.mem_of_getElem? (i := 65) rfl))) (by decide) (t := .int) (t' := .byte) (by decide) (by decide))))
  have ne53 : b47 ≠ b := (Ne.symm (Nat.ne_of_lt (Nat.lt_of_lt_of_le E.lt sz_b47)))
  exact OGo.retV X49 hx hret hlk (hb hby d_jdk_68_method_2_38) (by decide) (by decide) (by rw [e49]; exact ⟨rfl, N49, KK49, b47, _, sz_b47, ⟨(((E.ext E47).wr W48).wr W49), q51, Fw49, q52, ((V47.other W48 ne53).other W49 ne53), ((AE47.wr W48).wr W49)⟩⟩)
theorem d_jdk_67_method_1_0 : decode jdk_67_method_1_code 0 = .ok (.aload_n 0, 1) := by decide +kernel
theorem d_jdk_67_method_1_1 : decode jdk_67_method_1_code 1 = .ok (.bipush 16, 2) := by decide +kernel
theorem d_jdk_67_method_1_3 : decode jdk_67_method_1_code 3 = .ok (.invokespecial 1, 3) := by decide +kernel
theorem d_jdk_67_method_1_6 : decode jdk_67_method_1_code 6 = .ok (.return_, 1) := by decide +kernel
theorem opl_rm_sbInit : plainFor (⟨"java/lang/StringBuilder", "<init>", "()V"⟩ : MethodName) = true := plainFor_of_name (by first | (simp [plainName, overriddenIn]; done) | decide +kernel)
set_option maxRecDepth 65536 in
set_option maxHeartbeats 40000000 in
theorem rm_sbInit (l : Launch) (Z : State) (a0 : Array Value) (hw : ∀ d ∈ tables_1, d.before a0 Z = true) (ws : List Jvm.Cond) (b : Addr) (zc : Int32) (wf : Value) (n0 : Nat) (h0 : Heap) (SS : own_SS Z zc wf) (O : Old Z n0 h0) (E : Exa Z h0 b "java/lang/StringBuilder") (Fv : Fld Z h0 b "java/lang/AbstractStringBuilder" "value" "[B" .null) (Fc : Fld Z h0 b "java/lang/AbstractStringBuilder" "coder" "B" (.int (0 : Int32))) (Fn : Fld Z h0 b "java/lang/AbstractStringBuilder" "count" "I" (.int (0 : Int32))) (g_b : n0 ≤ b) :
    Con l Z (⟨"java/lang/StringBuilder", "<init>", "()V"⟩ : MethodName) jdk_67_method_1_code 1 none ws ({ frames := 2, cells := 1, slots := 16, locals := 25 } : Room) #[(.ref b)] h0 (fun v h L => v = none ∧ Fr n0 L ∧ Keep h0 h [b] ∧ ∃ d k, h0.size ≤ d ∧ SBI Z h b d k (Int32.ofNat 16) []) := by
  refine Con.intro opl_rm_sbInit ?_
  intro p e s m below meth c s₁ hx hby hml hown hret hlk hZ hnm X0 e0
  have SS' := SS
  obtain ⟨hzc, SC, hwf, SF⟩ := SS
  have Z0 : n0 ≤ h0.size := O.1 ▸ O.2.1
  have N0 := Fr.nil n0
  refine OGo.cast (g' := (mkF m 0 #[.val (.ref b)] [])) (by first | (simp [entryFrame, mkF, argsToLocals, Value.category]; done) | rfl) ?_
  show OGo p e below _ s₁ (mkF m 0 #[.val (.ref b)] [])
  refine OGo.step (fun _ k => XS.aloadN X0.here hx rfl (hb hby d_jdk_67_method_1_0) rfl rfl k) ?_
  show OGo p e below _ s₁ (mkF m 1 #[.val (.ref b)] [(.ref b)])
  refine OGo.step (fun _ k => XS.bipush X0.here hx rfl (hb hby d_jdk_67_method_1_1) k) ?_
  show OGo p e below _ s₁ (mkF m 3 #[.val (.ref b)] [(.int (16 : Int32)), (.ref b)])
  obtain ⟨v54, T54, L54, X54, hQ54, st54⟩ := icall X0 hx hZ rfl hown (hw _ (List.mem_of_getElem? (i := 54) rfl)) (hw _ (List.mem_of_getElem? (i := 55) rfl)) (hw _ (List.mem_of_getElem? (i := 58) rfl)) (hw _ (List.mem_of_getElem? (i := 59) rfl)) (by decide) (W := 0) (rm_asbInit l Z a0 hw [] b zc wf n0 h0 SS' O E Fv Fc Fn g_b) e0 (by decide) (by decide) (by decide) (by decide) (g := (mkF m 3 #[.val (.ref b)] [(.int (16 : Int32)), (.ref b)])) rfl (by rw [hml]; rfl) (a := b) (argsL := [(.int (16 : Int32))]) (rest := []) opd_8 rfl rfl rfl (by show 2 * 0 + _ ≤ _; exact Nat.le_of_eq rfl) (hb hby d_jdk_67_method_1_3)
  obtain ⟨rfl, N54, K54, d54, k54, sd54, I54⟩ := hQ54
  have NN54 := Fr.app N0 N54
  have KK54 : Keep h0 T54.heap [b] := (Keep.refl h0 [b]).trans K54 (allS (Or.inl (List.mem_of_getElem? (i := 0) rfl)) all0)
  refine OGo.step st54 ?_
  show OGo p e below _ T54 (mkF m 6 #[.val (.ref b)] [])
  exact OGo.retV X54 hx hret hlk (hb hby d_jdk_67_method_1_6) (by decide) (by decide) ⟨rfl, NN54, KK54, d54, k54, sd54, I54⟩
theorem d_jdk_68_method_64_0 : decode jdk_68_method_64_code 0 = .ok (.aload_n 0, 1) := by decide +kernel
theorem d_jdk_68_method_64_1 : decode jdk_68_method_64_code 1 = .ok (.getfield 15, 3) := by decide +kernel
theorem d_jdk_68_method_64_4 : decode jdk_68_method_64_code 4 = .ok (.areturn, 1) := by decide +kernel
theorem opl_rm_getV : plainFor (⟨"java/lang/AbstractStringBuilder", "getValue", "()[B"⟩ : MethodName) = true := plainFor_of_name (by first | (simp [plainName, overriddenIn]; done) | decide +kernel)
set_option maxRecDepth 65536 in
set_option maxHeartbeats 40000000 in
theorem rm_getV (l : Launch) (Z : State) (a0 : Array Value) (hw : ∀ d ∈ tables_1, d.before a0 Z = true) (ws : List Jvm.Cond) (b d : Addr) (k : ClassId) (zn : Nat) (bs : List Value) (zc : Int32) (wf : Value) (n0 : Nat) (h0 : Heap) (SS : own_SS Z zc wf) (O : Old Z n0 h0) (J : SBI Z h0 b d k (Int32.ofNat zn) bs) :
    Con l Z (⟨"java/lang/AbstractStringBuilder", "getValue", "()[B"⟩ : MethodName) jdk_68_method_64_code 1 (some (.array .byte)) ws ({ frames := 0, cells := 0, slots := 0, locals := 0 } : Room) #[(.ref b)] h0 (fun v h L => v = some (.ref d) ∧ L = [] ∧ h = h0) := by
  refine Con.intro opl_rm_getV ?_
  intro p e s m below meth c s₁ hx hby hml hown hret hlk hZ hnm X0 e0
  have SS' := SS
  obtain ⟨hzc, SC, hwf, SF⟩ := SS
  have Z0 : n0 ≤ h0.size := O.1 ▸ O.2.1
  have N0 := Fr.nil n0
  obtain ⟨JE, JF, JC, JN, JV, JX⟩ := J
  refine OGo.cast (g' := (mkF m 0 #[.val (.ref b)] [])) (by first | (simp [entryFrame, mkF, argsToLocals, Value.category]; done) | rfl) ?_
  show OGo p e below _ s₁ (mkF m 0 #[.val (.ref b)] [])
  refine OGo.step (fun _ k => XS.aloadN X0.here hx rfl (hb hby d_jdk_68_method_64_0) rfl rfl k) ?_
  show OGo p e below _ s₁ (mkF m 1 #[.val (.ref b)] [(.ref b)])
  obtain ⟨T55, X55, e55, st55⟩ := getF X0 hx hZ hown (host := "") (Or.inl (hw _ (List.mem_of_getElem? (i := 62) rfl))) Via.refl e0 JF (g := (mkF m 1 #[.val (.ref b)] [(.ref b)])) rfl rfl (hb hby d_jdk_68_method_64_1)
  refine OGo.step st55 ?_
  show OGo p e below _ T55 (mkF m 4 #[.val (.ref b)] [(.ref d)])
  exact OGo.ret X55 hx (t := (.array .byte)) hret hlk rfl (Or.inr (Or.inr (Or.inr (Or.inr ⟨rfl, rfl, rfl⟩)))) (hb hby d_jdk_68_method_64_4) (by decide) (by decide) ⟨rfl, rfl, e55⟩
theorem d_jdk_68_method_6_0 : decode jdk_68_method_6_code 0 = .ok (.aload_n 0, 1) := by decide +kernel
theorem d_jdk_68_method_6_1 : decode jdk_68_method_6_code 1 = .ok (.getfield 79, 3) := by decide +kernel
theorem d_jdk_68_method_6_4 : decode jdk_68_method_6_code 4 = .ok (.ireturn, 1) := by decide +kernel
theorem opl_rm_asbLen : plainFor (⟨"java/lang/AbstractStringBuilder", "length", "()I"⟩ : MethodName) = true := plainFor_of_name (by first | (simp [plainName, overriddenIn]; done) | decide +kernel)
set_option maxRecDepth 65536 in
set_option maxHeartbeats 40000000 in
theorem rm_asbLen (l : Launch) (Z : State) (a0 : Array Value) (hw : ∀ d ∈ tables_1, d.before a0 Z = true) (ws : List Jvm.Cond) (b d : Addr) (k : ClassId) (zn : Nat) (bs : List Value) (zc : Int32) (wf : Value) (n0 : Nat) (h0 : Heap) (SS : own_SS Z zc wf) (O : Old Z n0 h0) (J : SBI Z h0 b d k (Int32.ofNat zn) bs) :
    Con l Z (⟨"java/lang/AbstractStringBuilder", "length", "()I"⟩ : MethodName) jdk_68_method_6_code 1 (some .int) ws ({ frames := 0, cells := 0, slots := 0, locals := 0 } : Room) #[(.ref b)] h0 (fun v h L => v = some (.int (Int32.ofNat bs.length)) ∧ L = [] ∧ h = h0) := by
  refine Con.intro opl_rm_asbLen ?_
  intro p e s m below meth c s₁ hx hby hml hown hret hlk hZ hnm X0 e0
  have SS' := SS
  obtain ⟨hzc, SC, hwf, SF⟩ := SS
  have Z0 : n0 ≤ h0.size := O.1 ▸ O.2.1
  have N0 := Fr.nil n0
  obtain ⟨JE, JF, JC, JN, JV, JX⟩ := J
  refine OGo.cast (g' := (mkF m 0 #[.val (.ref b)] [])) (by first | (simp [entryFrame, mkF, argsToLocals, Value.category]; done) | rfl) ?_
  show OGo p e below _ s₁ (mkF m 0 #[.val (.ref b)] [])
  refine OGo.step (fun _ k => XS.aloadN X0.here hx rfl (hb hby d_jdk_68_method_6_0) rfl rfl k) ?_
  show OGo p e below _ s₁ (mkF m 1 #[.val (.ref b)] [(.ref b)])
  obtain ⟨T56, X56, e56, st56⟩ := getF X0 hx hZ hown (host := "") (Or.inl (hw _ (List.mem_of_getElem? (i := 89) rfl))) Via.refl e0 JN (g := (mkF m 1 #[.val (.ref b)] [(.ref b)])) rfl rfl (hb hby d_jdk_68_method_6_1)
  refine OGo.step st56 ?_
  show OGo p e below _ T56 (mkF m 4 #[.val (.ref b)] [(.int (Int32.ofNat bs.length))])
  exact OGo.ret X56 hx (t := .int) hret hlk rfl (Or.inl ⟨rfl, by simp, _, rfl⟩) (hb hby d_jdk_68_method_6_4) (by decide) (by decide) ⟨rfl, rfl, e56⟩
theorem d_jdk_67_method_93_0 : decode jdk_67_method_93_code 0 = .ok (.aload_n 0, 1) := by decide +kernel
theorem d_jdk_67_method_93_1 : decode jdk_67_method_93_code 1 = .ok (.invokespecial 343, 3) := by decide +kernel
theorem d_jdk_67_method_93_4 : decode jdk_67_method_93_code 4 = .ok (.ireturn, 1) := by decide +kernel
theorem opl_rm_sbLen : plainFor (⟨"java/lang/StringBuilder", "length", "()I"⟩ : MethodName) = true := plainFor_of_name (by first | (simp [plainName, overriddenIn]; done) | decide +kernel)
set_option maxRecDepth 65536 in
set_option maxHeartbeats 40000000 in
theorem rm_sbLen (l : Launch) (Z : State) (a0 : Array Value) (hw : ∀ d ∈ tables_1, d.before a0 Z = true) (ws : List Jvm.Cond) (b d : Addr) (k : ClassId) (zn : Nat) (bs : List Value) (zc : Int32) (wf : Value) (n0 : Nat) (h0 : Heap) (SS : own_SS Z zc wf) (O : Old Z n0 h0) (J : SBI Z h0 b d k (Int32.ofNat zn) bs) :
    Con l Z (⟨"java/lang/StringBuilder", "length", "()I"⟩ : MethodName) jdk_67_method_93_code 1 (some .int) ws ({ frames := 1, cells := 0, slots := 0, locals := 12 } : Room) #[(.ref b)] h0 (fun v h L => v = some (.int (Int32.ofNat bs.length)) ∧ L = [] ∧ h = h0) := by
  refine Con.intro opl_rm_sbLen ?_
  intro p e s m below meth c s₁ hx hby hml hown hret hlk hZ hnm X0 e0
  have SS' := SS
  obtain ⟨hzc, SC, hwf, SF⟩ := SS
  have Z0 : n0 ≤ h0.size := O.1 ▸ O.2.1
  have N0 := Fr.nil n0
  obtain ⟨JE, JF, JC, JN, JV, JX⟩ := J
  refine OGo.cast (g' := (mkF m 0 #[.val (.ref b)] [])) (by first | (simp [entryFrame, mkF, argsToLocals, Value.category]; done) | rfl) ?_
  show OGo p e below _ s₁ (mkF m 0 #[.val (.ref b)] [])
  refine OGo.step (fun _ k => XS.aloadN X0.here hx rfl (hb hby d_jdk_67_method_93_0) rfl rfl k) ?_
  show OGo p e below _ s₁ (mkF m 1 #[.val (.ref b)] [(.ref b)])
  obtain ⟨v57, T57, L57, X57, hQ57, st57⟩ := ucall X0 hx hZ hown (hw _ (List.mem_of_getElem? (i := 163) rfl)) (own_same (hw _ (List.mem_of_getElem? (i := 94) rfl)) rfl (hw _ (List.mem_of_getElem? (i := 159) rfl)) (by decide)) (hw _ (List.mem_of_getElem? (i := 159) rfl)) (hw _ (List.mem_of_getElem? (i := 76) rfl)) (hw _ (List.mem_of_getElem? (i := 58) rfl)) (hw _ (List.mem_of_getElem? (i := 164) rfl)) (by decide) (W := 0) (rm_asbLen l Z a0 hw [] b d k zn bs zc wf n0 h0 SS' O ⟨JE, JF, JC, JN, JV, JX⟩) e0 (by decide) (by decide) (by decide) (by decide) (g := (mkF m 1 #[.val (.ref b)] [(.ref b)])) rfl (by rw [hml]; rfl) JE (argsL := []) (rest := []) opd_7 rfl rfl rfl (by show 2 * 0 + _ ≤ _; exact Nat.le_of_eq rfl) (hb hby d_jdk_67_method_93_1)
  obtain ⟨rfl, rfl, e57⟩ := hQ57
  rw [List.append_nil] at X57
  refine OGo.step st57 ?_
  show OGo p e below _ T57 (mkF m 4 #[.val (.ref b)] [(.int (Int32.ofNat bs.length))])
  exact OGo.ret X57 hx (t := .int) hret hlk rfl (Or.inl ⟨rfl, by simp, _, rfl⟩) (hb hby d_jdk_67_method_93_4) (by decide) (by decide) ⟨rfl, rfl, e57⟩
theorem d_jdk_68_method_68_0 : decode jdk_68_method_68_code 0 = .ok (.getstatic 18, 3) := by decide +kernel
theorem d_jdk_68_method_68_3 : decode jdk_68_method_68_code 3 = .ok (.ifCond .eq 14, 3) := by decide +kernel
theorem d_jdk_68_method_68_6 : decode jdk_68_method_68_code 6 = .ok (.aload_n 0, 1) := by decide +kernel
theorem d_jdk_68_method_68_7 : decode jdk_68_method_68_code 7 = .ok (.getfield 22, 3) := by decide +kernel
theorem d_jdk_68_method_68_10 : decode jdk_68_method_68_code 10 = .ok (.ifCond .ne 7, 3) := by decide +kernel
theorem d_jdk_68_method_68_13 : decode jdk_68_method_68_code 13 = .ok (.iconst 1, 1) := by decide +kernel
theorem d_jdk_68_method_68_14 : decode jdk_68_method_68_code 14 = .ok (.goto 4, 3) := by decide +kernel
theorem d_jdk_68_method_68_18 : decode jdk_68_method_68_code 18 = .ok (.ireturn, 1) := by decide +kernel
theorem opl_rm_asbL1 : plainFor (⟨"java/lang/AbstractStringBuilder", "isLatin1", "()Z"⟩ : MethodName) = true := plainFor_of_name (by first | (simp [plainName, overriddenIn]; done) | decide +kernel)
set_option maxRecDepth 65536 in
set_option maxHeartbeats 40000000 in
theorem rm_asbL1 (l : Launch) (Z : State) (a0 : Array Value) (hw : ∀ d ∈ tables_1, d.before a0 Z = true) (ws : List Jvm.Cond) (b d : Addr) (k : ClassId) (zn : Nat) (bs : List Value) (zc : Int32) (wf : Value) (n0 : Nat) (h0 : Heap) (SS : own_SS Z zc wf) (O : Old Z n0 h0) (J : SBI Z h0 b d k (Int32.ofNat zn) bs) :
    Con l Z (⟨"java/lang/AbstractStringBuilder", "isLatin1", "()Z"⟩ : MethodName) jdk_68_method_68_code 1 (some .boolean) ws ({ frames := 0, cells := 0, slots := 0, locals := 0 } : Room) #[(.ref b)] h0 (fun v h L => v = some (.int (1 : Int32)) ∧ L = [] ∧ h = h0) := by
  refine Con.intro opl_rm_asbL1 ?_
  intro p e s m below meth c s₁ hx hby hml hown hret hlk hZ hnm X0 e0
  have SS' := SS
  obtain ⟨hzc, SC, hwf, SF⟩ := SS
  have Z0 : n0 ≤ h0.size := O.1 ▸ O.2.1
  have N0 := Fr.nil n0
  obtain ⟨JE, JF, JC, JN, JV, JX⟩ := J
  refine OGo.cast (g' := (mkF m 0 #[.val (.ref b)] [])) (by first | (simp [entryFrame, mkF, argsToLocals, Value.category]; done) | rfl) ?_
  show OGo p e below _ s₁ (mkF m 0 #[.val (.ref b)] [])
  obtain ⟨T58, X58, e58, st58⟩ := getS2 X0 hx hZ hown (host := "") (Or.inl (hw _ (List.mem_of_getElem? (i := 61) rfl))) Via.refl e0 (SC.ext O.2) (g := (mkF m 0 #[.val (.ref b)] [])) rfl (hb hby d_jdk_68_method_68_0)
  refine OGo.step st58 ?_
  show OGo p e below _ T58 (mkF m 3 #[.val (.ref b)] [(.int zc)])
  refine OGo.step (fun _ k => XS.ifNo X58.here hx rfl (hb hby d_jdk_68_method_68_3) rfl ((if0 _ _).trans (feq hzc).1) k) ?_
  show OGo p e below _ T58 (mkF m 6 #[.val (.ref b)] [])
  refine OGo.step (fun _ k => XS.aloadN X58.here hx rfl (hb hby d_jdk_68_method_68_6) rfl rfl k) ?_
  show OGo p e below _ T58 (mkF m 7 #[.val (.ref b)] [(.ref b)])
  obtain ⟨T59, X59, e59, st59⟩ := getF X58 hx hZ hown (host := "") (Or.inl (hw _ (List.mem_of_getElem? (i := 64) rfl))) Via.refl e58 JC (g := (mkF m 7 #[.val (.ref b)] [(.ref b)])) rfl rfl (hb hby d_jdk_68_method_68_7)
  refine OGo.step st59 ?_
  show OGo p e below _ T59 (mkF m 10 #[.val (.ref b)] [(.int (0 : Int32))])
  refine OGo.step (fun _ k => XS.ifNo X59.here hx rfl (hb hby d_jdk_68_method_68_10) rfl ((if0 _ _).trans (teq (rfl : (0 : Int32) = 0)).2) k) ?_
  show OGo p e below _ T59 (mkF m 13 #[.val (.ref b)] [])
  refine OGo.step (fun _ k => XS.iconst X59.here hx rfl (hb hby d_jdk_68_method_68_13) k) ?_
  show OGo p e below _ T59 (mkF m 14 #[.val (.ref b)] [(.int (1 : Int32))])
  refine OGo.step (fun _ k => XS.goto X59.here hx rfl (pc0 := 14) (pc' := 18) rfl (hb hby d_jdk_68_method_68_14) (by decide) (by decide) k) ?_
  show OGo p e below _ T59 (mkF m 18 #[.val (.ref b)] [(.int (1 : Int32))])
  exact OGo.ret X59 hx (t := .boolean) hret hlk rfl (Or.inl ⟨rfl, by simp, _, rfl⟩) (hb hby d_jdk_68_method_68_18) (by decide) (by decide) ⟨rfl, rfl, e59⟩
theorem d_jdk_65_method_131_0 : decode jdk_65_method_131_code 0 = .ok (.iload_n 1, 1) := by decide +kernel
theorem d_jdk_65_method_131_1 : decode jdk_65_method_131_code 1 = .ok (.iload_n 0, 1) := by decide +kernel
theorem d_jdk_65_method_131_2 : decode jdk_65_method_131_code 2 = .ok (.if_icmp .ge 35, 3) := by decide +kernel
theorem d_jdk_65_method_131_37 : decode jdk_65_method_131_code 37 = .ok (.return_, 1) := by decide +kernel
theorem opl_rm_chk : plainFor (⟨"java/util/Arrays", "checkLength", "(II)V"⟩ : MethodName) = true := plainFor_of_name (by first | (simp [plainName, overriddenIn]; done) | decide +kernel)
set_option maxRecDepth 65536 in
set_option maxHeartbeats 40000000 in
theorem rm_chk (l : Launch) (Z : State) (a0 : Array Value) (hw : ∀ d ∈ tables_1, d.before a0 Z = true) (ws : List Jvm.Cond) (f t : Int32) (h0 : Heap) (hft : ¬ t < f) :
    Con l Z (⟨"java/util/Arrays", "checkLength", "(II)V"⟩ : MethodName) jdk_65_method_131_code 2 none ws ({ frames := 0, cells := 0, slots := 0, locals := 0 } : Room) #[(.int f), (.int t)] h0 (fun v h L => v = none ∧ L = [] ∧ h = h0) := by
  refine Con.intro opl_rm_chk ?_
  intro p e s m below meth c s₁ hx hby hml hown hret hlk hZ hnm X0 e0
  refine OGo.cast (g' := (mkF m 0 #[.val (.int f), .val (.int t)] [])) (by first | (simp [entryFrame, mkF, argsToLocals, Value.category]; done) | rfl) ?_
  show OGo p e below _ s₁ (mkF m 0 #[.val (.int f), .val (.int t)] [])
  refine OGo.step (fun _ k => XS.iloadN X0.here hx rfl (hb hby d_jdk_65_method_131_0) rfl k) ?_
  show OGo p e below _ s₁ (mkF m 1 #[.val (.int f), .val (.int t)] [(.int t)])
  refine OGo.step (fun _ k => XS.iloadN X0.here hx rfl (hb hby d_jdk_65_method_131_1) rfl k) ?_
  show OGo p e below _ s₁ (mkF m 2 #[.val (.int f), .val (.int t)] [(.int f), (.int t)])
  refine OGo.step (fun _ k => XS.icmpYes X0.here hx rfl (pc0 := 2) (pc' := 37) rfl (hb hby d_jdk_65_method_131_2) rfl (flt hft).2.1 (by decide) (by decide) k) ?_
  show OGo p e below _ s₁ (mkF m 37 #[.val (.int f), .val (.int t)] [])
  exact OGo.retV X0 hx hret hlk (hb hby d_jdk_65_method_131_37) (by decide) (by decide) ⟨rfl, rfl, e0⟩
theorem d_jdk_29_method_69_9 : decode jdk_29_method_69_code 9 = .ok (.iload_n 1, 1) := by decide +kernel
theorem opl_rm_min : plainFor (⟨"java/lang/Math", "min", "(II)I"⟩ : MethodName) = true := Jvm.Free.JP.mathPlain rfl (by decide +kernel)
set_option maxRecDepth 65536 in
set_option maxHeartbeats 40000000 in
theorem rm_min (l : Launch) (Z : State) (a0 : Array Value) (hw : ∀ d ∈ tables_1, d.before a0 Z = true) (ws : List Jvm.Cond) (a b : Int32) (h0 : Heap) (hba : b < a) :
    Con l Z (⟨"java/lang/Math", "min", "(II)I"⟩ : MethodName) jdk_29_method_69_code 2 (some .int) ws ({ frames := 0, cells := 0, slots := 0, locals := 0 } : Room) #[(.int a), (.int b)] h0 (fun v h L => v = some (.int b) ∧ L = [] ∧ h = h0) := by
  refine Con.intro opl_rm_min ?_
  intro p e s m below meth c s₁ hx hby hml hown hret hlk hZ hnm X0 e0
  refine OGo.cast (g' := (mkF m 0 #[.val (.int a), .val (.int b)] [])) (by first | (simp [entryFrame, mkF, argsToLocals, Value.category]; done) | rfl) ?_
  show OGo p e below _ s₁ (mkF m 0 #[.val (.int a), .val (.int b)] [])
  refine OGo.step (fun _ k => XS.iloadN X0.here hx rfl (hb hby d_jdk_29_method_69_0) rfl k) ?_
  show OGo p e below _ s₁ (mkF m 1 #[.val (.int a), .val (.int b)] [(.int a)])
  refine OGo.step (fun _ k => XS.iloadN X0.here hx rfl (hb hby d_jdk_29_method_69_1) rfl k) ?_
  show OGo p e below _ s₁ (mkF m 2 #[.val (.int a), .val (.int b)] [(.int b), (.int a)])
  refine OGo.step (fun _ k => XS.icmpYes X0.here hx rfl (pc0 := 2) (pc' := 9) rfl (hb hby d_jdk_29_method_69_2) rfl (tlt hba).2.2.1 (by decide) (by decide) k) ?_
  show OGo p e below _ s₁ (mkF m 9 #[.val (.int a), .val (.int b)] [])
  refine OGo.step (fun _ k => XS.iloadN X0.here hx rfl (hb hby d_jdk_29_method_69_9) rfl k) ?_
  show OGo p e below _ s₁ (mkF m 10 #[.val (.int a), .val (.int b)] [(.int b)])
  exact OGo.ret X0 hx (t := .int) hret hlk rfl (Or.inl ⟨rfl, by simp, _, rfl⟩) (hb hby d_jdk_29_method_69_10) (by decide) (by decide) ⟨rfl, rfl, e0⟩
theorem d_jdk_65_method_133_0 : decode jdk_65_method_133_code 0 = .ok (.iload_n 1, 1) := by decide +kernel
theorem d_jdk_65_method_133_1 : decode jdk_65_method_133_code 1 = .ok (.iload_n 2, 1) := by decide +kernel
theorem opd_11 : parseMethodDescriptor "(II)V" = some ⟨[.int, .int], none⟩ := by decide +kernel
theorem d_jdk_65_method_133_2 : decode jdk_65_method_133_code 2 = .ok (.invokestatic 343, 3) := by decide +kernel
theorem d_jdk_65_method_133_5 : decode jdk_65_method_133_code 5 = .ok (.iload_n 2, 1) := by decide +kernel
theorem d_jdk_65_method_133_6 : decode jdk_65_method_133_code 6 = .ok (.iload_n 1, 1) := by decide +kernel
theorem d_jdk_65_method_133_7 : decode jdk_65_method_133_code 7 = .ok (.isub, 1) := by decide +kernel
theorem d_jdk_65_method_133_8 : decode jdk_65_method_133_code 8 = .ok (.istore_n 3, 1) := by decide +kernel
theorem d_jdk_65_method_133_9 : decode jdk_65_method_133_code 9 = .ok (.iload_n 3, 1) := by decide +kernel
theorem d_jdk_65_method_133_10 : decode jdk_65_method_133_code 10 = .ok (.newarray .byte, 2) := by decide +kernel
theorem d_jdk_65_method_133_12 : decode jdk_65_method_133_code 12 = .ok (.astore 4, 2) := by decide +kernel
theorem d_jdk_65_method_133_14 : decode jdk_65_method_133_code 14 = .ok (.aload_n 0, 1) := by decide +kernel
theorem d_jdk_65_method_133_15 : decode jdk_65_method_133_code 15 = .ok (.iload_n 1, 1) := by decide +kernel
theorem d_jdk_65_method_133_16 : decode jdk_65_method_133_code 16 = .ok (.aload 4, 2) := by decide +kernel
theorem d_jdk_65_method_133_18 : decode jdk_65_method_133_code 18 = .ok (.iconst 0, 1) := by decide +kernel
theorem d_jdk_65_method_133_19 : decode jdk_65_method_133_code 19 = .ok (.aload_n 0, 1) := by decide +kernel
theorem d_jdk_65_method_133_20 : decode jdk_65_method_133_code 20 = .ok (.arraylength, 1) := by decide +kernel
theorem d_jdk_65_method_133_21 : decode jdk_65_method_133_code 21 = .ok (.iload_n 1, 1) := by decide +kernel
theorem d_jdk_65_method_133_22 : decode jdk_65_method_133_code 22 = .ok (.isub, 1) := by decide +kernel
theorem d_jdk_65_method_133_23 : decode jdk_65_method_133_code 23 = .ok (.iload_n 3, 1) := by decide +kernel
theorem d_jdk_65_method_133_24 : decode jdk_65_method_133_code 24 = .ok (.invokestatic 304, 3) := by decide +kernel
theorem d_jdk_65_method_133_27 : decode jdk_65_method_133_code 27 = .ok (.invokestatic 150, 3) := by decide +kernel
theorem d_jdk_65_method_133_30 : decode jdk_65_method_133_code 30 = .ok (.aload 4, 2) := by decide +kernel
theorem d_jdk_65_method_133_32 : decode jdk_65_method_133_code 32 = .ok (.areturn, 1) := by decide +kernel
theorem opl_rm_corb : plainFor (⟨"java/util/Arrays", "copyOfRangeByte", "([BII)[B"⟩ : MethodName) = true := plainFor_of_name (by first | (simp [plainName, overriddenIn]; done) | decide +kernel)
set_option maxRecDepth 65536 in
set_option maxHeartbeats 40000000 in
theorem rm_corb (l : Launch) (Z : State) (a0 : Array Value) (hw : ∀ d ∈ tables_1, d.before a0 Z = true) (ws : List Jvm.Cond) (d : Addr) (k : ClassId) (zn : Nat) (bs : List Value) (zc : Int32) (wf : Value) (n0 : Nat) (h0 : Heap) (SS : own_SS Z zc wf) (O : Old Z n0 h0) (V : Arv Z h0 d k .byte (Int32.ofNat zn) bs (.int (0 : Int32))) (hzn : zn ≤ 226) (hbz : bs.length < zn) (hbn : bs.length ≤ 112) :
    Con l Z (⟨"java/util/Arrays", "copyOfRangeByte", "([BII)[B"⟩ : MethodName) jdk_65_method_133_code 5 (some (.array .byte)) ws ({ frames := 1, cells := 1, slots := 112, locals := 29 } : Room) #[(.ref d), (.int (0 : Int32)), (.int (Int32.ofNat bs.length))] h0 (fun v h L => ∃ r k', v = some (.ref r) ∧ h0.size ≤ r ∧ Fr n0 L ∧ Keep h0 h [] ∧ Arv Z h r k' .byte (Int32.ofNat bs.length) bs (.int (0 : Int32))) := by
  refine Con.intro opl_rm_corb ?_
  intro p e s m below meth c s₁ hx hby hml hown hret hlk hZ hnm X0 e0
  obtain ⟨hzc, SC, hwf, SF⟩ := SS
  have Z0 : n0 ≤ h0.size := O.1 ▸ O.2.1
  have N0 := Fr.nil n0
  refine OGo.cast (g' := (mkF m 0 #[.val (.ref d), .val (.int (0 : Int32)), .val (.int (Int32.ofNat bs.length)), .unset, .unset] [])) (by first | (simp [entryFrame, mkF, argsToLocals, Value.category]; done) | rfl) ?_
  show OGo p e below _ s₁ (mkF m 0 #[.val (.ref d), .val (.int (0 : Int32)), .val (.int (Int32.ofNat bs.length)), .unset, .unset] [])
  have hb2 : bs.length < 2147483648 := by omega
  refine OGo.step (fun _ k => XS.iloadN X0.here hx rfl (hb hby d_jdk_65_method_133_0) rfl k) ?_
  show OGo p e below _ s₁ (mkF m 1 #[.val (.ref d), .val (.int (0 : Int32)), .val (.int (Int32.ofNat bs.length)), .unset, .unset] [(.int (0 : Int32))])
  refine OGo.step (fun _ k => XS.iloadN X0.here hx rfl (hb hby d_jdk_65_method_133_1) rfl k) ?_
  show OGo p e below _ s₁ (mkF m 2 #[.val (.ref d), .val (.int (0 : Int32)), .val (.int (Int32.ofNat bs.length)), .unset, .unset] [(.int (Int32.ofNat bs.length)), (.int (0 : Int32))])
  obtain ⟨v60, T60, L60, X60, hQ60, st60⟩ := scall X0 hx hZ hown (hw _ (List.mem_of_getElem? (i := 191) rfl)) (hw _ (List.mem_of_getElem? (i := 192) rfl)) (hw _ (List.mem_of_getElem? (i := 113) rfl)) (hw _ (List.mem_of_getElem? (i := 193) rfl)) (by decide) (W := 0) (rm_chk l Z a0 hw [] (0 : Int32) (Int32.ofNat bs.length) h0 (own_nn hb2)) e0 (by decide) (by decide) (by decide) (by decide) (g := (mkF m 2 #[.val (.ref d), .val (.int (0 : Int32)), .val (.int (Int32.ofNat bs.length)), .unset, .unset] [(.int (Int32.ofNat bs.length)), (.int (0 : Int32))])) rfl (by rw [hml]; rfl) (argsL := [(.int (0 : Int32)), (.int (Int32.ofNat bs.length))]) (rest := []) opd_11 rfl rfl rfl (by show 2 * 0 + _ ≤ _; exact Nat.le_of_eq rfl) (hb hby d_jdk_65_method_133_2)
  obtain ⟨rfl, rfl, e60⟩ := hQ60
  rw [List.append_nil] at X60
  refine OGo.step st60 ?_
  show OGo p e below _ T60 (mkF m 5 #[.val (.ref d), .val (.int (0 : Int32)), .val (.int (Int32.ofNat bs.length)), .unset, .unset] [])
  refine OGo.step (fun _ k => XS.iloadN X60.here hx rfl (hb hby d_jdk_65_method_133_5) rfl k) ?_
  show OGo p e below _ T60 (mkF m 6 #[.val (.ref d), .val (.int (0 : Int32)), .val (.int (Int32.ofNat bs.length)), .unset, .unset] [(.int (Int32.ofNat bs.length))])
  refine OGo.step (fun _ k => XS.iloadN X60.here hx rfl (hb hby d_jdk_65_method_133_6) rfl k) ?_
  show OGo p e below _ T60 (mkF m 7 #[.val (.ref d), .val (.int (0 : Int32)), .val (.int (Int32.ofNat bs.length)), .unset, .unset] [(.int (0 : Int32)), (.int (Int32.ofNat bs.length))])
  refine OGo.step (fun _ k => XS.isub X60.here hx rfl (hb hby d_jdk_65_method_133_7) rfl k) ?_
  show OGo p e below _ T60 (mkF m 8 #[.val (.ref d), .val (.int (0 : Int32)), .val (.int (Int32.ofNat bs.length)), .unset, .unset] [(.int ((Int32.ofNat bs.length) - (0 : Int32)))])
  rw [own_sub0]
  show OGo p e below _ T60 (mkF m 8 #[.val (.ref d), .val (.int (0 : Int32)), .val (.int (Int32.ofNat bs.length)), .unset, .unset] [(.int (Int32.ofNat bs.length))])
  refine OGo.step (fun _ k => XS.istoreN X60.here hx rfl (hb hby d_jdk_65_method_133_8) rfl (l' := #[.val (.ref d), .val (.int (0 : Int32)), .val (.int (Int32.ofNat bs.length)), .val (.int (Int32.ofNat bs.length)), .unset]) rfl k) ?_
  show OGo p e below _ T60 (mkF m 9 #[.val (.ref d), .val (.int (0 : Int32)), .val (.int (Int32.ofNat bs.length)), .val (.int (Int32.ofNat bs.length)), .unset] [])
  refine OGo.step (fun _ k => XS.iloadN X60.here hx rfl (hb hby d_jdk_65_method_133_9) rfl k) ?_
  show OGo p e below _ T60 (mkF m 10 #[.val (.ref d), .val (.int (0 : Int32)), .val (.int (Int32.ofNat bs.length)), .val (.int (Int32.ofNat bs.length)), .unset] [(.int (Int32.ofNat bs.length))])
  obtain ⟨T61, h61, k61, X61, e61, E61, A61, AE61, st61⟩ := newPE X60 hx hZ (hw _ (List.mem_of_getElem? (i := 14) rfl)) e60 (g := (mkF m 10 #[.val (.ref d), .val (.int (0 : Int32)), .val (.int (Int32.ofNat bs.length)), .val (.int (Int32.ofNat bs.length)), .unset] [(.int (Int32.ofNat bs.length))])) rfl (hb hby d_jdk_65_method_133_10) rfl (own_nn hb2) (cap := 112) (by rw [own_cl hb2]; exact hbn) (by decide) (by decide) (by decide) (ad := "[B") (by decide)
  obtain ⟨b61, g61⟩ : ∃ z, z = h0.size := ⟨_, rfl⟩
  rw [← g61] at A61 AE61 st61
  have sz_b61 : h0.size ≤ b61 := Nat.le_trans (Keep.refl h0 []).1 (Nat.le_of_eq g61.symm)
  have KK61 : Keep h0 h61 [] := (Keep.refl h0 []).ext E61
  have V61 : Arv Z h61 b61 k61 .byte (Int32.ofNat bs.length) [] (.int (0 : Int32)) := Arv.new A61 (own_nn hb2)
  refine OGo.step st61 ?_
  show OGo p e below _ T61 (mkF m 12 #[.val (.ref d), .val (.int (0 : Int32)), .val (.int (Int32.ofNat bs.length)), .val (.int (Int32.ofNat bs.length)), .unset] [(.ref b61)])
  refine OGo.step (fun _ k => XS.astore X61.here hx rfl (hb hby d_jdk_65_method_133_12) rfl rfl (l' := #[.val (.ref d), .val (.int (0 : Int32)), .val (.int (Int32.ofNat bs.length)), .val (.int (Int32.ofNat bs.length)), .val (.ref b61)]) rfl k) ?_
  show OGo p e below _ T61 (mkF m 14 #[.val (.ref d), .val (.int (0 : Int32)), .val (.int (Int32.ofNat bs.length)), .val (.int (Int32.ofNat bs.length)), .val (.ref b61)] [])
  refine OGo.step (fun _ k => XS.aloadN X61.here hx rfl (hb hby d_jdk_65_method_133_14) rfl rfl k) ?_
  show OGo p e below _ T61 (mkF m 15 #[.val (.ref d), .val (.int (0 : Int32)), .val (.int (Int32.ofNat bs.length)), .val (.int (Int32.ofNat bs.length)), .val (.ref b61)] [(.ref d)])
  refine OGo.step (fun _ k => XS.iloadN X61.here hx rfl (hb hby d_jdk_65_method_133_15) rfl k) ?_
  show OGo p e below _ T61 (mkF m 16 #[.val (.ref d), .val (.int (0 : Int32)), .val (.int (Int32.ofNat bs.length)), .val (.int (Int32.ofNat bs.length)), .val (.ref b61)] [(.int (0 : Int32)), (.ref d)])
  refine OGo.step (fun _ k => XS.aload X61.here hx rfl (hb hby d_jdk_65_method_133_16) rfl rfl k) ?_
  show OGo p e below _ T61 (mkF m 18 #[.val (.ref d), .val (.int (0 : Int32)), .val (.int (Int32.ofNat bs.length)), .val (.int (Int32.ofNat bs.length)), .val (.ref b61)] [(.ref b61), (.int (0 : Int32)), (.ref d)])
  refine OGo.step (fun _ k => XS.iconst X61.here hx rfl (hb hby d_jdk_65_method_133_18) k) ?_
  show OGo p e below _ T61 (mkF m 19 #[.val (.ref d), .val (.int (0 : Int32)), .val (.int (Int32.ofNat bs.length)), .val (.int (Int32.ofNat bs.length)), .val (.ref b61)] [(.int (0 : Int32)), (.ref b61), (.int (0 : Int32)), (.ref d)])
  refine OGo.step (fun _ k => XS.aloadN X61.here hx rfl (hb hby d_jdk_65_method_133_19) rfl rfl k) ?_
  show OGo p e below _ T61 (mkF m 20 #[.val (.ref d), .val (.int (0 : Int32)), .val (.int (Int32.ofNat bs.length)), .val (.int (Int32.ofNat bs.length)), .val (.ref b61)] [(.ref d), (.int (0 : Int32)), (.ref b61), (.int (0 : Int32)), (.ref d)])
  refine OGo.step (fun _ k => alenV X61 hx hZ e61 (V.ext E61) (g := (mkF m 20 #[.val (.ref d), .val (.int (0 : Int32)), .val (.int (Int32.ofNat bs.length)), .val (.int (Int32.ofNat bs.length)), .val (.ref b61)] [(.ref d), (.int (0 : Int32)), (.ref b61), (.int (0 : Int32)), (.ref d)])) rfl rfl (hb hby d_jdk_65_method_133_20) _ k) ?_
  show OGo p e below _ T61 (mkF m 21 #[.val (.ref d), .val (.int (0 : Int32)), .val (.int (Int32.ofNat bs.length)), .val (.int (Int32.ofNat bs.length)), .val (.ref b61)] [(.int (Int32.ofNat zn)), (.int (0 : Int32)), (.ref b61), (.int (0 : Int32)), (.ref d)])
  refine OGo.step (fun _ k => XS.iloadN X61.here hx rfl (hb hby d_jdk_65_method_133_21) rfl k) ?_
  show OGo p e below _ T61 (mkF m 22 #[.val (.ref d), .val (.int (0 : Int32)), .val (.int (Int32.ofNat bs.length)), .val (.int (Int32.ofNat bs.length)), .val (.ref b61)] [(.int (0 : Int32)), (.int (Int32.ofNat zn)), (.int (0 : Int32)), (.ref b61), (.int (0 : Int32)), (.ref d)])
  refine OGo.step (fun _ k => XS.isub X61.here hx rfl (hb hby d_jdk_65_method_133_22) rfl k) ?_
  show OGo p e below _ T61 (mkF m 23 #[.val (.ref d), .val (.int (0 : Int32)), .val (.int (Int32.ofNat bs.length)), .val (.int (Int32.ofNat bs.length)), .val (.ref b61)] [(.int ((Int32.ofNat zn) - (0 : Int32))), (.int (0 : Int32)), (.ref b61), (.int (0 : Int32)), (.ref d)])
  rw [own_sub0]
  show OGo p e below _ T61 (mkF m 23 #[.val (.ref d), .val (.int (0 : Int32)), .val (.int (Int32.ofNat bs.length)), .val (.int (Int32.ofNat bs.length)), .val (.ref b61)] [(.int (Int32.ofNat zn)), (.int (0 : Int32)), (.ref b61), (.int (0 : Int32)), (.ref d)])
  refine OGo.step (fun _ k => XS.iloadN X61.here hx rfl (hb hby d_jdk_65_method_133_23) rfl k) ?_
  show OGo p e below _ T61 (mkF m 24 #[.val (.ref d), .val (.int (0 : Int32)), .val (.int (Int32.ofNat bs.length)), .val (.int (Int32.ofNat bs.length)), .val (.ref b61)] [(.int (Int32.ofNat bs.length)), (.int (Int32.ofNat zn)), (.int (0 : Int32)), (.ref b61), (.int (0 : Int32)), (.ref d)])
  obtain ⟨v62, T62, L62, X62, hQ62, st62⟩ := scall X61 hx hZ hown (hw _ (List.mem_of_getElem? (i := 115) rfl)) (hw _ (List.mem_of_getElem? (i := 116) rfl)) (hw _ (List.mem_of_getElem? (i := 107) rfl)) (hw _ (List.mem_of_getElem? (i := 117) rfl)) (by decide) (W := 4) (rm_min l Z a0 hw [] (Int32.ofNat zn) (Int32.ofNat bs.length) h61 ((own_lt hb2 (by omega)).mpr hbz)) e61 (by decide) (by decide) (by decide) (by decide) (g := (mkF m 24 #[.val (.ref d), .val (.int (0 : Int32)), .val (.int (Int32.ofNat bs.length)), .val (.int (Int32.ofNat bs.length)), .val (.ref b61)] [(.int (Int32.ofNat bs.length)), (.int (Int32.ofNat zn)), (.int (0 : Int32)), (.ref b61), (.int (0 : Int32)), (.ref d)])) rfl (by rw [hml]; rfl) (argsL := [(.int (Int32.ofNat zn)), (.int (Int32.ofNat bs.length))]) (rest := [(.int (0 : Int32)), (.ref b61), (.int (0 : Int32)), (.ref d)]) opd_1 rfl rfl rfl (by show 2 * 0 + _ ≤ _; exact Nat.le_of_eq rfl) (hb hby d_jdk_65_method_133_24)
  obtain ⟨rfl, rfl, e62⟩ := hQ62
  rw [List.append_nil] at X62
  refine OGo.step st62 ?_
  show OGo p e below _ T62 (mkF m 27 #[.val (.ref d), .val (.int (0 : Int32)), .val (.int (Int32.ofNat bs.length)), .val (.int (Int32.ofNat bs.length)), .val (.ref b61)] [(.int (Int32.ofNat bs.length)), (.int (0 : Int32)), (.ref b61), (.int (0 : Int32)), (.ref d)])
  obtain ⟨T63, h63, L63, X63, e63, N63, K63, V63, st63⟩ := own_cp X62 hx hZ hown (hw _ (List.mem_of_getElem? (i := 118) rfl)) (hw _ (List.mem_of_getElem? (i := 121) rfl)) (hw _ (List.mem_of_getElem? (i := 119) rfl)) (hw _ (List.mem_of_getElem? (i := 120) rfl)) e62 (V.ext E61) V61 (by rw [own_cl (by omega)]; omega) (by rw [own_cl hb2]; exact Nat.le_of_eq (Nat.zero_add _)) hb2 (by decide) N0 (Nat.le_trans Z0 sz_b61) (g := (mkF m 27 #[.val (.ref d), .val (.int (0 : Int32)), .val (.int (Int32.ofNat bs.length)), .val (.int (Int32.ofNat bs.length)), .val (.ref b61)] [(.int (Int32.ofNat bs.length)), (.int (0 : Int32)), (.ref b61), (.int (0 : Int32)), (.ref d)])) rfl (by rw [hml]; rfl) (rest := []) rfl (hb hby d_jdk_65_method_133_27) (by decide) (W := 0) (by show 2 * 0 + _ ≤ _; exact Nat.le_of_eq rfl) (by decide)
  have KK63 : Keep h0 h63 [] := KK61.trans K63 (allS (Or.inr sz_b61) all0)
  refine OGo.step st63 ?_
  show OGo p e below _ T63 (mkF m 30 #[.val (.ref d), .val (.int (0 : Int32)), .val (.int (Int32.ofNat bs.length)), .val (.int (Int32.ofNat bs.length)), .val (.ref b61)] [])
  refine OGo.step (fun _ k => XS.aload X63.here hx rfl (hb hby d_jdk_65_method_133_30) rfl rfl k) ?_
  show OGo p e below _ T63 (mkF m 32 #[.val (.ref d), .val (.int (0 : Int32)), .val (.int (Int32.ofNat bs.length)), .val (.int (Int32.ofNat bs.length)), .val (.ref b61)] [(.ref b61)])
  exact OGo.ret X63 hx (t := (.array .byte)) hret hlk rfl (Or.inr (Or.inr (Or.inr (Or.inr ⟨rfl, rfl, rfl⟩)))) (hb hby d_jdk_65_method_133_32) (by decide) (by decide) (by rw [e63]; exact ⟨b61, _, rfl, sz_b61, N63, KK63, V63⟩)
theorem d_jdk_65_method_132_0 : decode jdk_65_method_132_code 0 = .ok (.iload_n 1, 1) := by decide +kernel
theorem d_jdk_65_method_132_1 : decode jdk_65_method_132_code 1 = .ok (.ifCond .ne 9, 3) := by decide +kernel
theorem d_jdk_65_method_132_4 : decode jdk_65_method_132_code 4 = .ok (.iload_n 2, 1) := by decide +kernel
theorem d_jdk_65_method_132_5 : decode jdk_65_method_132_code 5 = .ok (.aload_n 0, 1) := by decide +kernel
theorem d_jdk_65_method_132_6 : decode jdk_65_method_132_code 6 = .ok (.arraylength, 1) := by decide +kernel
theorem d_jdk_65_method_132_7 : decode jdk_65_method_132_code 7 = .ok (.if_icmp .eq 10, 3) := by decide +kernel
theorem d_jdk_65_method_132_17 : decode jdk_65_method_132_code 17 = .ok (.aload_n 0, 1) := by decide +kernel
theorem d_jdk_65_method_132_18 : decode jdk_65_method_132_code 18 = .ok (.invokevirtual 310, 3) := by decide +kernel
theorem d_jdk_65_method_132_21 : decode jdk_65_method_132_code 21 = .ok (.checkcast 311, 3) := by decide +kernel
theorem d_jdk_65_method_132_24 : decode jdk_65_method_132_code 24 = .ok (.areturn, 1) := by decide +kernel
theorem d_jdk_65_method_132_10 : decode jdk_65_method_132_code 10 = .ok (.aload_n 0, 1) := by decide +kernel
theorem d_jdk_65_method_132_11 : decode jdk_65_method_132_code 11 = .ok (.iload_n 1, 1) := by decide +kernel
theorem d_jdk_65_method_132_12 : decode jdk_65_method_132_code 12 = .ok (.iload_n 2, 1) := by decide +kernel
theorem opd_12 : parseMethodDescriptor "([BII)[B" = some ⟨[(.array .byte), .int, .int], some (.array .byte)⟩ := by decide +kernel
theorem d_jdk_65_method_132_13 : decode jdk_65_method_132_code 13 = .ok (.invokestatic 339, 3) := by decide +kernel
theorem d_jdk_65_method_132_16 : decode jdk_65_method_132_code 16 = .ok (.areturn, 1) := by decide +kernel
theorem opl_rm_cor : plainFor (⟨"java/util/Arrays", "copyOfRange", "([BII)[B"⟩ : MethodName) = true := plainFor_of_name (by first | (simp [plainName, overriddenIn]; done) | decide +kernel)
set_option maxRecDepth 65536 in
set_option maxHeartbeats 40000000 in
theorem rm_cor (l : Launch) (Z : State) (a0 : Array Value) (hw : ∀ d ∈ tables_1, d.before a0 Z = true) (ws : List Jvm.Cond) (d : Addr) (k : ClassId) (zn : Nat) (bs : List Value) (zc : Int32) (wf : Value) (n0 : Nat) (h0 : Heap) (SS : own_SS Z zc wf) (O : Old Z n0 h0) (V : Arv Z h0 d k .byte (Int32.ofNat zn) bs (.int (0 : Int32))) (hzn : zn ≤ 226) (hbz : bs.length ≤ zn) (hbn : bs.length ≤ 112) (VX : Exa Z h0 d "[B") :
    Con l Z (⟨"java/util/Arrays", "copyOfRange", "([BII)[B"⟩ : MethodName) jdk_65_method_132_code 3 (some (.array .byte)) ws ({ frames := 2, cells := 1, slots := 112, locals := 45 } : Room) #[(.ref d), (.int (0 : Int32)), (.int (Int32.ofNat bs.length))] h0 (fun v h L => ∃ r k', v = some (.ref r) ∧ h0.size ≤ r ∧ Fr n0 L ∧ Keep h0 h [] ∧ Arv Z h r k' .byte (Int32.ofNat bs.length) bs (.int (0 : Int32))) := by
  refine Con.intro opl_rm_cor ?_
  intro p e s m below meth c s₁ hx hby hml hown hret hlk hZ hnm X0 e0
  have SS' := SS
  obtain ⟨hzc, SC, hwf, SF⟩ := SS
  have Z0 : n0 ≤ h0.size := O.1 ▸ O.2.1
  have N0 := Fr.nil n0
  refine OGo.cast (g' := (mkF m 0 #[.val (.ref d), .val (.int (0 : Int32)), .val (.int (Int32.ofNat bs.length))] [])) (by first | (simp [entryFrame, mkF, argsToLocals, Value.category]; done) | rfl) ?_
  show OGo p e below _ s₁ (mkF m 0 #[.val (.ref d), .val (.int (0 : Int32)), .val (.int (Int32.ofNat bs.length))] [])
  refine OGo.step (fun _ k => XS.iloadN X0.here hx rfl (hb hby d_jdk_65_method_132_0) rfl k) ?_
  show OGo p e below _ s₁ (mkF m 1 #[.val (.ref d), .val (.int (0 : Int32)), .val (.int (Int32.ofNat bs.length))] [(.int (0 : Int32))])
  refine OGo.step (fun _ k => XS.ifNo X0.here hx rfl (hb hby d_jdk_65_method_132_1) rfl ((if0 _ _).trans (teq (rfl : (0 : Int32) = 0)).2) k) ?_
  show OGo p e below _ s₁ (mkF m 4 #[.val (.ref d), .val (.int (0 : Int32)), .val (.int (Int32.ofNat bs.length))] [])
  refine OGo.step (fun _ k => XS.iloadN X0.here hx rfl (hb hby d_jdk_65_method_132_4) rfl k) ?_
  show OGo p e below _ s₁ (mkF m 5 #[.val (.ref d), .val (.int (0 : Int32)), .val (.int (Int32.ofNat bs.length))] [(.int (Int32.ofNat bs.length))])
  refine OGo.step (fun _ k => XS.aloadN X0.here hx rfl (hb hby d_jdk_65_method_132_5) rfl rfl k) ?_
  show OGo p e below _ s₁ (mkF m 6 #[.val (.ref d), .val (.int (0 : Int32)), .val (.int (Int32.ofNat bs.length))] [(.ref d), (.int (Int32.ofNat bs.length))])
  refine OGo.step (fun _ k => alenV X0 hx hZ e0 V (g := (mkF m 6 #[.val (.ref d), .val (.int (0 : Int32)), .val (.int (Int32.ofNat bs.length))] [(.ref d), (.int (Int32.ofNat bs.length))])) rfl rfl (hb hby d_jdk_65_method_132_6) _ k) ?_
  show OGo p e below _ s₁ (mkF m 7 #[.val (.ref d), .val (.int (0 : Int32)), .val (.int (Int32.ofNat bs.length))] [(.int (Int32.ofNat zn)), (.int (Int32.ofNat bs.length))])
  by_cases q : bs.length = zn
  · refine OGo.step (fun _ k => XS.icmpYes X0.here hx rfl (pc0 := 7) (pc' := 17) rfl (hb hby d_jdk_65_method_132_7) rfl (teq (congrArg Int32.ofNat q)).1 (by decide) (by decide) k) ?_
    show OGo p e below _ s₁ (mkF m 17 #[.val (.ref d), .val (.int (0 : Int32)), .val (.int (Int32.ofNat bs.length))] [])
    refine OGo.step (fun _ k => XS.aloadN X0.here hx rfl (hb hby d_jdk_65_method_132_17) rfl rfl k) ?_
    show OGo p e below _ s₁ (mkF m 18 #[.val (.ref d), .val (.int (0 : Int32)), .val (.int (Int32.ofNat bs.length))] [(.ref d)])
    obtain ⟨T64, h64, X64, e64, E64, V64, AE64, st64⟩ := cloneH X0 hx hZ hown (hw _ (List.mem_of_getElem? (i := 173) rfl)) (hw _ (List.mem_of_getElem? (i := 174) rfl)) (hw _ (List.mem_of_getElem? (i := 178) rfl)) (hw _ (List.mem_of_getElem? (i := 176) rfl)) (hw _ (List.mem_of_getElem? (i := 177) rfl)) (hw _ (List.mem_of_getElem? (i := 179) rfl)) e0 V.arh VX (g := (mkF m 18 #[.val (.ref d), .val (.int (0 : Int32)), .val (.int (Int32.ofNat bs.length))] [(.ref d)])) rfl (by rw [hml]; rfl) (rest := []) rfl (hb hby d_jdk_65_method_132_18) (by decide) (W := 0) (cap := 112) (by show 2 * 0 + _ ≤ _; exact Nat.le_of_eq rfl) (by decide) (by rw [own_cl (by omega)]; omega) (by decide) (by decide)
    obtain ⟨b64, g64⟩ : ∃ z, z = h0.size := ⟨_, rfl⟩
    rw [← g64] at V64 AE64 st64
    have sz_b64 : h0.size ≤ b64 := Nat.le_trans (Keep.refl h0 []).1 (Nat.le_of_eq g64.symm)
    have KK64 : Keep h0 h64 [] := (Keep.refl h0 []).ext E64
    have VV64 : Arv Z h64 b64 k .byte (Int32.ofNat zn) bs (.int (0 : Int32)) := V64
    refine OGo.step st64 ?_
    show OGo p e below _ T64 (mkF m 21 #[.val (.ref d), .val (.int (0 : Int32)), .val (.int (Int32.ofNat bs.length))] [(.ref b64)])
    obtain ⟨T65, X65, e65, st65⟩ := castY X64 hx hZ hown (hw _ (List.mem_of_getElem? (i := 180) rfl)) e64 (Ins.of_exa AE64 (hw _ (List.mem_of_getElem? (i := 181) rfl))) (g := (mkF m 21 #[.val (.ref d), .val (.int (0 : Int32)), .val (.int (Int32.ofNat bs.length))] [(.ref b64)])) rfl rfl (hb hby d_jdk_65_method_132_21)
    refine OGo.step st65 ?_
    show OGo p e below _ T65 (mkF m 24 #[.val (.ref d), .val (.int (0 : Int32)), .val (.int (Int32.ofNat bs.length))] [(.ref b64)])
    have Vf : Arv Z h64 b64 k .byte (Int32.ofNat bs.length) bs (.int (0 : Int32)) := by rw [q]; exact VV64
    exact OGo.ret X65 hx (t := (.array .byte)) hret hlk rfl (Or.inr (Or.inr (Or.inr (Or.inr ⟨rfl, rfl, rfl⟩)))) (hb hby d_jdk_65_method_132_24) (by decide) (by decide) (by rw [e65]; exact ⟨b64, _, rfl, sz_b64, N0, KK64, Vf⟩)
  refine OGo.step (fun _ k => XS.icmpNo X0.here hx rfl (hb hby d_jdk_65_method_132_7) rfl (feq (fun p => by have e1 := congrArg Int32.toInt p; rw [own_toInt (by omega), own_toInt (by omega)] at e1; omega)).1 k) ?_
  show OGo p e below _ s₁ (mkF m 10 #[.val (.ref d), .val (.int (0 : Int32)), .val (.int (Int32.ofNat bs.length))] [])
  refine OGo.step (fun _ k => XS.aloadN X0.here hx rfl (hb hby d_jdk_65_method_132_10) rfl rfl k) ?_
  show OGo p e below _ s₁ (mkF m 11 #[.val (.ref d), .val (.int (0 : Int32)), .val (.int (Int32.ofNat bs.length))] [(.ref d)])
  refine OGo.step (fun _ k => XS.iloadN X0.here hx rfl (hb hby d_jdk_65_method_132_11) rfl k) ?_
  show OGo p e below _ s₁ (mkF m 12 #[.val (.ref d), .val (.int (0 : Int32)), .val (.int (Int32.ofNat bs.length))] [(.int (0 : Int32)), (.ref d)])
  refine OGo.step (fun _ k => XS.iloadN X0.here hx rfl (hb hby d_jdk_65_method_132_12) rfl k) ?_
  show OGo p e below _ s₁ (mkF m 13 #[.val (.ref d), .val (.int (0 : Int32)), .val (.int (Int32.ofNat bs.length))] [(.int (Int32.ofNat bs.length)), (.int (0 : Int32)), (.ref d)])
  obtain ⟨v66, T66, L66, X66, hQ66, st66⟩ := scall X0 hx hZ hown (hw _ (List.mem_of_getElem? (i := 188) rfl)) (hw _ (List.mem_of_getElem? (i := 189) rfl)) (hw _ (List.mem_of_getElem? (i := 113) rfl)) (hw _ (List.mem_of_getElem? (i := 190) rfl)) (by decide) (W := 0) (rm_corb l Z a0 hw [] d k zn bs zc wf n0 h0 SS' O V hzn (by omega) hbn) e0 (by decide) (by decide) (by decide) (by decide) (g := (mkF m 13 #[.val (.ref d), .val (.int (0 : Int32)), .val (.int (Int32.ofNat bs.length))] [(.int (Int32.ofNat bs.length)), (.int (0 : Int32)), (.ref d)])) rfl (by rw [hml]; rfl) (argsL := [(.ref d), (.int (0 : Int32)), (.int (Int32.ofNat bs.length))]) (rest := []) opd_12 rfl rfl rfl (by show 2 * 0 + _ ≤ _; exact Nat.le_of_eq rfl) (hb hby d_jdk_65_method_132_13)
  obtain ⟨r66, kr66, rfl, sr66, N66, K66, V66⟩ := hQ66
  have NN66 := Fr.app N0 N66
  have KK66 : Keep h0 T66.heap [] := (Keep.refl h0 []).trans K66 all0
  refine OGo.step st66 ?_
  show OGo p e below _ T66 (mkF m 16 #[.val (.ref d), .val (.int (0 : Int32)), .val (.int (Int32.ofNat bs.length))] [(.ref r66)])
  exact OGo.ret X66 hx (t := (.array .byte)) hret hlk rfl (Or.inr (Or.inr (Or.inr (Or.inr ⟨rfl, rfl, rfl⟩)))) (hb hby d_jdk_65_method_132_16) (by decide) (by decide) ⟨r66, _, rfl, sr66, NN66, KK66, V66⟩
theorem d_jdk_42_method_150_0 : decode jdk_42_method_150_code 0 = .ok (.aload_n 0, 1) := by decide +kernel
theorem d_jdk_42_method_150_1 : decode jdk_42_method_150_code 1 = .ok (.invokespecial 1, 3) := by decide +kernel
theorem d_jdk_42_method_150_4 : decode jdk_42_method_150_code 4 = .ok (.aload_n 1, 1) := by decide +kernel
theorem opd_13 : parseMethodDescriptor "()[B" = some ⟨[], some (.array .byte)⟩ := by decide +kernel
theorem d_jdk_42_method_150_5 : decode jdk_42_method_150_code 5 = .ok (.invokevirtual 552, 3) := by decide +kernel
theorem d_jdk_42_method_150_8 : decode jdk_42_method_150_code 8 = .ok (.astore_n 3, 1) := by decide +kernel
theorem d_jdk_42_method_150_9 : decode jdk_42_method_150_code 9 = .ok (.aload_n 1, 1) := by decide +kernel
theorem d_jdk_42_method_150_10 : decode jdk_42_method_150_code 10 = .ok (.invokevirtual 549, 3) := by decide +kernel
theorem d_jdk_42_method_150_13 : decode jdk_42_method_150_code 13 = .ok (.istore 4, 2) := by decide +kernel
theorem d_jdk_42_method_150_15 : decode jdk_42_method_150_code 15 = .ok (.aload_n 1, 1) := by decide +kernel
theorem opd_14 : parseMethodDescriptor "()Z" = some ⟨[], some .boolean⟩ := by decide +kernel
theorem d_jdk_42_method_150_16 : decode jdk_42_method_150_code 16 = .ok (.invokevirtual 1047, 3) := by decide +kernel
theorem d_jdk_42_method_150_19 : decode jdk_42_method_150_code 19 = .ok (.ifCond .eq 22, 3) := by decide +kernel
theorem d_jdk_42_method_150_22 : decode jdk_42_method_150_code 22 = .ok (.aload_n 0, 1) := by decide +kernel
theorem d_jdk_42_method_150_23 : decode jdk_42_method_150_code 23 = .ok (.iconst 0, 1) := by decide +kernel
theorem d_jdk_42_method_150_24 : decode jdk_42_method_150_code 24 = .ok (.putfield 15, 3) := by decide +kernel
theorem d_jdk_42_method_150_27 : decode jdk_42_method_150_code 27 = .ok (.aload_n 0, 1) := by decide +kernel
theorem d_jdk_42_method_150_28 : decode jdk_42_method_150_code 28 = .ok (.aload_n 3, 1) := by decide +kernel
theorem d_jdk_42_method_150_29 : decode jdk_42_method_150_code 29 = .ok (.iconst 0, 1) := by decide +kernel
theorem d_jdk_42_method_150_30 : decode jdk_42_method_150_code 30 = .ok (.iload 4, 2) := by decide +kernel
theorem d_jdk_42_method_150_32 : decode jdk_42_method_150_code 32 = .ok (.invokestatic 54, 3) := by decide +kernel
theorem d_jdk_42_method_150_35 : decode jdk_42_method_150_code 35 = .ok (.putfield 9, 3) := by decide +kernel
theorem d_jdk_42_method_150_38 : decode jdk_42_method_150_code 38 = .ok (.goto 59, 3) := by decide +kernel
theorem d_jdk_42_method_150_97 : decode jdk_42_method_150_code 97 = .ok (.return_, 1) := by decide +kernel
theorem opl_rm_sia : plainFor (⟨"java/lang/String", "<init>", "(Ljava/lang/AbstractStringBuilder;Ljava/lang/Void;)V"⟩ : MethodName) = true := plainFor_of_name (by first | (simp [plainName, overriddenIn]; done) | decide +kernel)
set_option maxRecDepth 65536 in
set_option maxHeartbeats 40000000 in
theorem rm_sia (l : Launch) (Z : State) (a0 : Array Value) (hw : ∀ d ∈ tables_1, d.before a0 Z = true) (ws : List Jvm.Cond) (a : Addr) (b d : Addr) (k : ClassId) (zn : Nat) (bs : List Value) (zc : Int32) (wf : Value) (n0 : Nat) (h0 : Heap) (SS : own_SS Z zc wf) (O : Old Z n0 h0) (J : SBI Z h0 b d k (Int32.ofNat zn) bs) (hzn : zn ≤ 226) (hbz : bs.length ≤ zn) (hbn : bs.length ≤ 112) (E : Exa Z h0 a "java/lang/String") (Fc : Fld Z h0 a "java/lang/String" "coder" "B" (.int (0 : Int32))) (Fv : Fld Z h0 a "java/lang/String" "value" "[B" .null) (g_a : n0 ≤ a) (nba : b ≠ a) (nda : d ≠ a) :
    Con l Z (⟨"java/lang/String", "<init>", "(Ljava/lang/AbstractStringBuilder;Ljava/lang/Void;)V"⟩ : MethodName) jdk_42_method_150_code 5 none ws ({ frames := 3, cells := 1, slots := 112, locals := 60 } : Room) #[(.ref a), (.ref b), .null] h0 (fun v h L => v = none ∧ Fr n0 L ∧ Keep h0 h [a] ∧ ∃ r k', h0.size ≤ r ∧ STI Z h a r k' bs) := by
  refine Con.intro opl_rm_sia ?_
  intro p e s m below meth c s₁ hx hby hml hown hret hlk hZ hnm X0 e0
  have SS' := SS
  obtain ⟨hzc, SC, hwf, SF⟩ := SS
  have Z0 : n0 ≤ h0.size := O.1 ▸ O.2.1
  have N0 := Fr.nil n0
  obtain ⟨JE, JF, JC, JN, JV, JX⟩ := J
  refine OGo.cast (g' := (mkF m 0 #[.val (.ref a), .val (.ref b), .val .null, .unset, .unset] [])) (by first | (simp [entryFrame, mkF, argsToLocals, Value.category]; done) | rfl) ?_
  show OGo p e below _ s₁ (mkF m 0 #[.val (.ref a), .val (.ref b), .val .null, .unset, .unset] [])
  refine OGo.step (fun _ k => XS.aloadN X0.here hx rfl (hb hby d_jdk_42_method_150_0) rfl rfl k) ?_
  show OGo p e below _ s₁ (mkF m 1 #[.val (.ref a), .val (.ref b), .val .null, .unset, .unset] [(.ref a)])
  obtain ⟨T67, X67, e67, st67⟩ := initO X0 hx hZ hown (hw _ (List.mem_of_getElem? (i := 19) rfl)) (hw _ (List.mem_of_getElem? (i := 20) rfl)) (hw _ (List.mem_of_getElem? (i := 21) rfl)) e0 (g := (mkF m 1 #[.val (.ref a), .val (.ref b), .val .null, .unset, .unset] [(.ref a)])) rfl (by rw [hml]; rfl) rfl (hb hby d_jdk_42_method_150_1) (by decide) (W := 0) (by show 2 * 0 + _ ≤ _; exact Nat.le_of_eq rfl) (by decide)
  refine OGo.step st67 ?_
  show OGo p e below _ T67 (mkF m 4 #[.val (.ref a), .val (.ref b), .val .null, .unset, .unset] [])
  refine OGo.step (fun _ k => XS.aloadN X67.here hx rfl (hb hby d_jdk_42_method_150_4) rfl rfl k) ?_
  show OGo p e below _ T67 (mkF m 5 #[.val (.ref a), .val (.ref b), .val .null, .unset, .unset] [(.ref b)])
  obtain ⟨v68, T68, L68, X68, hQ68, st68⟩ := vcall X67 hx hZ hown (hw _ (List.mem_of_getElem? (i := 152) rfl)) (hw _ (List.mem_of_getElem? (i := 153) rfl)) (hw _ (List.mem_of_getElem? (i := 155) rfl)) rfl (hw _ (List.mem_of_getElem? (i := 155) rfl)) (hw _ (List.mem_of_getElem? (i := 154) rfl)) (hw _ (List.mem_of_getElem? (i := 58) rfl)) (hw _ (List.mem_of_getElem? (i := 156) rfl)) (by decide) (W := 0) (rm_getV l Z a0 hw [] b d k zn bs zc wf n0 h0 SS' O ⟨JE, JF, JC, JN, JV, JX⟩) e67 (by decide) (by decide) (by decide) (by decide) (g := (mkF m 5 #[.val (.ref a), .val (.ref b), .val .null, .unset, .unset] [(.ref b)])) rfl (by rw [hml]; rfl) JE (argsL := []) (rest := []) opd_13 rfl rfl rfl (by show 2 * 0 + _ ≤ _; exact Nat.le_of_eq rfl) (hb hby d_jdk_42_method_150_5)
  obtain ⟨rfl, rfl, e68⟩ := hQ68
  rw [List.append_nil] at X68
  refine OGo.step st68 ?_
  show OGo p e below _ T68 (mkF m 8 #[.val (.ref a), .val (.ref b), .val .null, .unset, .unset] [(.ref d)])
  refine OGo.step (fun _ k => XS.astoreN X68.here hx rfl (hb hby d_jdk_42_method_150_8) rfl rfl (l' := #[.val (.ref a), .val (.ref b), .val .null, .val (.ref d), .unset]) rfl k) ?_
  show OGo p e below _ T68 (mkF m 9 #[.val (.ref a), .val (.ref b), .val .null, .val (.ref d), .unset] [])
  refine OGo.step (fun _ k => XS.aloadN X68.here hx rfl (hb hby d_jdk_42_method_150_9) rfl rfl k) ?_
  show OGo p e below _ T68 (mkF m 10 #[.val (.ref a), .val (.ref b), .val .null, .val (.ref d), .unset] [(.ref b)])
  obtain ⟨v69, T69, L69, X69, hQ69, st69⟩ := vcall X68 hx hZ hown (hw _ (List.mem_of_getElem? (i := 157) rfl)) (hw _ (List.mem_of_getElem? (i := 158) rfl)) (hw _ (List.mem_of_getElem? (i := 94) rfl)) rfl (hw _ (List.mem_of_getElem? (i := 160) rfl)) (hw _ (List.mem_of_getElem? (i := 161) rfl)) (hw _ (List.mem_of_getElem? (i := 50) rfl)) (hw _ (List.mem_of_getElem? (i := 162) rfl)) (by decide) (W := 0) (rm_sbLen l Z a0 hw [] b d k zn bs zc wf n0 h0 SS' O ⟨JE, JF, JC, JN, JV, JX⟩) e68 (by decide) (by decide) (by decide) (by decide) (g := (mkF m 10 #[.val (.ref a), .val (.ref b), .val .null, .val (.ref d), .unset] [(.ref b)])) rfl (by rw [hml]; rfl) JE (argsL := []) (rest := []) opd_7 rfl rfl rfl (by show 2 * 0 + _ ≤ _; exact Nat.le_of_eq rfl) (hb hby d_jdk_42_method_150_10)
  obtain ⟨rfl, rfl, e69⟩ := hQ69
  rw [List.append_nil] at X69
  refine OGo.step st69 ?_
  show OGo p e below _ T69 (mkF m 13 #[.val (.ref a), .val (.ref b), .val .null, .val (.ref d), .unset] [(.int (Int32.ofNat bs.length))])
  refine OGo.step (fun _ k => XS.istore X69.here hx rfl (hb hby d_jdk_42_method_150_13) rfl (l' := #[.val (.ref a), .val (.ref b), .val .null, .val (.ref d), .val (.int (Int32.ofNat bs.length))]) rfl k) ?_
  show OGo p e below _ T69 (mkF m 15 #[.val (.ref a), .val (.ref b), .val .null, .val (.ref d), .val (.int (Int32.ofNat bs.length))] [])
  refine OGo.step (fun _ k => XS.aloadN X69.here hx rfl (hb hby d_jdk_42_method_150_15) rfl rfl k) ?_
  show OGo p e below _ T69 (mkF m 16 #[.val (.ref a), .val (.ref b), .val .null, .val (.ref d), .val (.int (Int32.ofNat bs.length))] [(.ref b)])
  obtain ⟨v70, T70, L70, X70, hQ70, st70⟩ := vcall X69 hx hZ hown (hw _ (List.mem_of_getElem? (i := 165) rfl)) (hw _ (List.mem_of_getElem? (i := 166) rfl)) (hw _ (List.mem_of_getElem? (i := 168) rfl)) rfl (hw _ (List.mem_of_getElem? (i := 168) rfl)) (hw _ (List.mem_of_getElem? (i := 167) rfl)) (hw _ (List.mem_of_getElem? (i := 58) rfl)) (hw _ (List.mem_of_getElem? (i := 169) rfl)) (by decide) (W := 0) (rm_asbL1 l Z a0 hw [] b d k zn bs zc wf n0 h0 SS' O ⟨JE, JF, JC, JN, JV, JX⟩) e69 (by decide) (by decide) (by decide) (by decide) (g := (mkF m 16 #[.val (.ref a), .val (.ref b), .val .null, .val (.ref d), .val (.int (Int32.ofNat bs.length))] [(.ref b)])) rfl (by rw [hml]; rfl) JE (argsL := []) (rest := []) opd_14 rfl rfl rfl (by show 2 * 0 + _ ≤ _; exact Nat.le_of_eq rfl) (hb hby d_jdk_42_method_150_16)
  obtain ⟨rfl, rfl, e70⟩ := hQ70
  rw [List.append_nil] at X70
  refine OGo.step st70 ?_
  show OGo p e below _ T70 (mkF m 19 #[.val (.ref a), .val (.ref b), .val .null, .val (.ref d), .val (.int (Int32.ofNat bs.length))] [(.int (1 : Int32))])
  refine OGo.step (fun _ k => XS.ifNo X70.here hx rfl (hb hby d_jdk_42_method_150_19) rfl ((if0 _ _).trans (feq (by decide : ¬ (1 : Int32) = 0)).1) k) ?_
  show OGo p e below _ T70 (mkF m 22 #[.val (.ref a), .val (.ref b), .val .null, .val (.ref d), .val (.int (Int32.ofNat bs.length))] [])
  refine OGo.step (fun _ k => XS.aloadN X70.here hx rfl (hb hby d_jdk_42_method_150_22) rfl rfl k) ?_
  show OGo p e below _ T70 (mkF m 23 #[.val (.ref a), .val (.ref b), .val .null, .val (.ref d), .val (.int (Int32.ofNat bs.length))] [(.ref a)])
  refine OGo.step (fun _ k => XS.iconst X70.here hx rfl (hb hby d_jdk_42_method_150_23) k) ?_
  show OGo p e below _ T70 (mkF m 24 #[.val (.ref a), .val (.ref b), .val .null, .val (.ref d), .val (.int (Int32.ofNat bs.length))] [(.int (0 : Int32)), (.ref a)])
  obtain ⟨T71, h71, X71, e71, W71, st71⟩ := putFN X70 hx hZ hown (hw _ (List.mem_of_getElem? (i := 24) rfl)) Via.refl e70 Fc E (Or.inr ⟨(hw _ (List.mem_of_getElem? (i := 25) rfl)), rfl, hnm⟩) (hw _ (List.mem_of_getElem? (i := 10) rfl)) (ty := .byte) (v' := (.int (0 : Int32))) (by decide) rfl rfl (g := (mkF m 24 #[.val (.ref a), .val (.ref b), .val .null, .val (.ref d), .val (.int (Int32.ofNat bs.length))] [(.int (0 : Int32)), (.ref a)])) rfl rfl (hb hby d_jdk_42_method_150_24)
  have Fw71 := Fc.same W71
  have N71 := Fr.snoc X71 N0 g_a
  have KK71 : Keep h0 h71 [a] := (Keep.refl h0 [a]).wr W71 (Or.inl (List.mem_of_getElem? (i := 0) rfl))
  refine OGo.step st71 ?_
  show OGo p e below _ T71 (mkF m 27 #[.val (.ref a), .val (.ref b), .val .null, .val (.ref d), .val (.int (Int32.ofNat bs.length))] [])
  refine OGo.step (fun _ k => XS.aloadN X71.here hx rfl (hb hby d_jdk_42_method_150_27) rfl rfl k) ?_
  show OGo p e below _ T71 (mkF m 28 #[.val (.ref a), .val (.ref b), .val .null, .val (.ref d), .val (.int (Int32.ofNat bs.length))] [(.ref a)])
  refine OGo.step (fun _ k => XS.aloadN X71.here hx rfl (hb hby d_jdk_42_method_150_28) rfl rfl k) ?_
  show OGo p e below _ T71 (mkF m 29 #[.val (.ref a), .val (.ref b), .val .null, .val (.ref d), .val (.int (Int32.ofNat bs.length))] [(.ref d), (.ref a)])
  refine OGo.step (fun _ k => XS.iconst X71.here hx rfl (hb hby d_jdk_42_method_150_29) k) ?_
  show OGo p e below _ T71 (mkF m 30 #[.val (.ref a), .val (.ref b), .val .null, .val (.ref d), .val (.int (Int32.ofNat bs.length))] [(.int (0 : Int32)), (.ref d), (.ref a)])
  refine OGo.step (fun _ k => XS.iload X71.here hx rfl (hb hby d_jdk_42_method_150_30) rfl k) ?_
  show OGo p e below _ T71 (mkF m 32 #[.val (.ref a), .val (.ref b), .val .null, .val (.ref d), .val (.int (Int32.ofNat bs.length))] [(.int (Int32.ofNat bs.length)), (.int (0 : Int32)), (.ref d), (.ref a)])
  obtain ⟨v72, T72, L72, X72, hQ72, st72⟩ := scall X71 hx hZ hown (hw _ (List.mem_of_getElem? (i := 170) rfl)) (hw _ (List.mem_of_getElem? (i := 171) rfl)) (hw _ (List.mem_of_getElem? (i := 113) rfl)) (hw _ (List.mem_of_getElem? (i := 172) rfl)) (by decide) (W := 1) (rm_cor l Z a0 hw [] d k zn bs zc wf n0 h71 SS' (O.wr W71 g_a) (JV.other W71 nda) hzn hbz hbn (JX.wr W71)) e71 (by decide) (by decide) (by decide) (by decide) (g := (mkF m 32 #[.val (.ref a), .val (.ref b), .val .null, .val (.ref d), .val (.int (Int32.ofNat bs.length))] [(.int (Int32.ofNat bs.length)), (.int (0 : Int32)), (.ref d), (.ref a)])) rfl (by rw [hml]; rfl) (argsL := [(.ref d), (.int (0 : Int32)), (.int (Int32.ofNat bs.length))]) (rest := [(.ref a)]) opd_12 rfl rfl rfl (by show 2 * 0 + _ ≤ _; exact Nat.le_of_eq rfl) (hb hby d_jdk_42_method_150_32)
  obtain ⟨r72, kr72, rfl, sr72, N72, K72, V72⟩ := hQ72
  have NN72 := Fr.app N71 N72
  have KK72 : Keep h0 T72.heap [a] := KK71.trans K72 all0
  have sz_r72 : h0.size ≤ r72 := Nat.le_trans KK71.1 sr72
  refine OGo.step st72 ?_
  show OGo p e below _ T72 (mkF m 35 #[.val (.ref a), .val (.ref b), .val .null, .val (.ref d), .val (.int (Int32.ofNat bs.length))] [(.ref r72), (.ref a)])
  have q74 := ((Fv.other W71 (Or.inr (slot_ne (Or.inr (hw _ (List.mem_of_getElem? (i := 23) rfl))) (Or.inr (hw _ (List.mem_of_getElem? (i := 25) rfl))) (by decide) (t := (.array .byte)) (t' := .byte) (by decide) (by decide)))).keep K72 nin0)
  obtain ⟨T73, h73, X73, e73, W73, st73⟩ := putF X72 hx hZ hown (host := "") (Or.inl (hw _ (List.mem_of_getElem? (i := 22) rfl))) Via.refl rfl q74 ((E.wr W71).keep K72) (Or.inr ⟨(hw _ (List.mem_of_getElem? (i := 23) rfl)), rfl, hnm⟩) (hw _ (List.mem_of_getElem? (i := 10) rfl)) (ty := (.array .byte)) (by decide) rfl rfl (g := (mkF m 35 #[.val (.ref a), .val (.ref b), .val .null, .val (.ref d), .val (.int (Int32.ofNat bs.length))] [(.ref r72), (.ref a)])) rfl rfl (hb hby d_jdk_42_method_150_35)
  have Fw73 := q74.same W73
  have N73 := Fr.snoc X73 NN72 g_a
  have KK73 : Keep h0 h73 [a] := KK72.wr W73 (Or.inl (List.mem_of_getElem? (i := 0) rfl))
  refine OGo.step st73 ?_
  show OGo p e below _ T73 (mkF m 38 #[.val (.ref a), .val (.ref b), .val .null, .val (.ref d), .val (.int (Int32.ofNat bs.length))] [])
  refine OGo.step (fun _ k => XS.goto X73.here hx rfl (pc0 := 38) (pc' := 97) rfl (hb hby d_jdk_42_method_150_38) (by decide) (by decide) k) ?_
  show OGo p e below _ T73 (mkF m 97 #[.val (.ref a), .val (.ref b), .val .null, .val (.ref d), .val (.int (Int32.ofNat bs.length))] [])
  have q75 := ((Fw71.keep K72 nin0).other W73 (Or.inr (slot_ne (Or.inr (hw _ (List.mem_of_getElem? (i := 25) rfl))) (Or.inr (hw _ (List.mem_of_getElem? (i := 23) rfl))) (by decide) (t := .byte) (t' := (.array .byte)) (by decide) (by decide))))
  have ne76 : r72 ≠ a := (Ne.symm (Nat.ne_of_lt (Nat.lt_of_lt_of_le E.lt sz_r72)))
  exact OGo.retV X73 hx hret hlk (hb hby d_jdk_42_method_150_97) (by decide) (by decide) (by rw [e73]; exact ⟨rfl, N73, KK73, r72, _, sz_r72, ⟨(((E.wr W71).keep K72).wr W73), q75, Fw73, (V72.other W73 ne76)⟩⟩)
theorem d_jdk_42_method_53_0 : decode jdk_42_method_53_code 0 = .ok (.aload_n 0, 1) := by decide +kernel
theorem d_jdk_42_method_53_1 : decode jdk_42_method_53_code 1 = .ok (.aload_n 1, 1) := by decide +kernel
theorem d_jdk_42_method_53_2 : decode jdk_42_method_53_code 2 = .ok (.aconst_null, 1) := by decide +kernel
theorem opd_15 : parseMethodDescriptor "(Ljava/lang/AbstractStringBuilder;Ljava/lang/Void;)V" = some ⟨[(.object "java/lang/AbstractStringBuilder"), (.object "java/lang/Void")], none⟩ := by decide +kernel
theorem d_jdk_42_method_53_3 : decode jdk_42_method_53_code 3 = .ok (.invokespecial 489, 3) := by decide +kernel
theorem d_jdk_42_method_53_6 : decode jdk_42_method_53_code 6 = .ok (.return_, 1) := by decide +kernel
theorem opl_rm_sisb : plainFor (⟨"java/lang/String", "<init>", "(Ljava/lang/StringBuilder;)V"⟩ : MethodName) = true := plainFor_of_name (by first | (simp [plainName, overriddenIn]; done) | decide +kernel)
set_option maxRecDepth 65536 in
set_option maxHeartbeats 40000000 in
theorem rm_sisb (l : Launch) (Z : State) (a0 : Array Value) (hw : ∀ d ∈ tables_1, d.before a0 Z = true) (ws : List Jvm.Cond) (a : Addr) (b d : Addr) (k : ClassId) (zn : Nat) (bs : List Value) (zc : Int32) (wf : Value) (n0 : Nat) (h0 : Heap) (SS : own_SS Z zc wf) (O : Old Z n0 h0) (J : SBI Z h0 b d k (Int32.ofNat zn) bs) (hzn : zn ≤ 226) (hbz : bs.length ≤ zn) (hbn : bs.length ≤ 112) (E : Exa Z h0 a "java/lang/String") (Fc : Fld Z h0 a "java/lang/String" "coder" "B" (.int (0 : Int32))) (Fv : Fld Z h0 a "java/lang/String" "value" "[B" .null) (g_a : n0 ≤ a) (nba : b ≠ a) (nda : d ≠ a) :
    Con l Z (⟨"java/lang/String", "<init>", "(Ljava/lang/StringBuilder;)V"⟩ : MethodName) jdk_42_method_53_code 2 none ws ({ frames := 4, cells := 1, slots := 112, locals := 76 } : Room) #[(.ref a), (.ref b)] h0 (fun v h L => v = none ∧ Fr n0 L ∧ Keep h0 h [a] ∧ ∃ r k', h0.size ≤ r ∧ STI Z h a r k' bs) := by
  refine Con.intro opl_rm_sisb ?_
  intro p e s m below meth c s₁ hx hby hml hown hret hlk hZ hnm X0 e0
  have SS' := SS
  obtain ⟨hzc, SC, hwf, SF⟩ := SS
  have Z0 : n0 ≤ h0.size := O.1 ▸ O.2.1
  have N0 := Fr.nil n0
  obtain ⟨JE, JF, JC, JN, JV, JX⟩ := J
  refine OGo.cast (g' := (mkF m 0 #[.val (.ref a), .val (.ref b)] [])) (by first | (simp [entryFrame, mkF, argsToLocals, Value.category]; done) | rfl) ?_
  show OGo p e below _ s₁ (mkF m 0 #[.val (.ref a), .val (.ref b)] [])
  refine OGo.step (fun _ k => XS.aloadN X0.here hx rfl (hb hby d_jdk_42_method_53_0) rfl rfl k) ?_
  show OGo p e below _ s₁ (mkF m 1 #[.val (.ref a), .val (.ref b)] [(.ref a)])
  refine OGo.step (fun _ k => XS.aloadN X0.here hx rfl (hb hby d_jdk_42_method_53_1) rfl rfl k) ?_
  show OGo p e below _ s₁ (mkF m 2 #[.val (.ref a), .val (.ref b)] [(.ref b), (.ref a)])
  refine OGo.step (fun _ k => XS.aconstNull X0.here hx rfl (hb hby d_jdk_42_method_53_2) k) ?_
  show OGo p e below _ s₁ (mkF m 3 #[.val (.ref a), .val (.ref b)] [.null, (.ref b), (.ref a)])
  obtain ⟨v77, T77, L77, X77, hQ77, st77⟩ := icall X0 hx hZ rfl hown (hw _ (List.mem_of_getElem? (i := 149) rfl)) (hw _ (List.mem_of_getElem? (i := 150) rfl)) (hw _ (List.mem_of_getElem? (i := 2) rfl)) (hw _ (List.mem_of_getElem? (i := 151) rfl)) (by decide) (W := 0) (rm_sia l Z a0 hw [] a b d k zn bs zc wf n0 h0 SS' O ⟨JE, JF, JC, JN, JV, JX⟩ hzn hbz hbn E Fc Fv g_a nba nda) e0 (by decide) (by decide) (by decide) (by decide) (g := (mkF m 3 #[.val (.ref a), .val (.ref b)] [.null, (.ref b), (.ref a)])) rfl (by rw [hml]; rfl) (a := a) (argsL := [(.ref b), .null]) (rest := []) opd_15 rfl rfl rfl (by show 2 * 0 + _ ≤ _; exact Nat.le_of_eq rfl) (hb hby d_jdk_42_method_53_3)
  obtain ⟨rfl, N77, K77, r77, kr77, sr77, I77⟩ := hQ77
  have NN77 := Fr.app N0 N77
  have KK77 : Keep h0 T77.heap [a] := (Keep.refl h0 [a]).trans K77 (allS (Or.inl (List.mem_of_getElem? (i := 0) rfl)) all0)
  refine OGo.step st77 ?_
  show OGo p e below _ T77 (mkF m 6 #[.val (.ref a), .val (.ref b)] [])
  exact OGo.retV X77 hx hret hlk (hb hby d_jdk_42_method_53_6) (by decide) (by decide) ⟨rfl, NN77, KK77, r77, _, sr77, I77⟩
theorem d_jdk_67_method_42_0 : decode jdk_67_method_42_code 0 = .ok (.new 18, 3) := by decide +kernel
theorem d_jdk_67_method_42_3 : decode jdk_67_method_42_code 3 = .ok (.dup, 1) := by decide +kernel
theorem d_jdk_67_method_42_4 : decode jdk_67_method_42_code 4 = .ok (.aload_n 0, 1) := by decide +kernel
theorem opd_16 : parseMethodDescriptor "(Ljava/lang/StringBuilder;)V" = some ⟨[(.object "java/lang/StringBuilder")], none⟩ := by decide +kernel
theorem d_jdk_67_method_42_5 : decode jdk_67_method_42_code 5 = .ok (.invokespecial 137, 3) := by decide +kernel
theorem d_jdk_67_method_42_8 : decode jdk_67_method_42_code 8 = .ok (.areturn, 1) := by decide +kernel
theorem opl_rm_toS : plainFor (⟨"java/lang/StringBuilder", "toString", "()Ljava/lang/String;"⟩ : MethodName) = true := plainFor_of_name (by first | (simp [plainName, overriddenIn]; done) | decide +kernel)
set_option maxRecDepth 65536 in
set_option maxHeartbeats 40000000 in
theorem rm_toS (l : Launch) (Z : State) (a0 : Array Value) (hw : ∀ d ∈ tables_1, d.before a0 Z = true) (ws : List Jvm.Cond) (b d : Addr) (k : ClassId) (zn : Nat) (bs : List Value) (zc : Int32) (wf : Value) (n0 : Nat) (h0 : Heap) (SS : own_SS Z zc wf) (O : Old Z n0 h0) (J : SBI Z h0 b d k (Int32.ofNat zn) bs) (hzn : zn ≤ 226) (hbz : bs.length ≤ zn) (hbn : bs.length ≤ 112) :
    Con l Z (⟨"java/lang/StringBuilder", "toString", "()Ljava/lang/String;"⟩ : MethodName) jdk_67_method_42_code 1 (some (.object "java/lang/String")) ws ({ frames := 5, cells := 2, slots := 116, locals := 90 } : Room) #[(.ref b)] h0 (fun v h L => ∃ a r k', v = some (.ref a) ∧ h0.size ≤ a ∧ h0.size ≤ r ∧ Fr n0 L ∧ Keep h0 h [] ∧ STI Z h a r k' bs) := by
  refine Con.intro opl_rm_toS ?_
  intro p e s m below meth c s₁ hx hby hml hown hret hlk hZ hnm X0 e0
  have SS' := SS
  obtain ⟨hzc, SC, hwf, SF⟩ := SS
  have Z0 : n0 ≤ h0.size := O.1 ▸ O.2.1
  have N0 := Fr.nil n0
  obtain ⟨JE, JF, JC, JN, JV, JX⟩ := J
  refine OGo.cast (g' := (mkF m 0 #[.val (.ref b)] [])) (by first | (simp [entryFrame, mkF, argsToLocals, Value.category]; done) | rfl) ?_
  show OGo p e below _ s₁ (mkF m 0 #[.val (.ref b)] [])
  obtain ⟨T78, h78, X78, e78, E78, A78, D78, UN78, st78⟩ := newO X0 hx hZ hown (hw _ (List.mem_of_getElem? (i := 145) rfl)) (hw _ (List.mem_of_getElem? (i := 10) rfl)) (hw _ (List.mem_of_getElem? (i := 2) rfl)) e0 (g := (mkF m 0 #[.val (.ref b)] [])) rfl (hb hby d_jdk_67_method_42_0) (by decide) (by decide)
  obtain ⟨b78, g78⟩ : ∃ z, z = h0.size := ⟨_, rfl⟩
  rw [← g78] at A78 D78 UN78 st78
  have sz_b78 : h0.size ≤ b78 := Nat.le_trans (Keep.refl h0 []).1 (Nat.le_of_eq g78.symm)
  have KK78 : Keep h0 h78 [] := (Keep.refl h0 []).ext E78
  have F78_value : Fld Z h78 b78 "java/lang/String" "value" "[B" .null := D78 (Or.inr (hw _ (List.mem_of_getElem? (i := 23) rfl))) (ty := (.array .byte)) (by decide)
  have F78_coder : Fld Z h78 b78 "java/lang/String" "coder" "B" (.int (0 : Int32)) := D78 (Or.inr (hw _ (List.mem_of_getElem? (i := 25) rfl))) (ty := .byte) (by decide)
  refine OGo.step st78 ?_
  show OGo p e below _ T78 (mkF m 3 #[.val (.ref b)] [(.ref b78)])
  refine OGo.step (fun _ k => XS.dup X78.here hx rfl (hb hby d_jdk_67_method_42_3) rfl rfl k) ?_
  show OGo p e below _ T78 (mkF m 4 #[.val (.ref b)] [(.ref b78), (.ref b78)])
  refine OGo.step (fun _ k => XS.aloadN X78.here hx rfl (hb hby d_jdk_67_method_42_4) rfl rfl k) ?_
  show OGo p e below _ T78 (mkF m 5 #[.val (.ref b)] [(.ref b), (.ref b78), (.ref b78)])
  obtain ⟨v79, T79, L79, X79, hQ79, st79⟩ := icall X78 hx hZ rfl hown (hw _ (List.mem_of_getElem? (i := 146) rfl)) (hw _ (List.mem_of_getElem? (i := 147) rfl)) (hw _ (List.mem_of_getElem? (i := 2) rfl)) (hw _ (List.mem_of_getElem? (i := 148) rfl)) (by decide) (W := 1) (rm_sisb l Z a0 hw [] b78 b d k zn bs zc wf n0 h78 SS' (O.ext E78) ⟨(JE.ext E78), (JF.ext E78), (JC.ext E78), (JN.ext E78), (JV.ext E78), (JX.ext E78)⟩ hzn hbz hbn A78 F78_coder F78_value (Nat.le_trans Z0 sz_b78) (Nat.ne_of_lt (Nat.lt_of_lt_of_le JE.lt sz_b78)) (Nat.ne_of_lt (Nat.lt_of_lt_of_le JV.lt sz_b78))) e78 (by decide) (by decide) (by decide) (by decide) (g := (mkF m 5 #[.val (.ref b)] [(.ref b), (.ref b78), (.ref b78)])) rfl (by rw [hml]; rfl) (a := b78) (argsL := [(.ref b)]) (rest := [(.ref b78)]) opd_16 rfl rfl rfl (by show 2 * 0 + _ ≤ _; exact Nat.le_of_eq rfl) (hb hby d_jdk_67_method_42_5)
  obtain ⟨rfl, N79, K79, r79, kr79, sr79, I79⟩ := hQ79
  have NN79 := Fr.app N0 N79
  have KK79 : Keep h0 T79.heap [] := KK78.trans K79 (allS (Or.inr sz_b78) all0)
  have sz_r79 : h0.size ≤ r79 := Nat.le_trans KK78.1 sr79
  refine OGo.step st79 ?_
  show OGo p e below _ T79 (mkF m 8 #[.val (.ref b)] [(.ref b78)])
  exact OGo.ret X79 hx (t := (.object "java/lang/String")) hret hlk rfl (Or.inr (Or.inr (Or.inr (Or.inr ⟨rfl, rfl, rfl⟩)))) (hb hby d_jdk_67_method_42_8) (by decide) (by decide) ⟨b78, r79, _, rfl, sz_b78, sz_r79, NN79, KK79, I79⟩
theorem d_jdk_52_method_21_0 : decode jdk_52_method_21_code 0 = .ok (.iconst 0, 1) := by decide +kernel
theorem d_jdk_52_method_21_1 : decode jdk_52_method_21_code 1 = .ok (.istore 5, 2) := by decide +kernel
theorem d_jdk_52_method_21_3 : decode jdk_52_method_21_code 3 = .ok (.iload 5, 2) := by decide +kernel
theorem d_jdk_52_method_21_5 : decode jdk_52_method_21_code 5 = .ok (.iload 4, 2) := by decide +kernel
theorem d_jdk_52_method_21_7 : decode jdk_52_method_21_code 7 = .ok (.if_icmp .ge 37, 3) := by decide +kernel
theorem d_jdk_52_method_21_44 : decode jdk_52_method_21_code 44 = .ok (.iload 4, 2) := by decide +kernel
theorem d_jdk_52_method_21_46 : decode jdk_52_method_21_code 46 = .ok (.ireturn, 1) := by decide +kernel
theorem d_jdk_52_method_21_10 : decode jdk_52_method_21_code 10 = .ok (.aload_n 0, 1) := by decide +kernel
theorem d_jdk_52_method_21_11 : decode jdk_52_method_21_code 11 = .ok (.iload_n 1, 1) := by decide +kernel
theorem d_jdk_52_method_21_12 : decode jdk_52_method_21_code 12 = .ok (.caload, 1) := by decide +kernel
theorem d_jdk_52_method_21_13 : decode jdk_52_method_21_code 13 = .ok (.istore 6, 2) := by decide +kernel
theorem d_jdk_52_method_21_15 : decode jdk_52_method_21_code 15 = .ok (.iload 6, 2) := by decide +kernel
theorem d_jdk_52_method_21_17 : decode jdk_52_method_21_code 17 = .ok (.sipush 255, 3) := by decide +kernel
theorem d_jdk_52_method_21_20 : decode jdk_52_method_21_code 20 = .ok (.if_icmp .le 6, 3) := by decide +kernel
theorem d_jdk_52_method_21_26 : decode jdk_52_method_21_code 26 = .ok (.aload_n 2, 1) := by decide +kernel
theorem d_jdk_52_method_21_27 : decode jdk_52_method_21_code 27 = .ok (.iload_n 3, 1) := by decide +kernel
theorem d_jdk_52_method_21_28 : decode jdk_52_method_21_code 28 = .ok (.iload 6, 2) := by decide +kernel
theorem d_jdk_52_method_21_30 : decode jdk_52_method_21_code 30 = .ok (.i2b, 1) := by decide +kernel
theorem d_jdk_52_method_21_31 : decode jdk_52_method_21_code 31 = .ok (.bastore, 1) := by decide +kernel
theorem d_jdk_52_method_21_32 : decode jdk_52_method_21_code 32 = .ok (.iinc 1 1, 3) := by decide +kernel
theorem d_jdk_52_method_21_35 : decode jdk_52_method_21_code 35 = .ok (.iinc 3 1, 3) := by decide +kernel
theorem d_jdk_52_method_21_38 : decode jdk_52_method_21_code 38 = .ok (.iinc 5 1, 3) := by decide +kernel
theorem d_jdk_52_method_21_41 : decode jdk_52_method_21_code 41 = .ok (.goto (-38), 3) := by decide +kernel
theorem opl_rm_cmp5 : plainFor (⟨"java/lang/StringUTF16", "compress", "([CI[BII)I"⟩ : MethodName) = true := plainFor_of_name (by first | (simp [plainName, overriddenIn]; done) | decide +kernel)
set_option maxRecDepth 65536 in
set_option maxHeartbeats 40000000 in
theorem rm_cmp5 (l : Launch) (Z : State) (a0 : Array Value) (hw : ∀ d ∈ tables_1, d.before a0 Z = true) (ws : List Jvm.Cond) (ca b : Addr) (kc kb : ClassId) (cs : List Int32) (zc : Int32) (wf : Value) (n0 : Nat) (h0 : Heap) (SS : own_SS Z zc wf) (O : Old Z n0 h0) (Vc : Arv Z h0 ca kc .char (Int32.ofNat cs.length) (cs.map Value.int) (.int (0 : Int32))) (Vb : Arv Z h0 b kb .byte (Int32.ofNat cs.length) [] (.int (0 : Int32))) (hp : own_ok8 cs) (hbl : cs.length < 2147483648) (nbc : ca ≠ b) (g_b : n0 ≤ b) :
    Con l Z (⟨"java/lang/StringUTF16", "compress", "([CI[BII)I"⟩ : MethodName) jdk_52_method_21_code 7 (some .int) ws ({ frames := 0, cells := 0, slots := 0, locals := 0 } : Room) #[(.ref ca), (.int (0 : Int32)), (.ref b), (.int (0 : Int32)), (.int (Int32.ofNat cs.length))] h0 (fun v h L => v = some (.int (Int32.ofNat cs.length)) ∧ Fr n0 L ∧ Keep h0 h [b] ∧ Arv Z h b kb .byte (Int32.ofNat cs.length) (own_b8 cs) (.int (0 : Int32))) := by
  refine Con.intro opl_rm_cmp5 ?_
  intro p e s m below meth c s₁ hx hby hml hown hret hlk hZ hnm X0 e0
  obtain ⟨hzc, SC, hwf, SF⟩ := SS
  have Z0 : n0 ≤ h0.size := O.1 ▸ O.2.1
  have N0 := Fr.nil n0
  refine OGo.cast (g' := (mkF m 0 #[.val (.ref ca), .val (.int (0 : Int32)), .val (.ref b), .val (.int (0 : Int32)), .val (.int (Int32.ofNat cs.length)), .unset, .unset] [])) (by first | (simp [entryFrame, mkF, argsToLocals, Value.category]; done) | rfl) ?_
  show OGo p e below _ s₁ (mkF m 0 #[.val (.ref ca), .val (.int (0 : Int32)), .val (.ref b), .val (.int (0 : Int32)), .val (.int (Int32.ofNat cs.length)), .unset, .unset] [])
  refine OGo.step (fun _ k => XS.iconst X0.here hx rfl (hb hby d_jdk_52_method_21_0) k) ?_
  show OGo p e below _ s₁ (mkF m 1 #[.val (.ref ca), .val (.int (0 : Int32)), .val (.ref b), .val (.int (0 : Int32)), .val (.int (Int32.ofNat cs.length)), .unset, .unset] [(.int (0 : Int32))])
  refine OGo.step (fun _ k => XS.istore X0.here hx rfl (hb hby d_jdk_52_method_21_1) rfl (l' := #[.val (.ref ca), .val (.int (0 : Int32)), .val (.ref b), .val (.int (0 : Int32)), .val (.int (Int32.ofNat cs.length)), .val (.int (0 : Int32)), .unset]) rfl k) ?_
  show OGo p e below _ s₁ (mkF m 3 #[.val (.ref ca), .val (.int (0 : Int32)), .val (.ref b), .val (.int (0 : Int32)), .val (.int (Int32.ofNat cs.length)), .val (.int (0 : Int32)), .unset] [])
  have loop : ∀ (r i : Nat) (T : State) (h : Heap) (locs : List Loc) (s6 : Slot), i + r = cs.length → One s6 → Stand p l e ({ frames := 0, cells := 0, slots := 0, locals := 0 } : Room) s m #[(.ref ca), (.int (0 : Int32)), (.ref b), (.int (0 : Int32)), (.int (Int32.ofNat cs.length))] below meth c T locs 0 0 → T.heap = h → Fr n0 locs → Keep h0 h [b] → Arv Z h ca kc .char (Int32.ofNat cs.length) (cs.map Value.int) (.int (0 : Int32)) → Arv Z h b kb .byte (Int32.ofNat cs.length) (own_b8 (cs.take i)) (.int (0 : Int32)) → OGo p e below (EndQ s ({ frames := 0, cells := 0, slots := 0, locals := 0 } : Room) (fun v h L => v = some (.int (Int32.ofNat cs.length)) ∧ Fr n0 L ∧ Keep h0 h [b] ∧ Arv Z h b kb .byte (Int32.ofNat cs.length) (own_b8 cs) (.int (0 : Int32)))) T (mkF m 3 #[.val (.ref ca), .val (.int (Int32.ofNat i)), .val (.ref b), .val (.int (Int32.ofNat i)), .val (.int (Int32.ofNat cs.length)), .val (.int (Int32.ofNat i)), s6] []) := by
    intro r
    induction r with
    | zero =>
      intro i T h locs s6 hi h6 X eT N K Vc Vb
      have hi' : i = cs.length := by omega
      subst hi'
      rw [List.take_length] at Vb
      show OGo p e below _ T (mkF m 3 #[.val (.ref ca), .val (.int (Int32.ofNat cs.length)), .val (.ref b), .val (.int (Int32.ofNat cs.length)), .val (.int (Int32.ofNat cs.length)), .val (.int (Int32.ofNat cs.length)), s6] [])
      refine OGo.step (fun _ k => XS.iload X.here hx rfl (hb hby d_jdk_52_method_21_3) rfl k) ?_
      show OGo p e below _ T (mkF m 5 #[.val (.ref ca), .val (.int (Int32.ofNat cs.length)), .val (.ref b), .val (.int (Int32.ofNat cs.length)), .val (.int (Int32.ofNat cs.length)), .val (.int (Int32.ofNat cs.length)), s6] [(.int (Int32.ofNat cs.length))])
      refine OGo.step (fun _ k => XS.iload X.here hx rfl (hb hby d_jdk_52_method_21_5) rfl k) ?_
      show OGo p e below _ T (mkF m 7 #[.val (.ref ca), .val (.int (Int32.ofNat cs.length)), .val (.ref b), .val (.int (Int32.ofNat cs.length)), .val (.int (Int32.ofNat cs.length)), .val (.int (Int32.ofNat cs.length)), s6] [(.int (Int32.ofNat cs.length)), (.int (Int32.ofNat cs.length))])
      refine OGo.step (fun _ k => XS.icmpYes X.here hx rfl (pc0 := 7) (pc' := 44) rfl (hb hby d_jdk_52_method_21_7) rfl (flt Int32.lt_irrefl).2.1 (by decide) (by decide) k) ?_
      show OGo p e below _ T (mkF m 44 #[.val (.ref ca), .val (.int (Int32.ofNat cs.length)), .val (.ref b), .val (.int (Int32.ofNat cs.length)), .val (.int (Int32.ofNat cs.length)), .val (.int (Int32.ofNat cs.length)), s6] [])
      refine OGo.step (fun _ k => XS.iload X.here hx rfl (hb hby d_jdk_52_method_21_44) rfl k) ?_
      show OGo p e below _ T (mkF m 46 #[.val (.ref ca), .val (.int (Int32.ofNat cs.length)), .val (.ref b), .val (.int (Int32.ofNat cs.length)), .val (.int (Int32.ofNat cs.length)), .val (.int (Int32.ofNat cs.length)), s6] [(.int (Int32.ofNat cs.length))])
      exact OGo.ret X hx (t := .int) hret hlk rfl (Or.inl ⟨rfl, by simp, _, rfl⟩) (hb hby d_jdk_52_method_21_46) (by decide) (by decide) (by rw [eT]; exact ⟨rfl, N, K, Vb⟩)
    | succ r ih =>
      intro i T h locs s6 hi h6 X eT N K Vc Vb
      have hil : i < cs.length := by omega
      obtain ⟨x, hxi⟩ : ∃ x, cs[i]? = some x := ⟨_, List.getElem?_eq_getElem hil⟩
      have hx8 := hp x (List.mem_of_getElem? hxi)
      have hlt : Int32.ofNat i < (Int32.ofNat cs.length) := (own_lt (by omega) hbl).mpr hil
      have Vb' : Arv Z h b kb .byte (Int32.ofNat cs.length) (own_b8 (cs.take i) ++ List.replicate 1 (.int (0 : Int32))) (.int (0 : Int32)) := Vb.pad (pad_rep _ _ 1)
      show OGo p e below _ T (mkF m 3 #[.val (.ref ca), .val (.int (Int32.ofNat i)), .val (.ref b), .val (.int (Int32.ofNat i)), .val (.int (Int32.ofNat cs.length)), .val (.int (Int32.ofNat i)), s6] [])
      refine OGo.step (fun _ k => XS.iload X.here hx rfl (hb hby d_jdk_52_method_21_3) rfl k) ?_
      show OGo p e below _ T (mkF m 5 #[.val (.ref ca), .val (.int (Int32.ofNat i)), .val (.ref b), .val (.int (Int32.ofNat i)), .val (.int (Int32.ofNat cs.length)), .val (.int (Int32.ofNat i)), s6] [(.int (Int32.ofNat i))])
      refine OGo.step (fun _ k => XS.iload X.here hx rfl (hb hby d_jdk_52_method_21_5) rfl k) ?_
      show OGo p e below _ T (mkF m 7 #[.val (.ref ca), .val (.int (Int32.ofNat i)), .val (.ref b), .val (.int (Int32.ofNat i)), .val (.int (Int32.ofNat cs.length)), .val (.int (Int32.ofNat i)), s6] [(.int (Int32.ofNat cs.length)), (.int (Int32.ofNat i))])
      refine OGo.step (fun _ k => XS.icmpNo X.here hx rfl (hb hby d_jdk_52_method_21_7) rfl (tlt hlt).2.1 k) ?_
      show OGo p e below _ T (mkF m 10 #[.val (.ref ca), .val (.int (Int32.ofNat i)), .val (.ref b), .val (.int (Int32.ofNat i)), .val (.int (Int32.ofNat cs.length)), .val (.int (Int32.ofNat i)), s6] [])
      refine OGo.step (fun _ k => XS.aloadN X.here hx rfl (hb hby d_jdk_52_method_21_10) rfl rfl k) ?_
      show OGo p e below _ T (mkF m 11 #[.val (.ref ca), .val (.int (Int32.ofNat i)), .val (.ref b), .val (.int (Int32.ofNat i)), .val (.int (Int32.ofNat cs.length)), .val (.int (Int32.ofNat i)), s6] [(.ref ca)])
      refine OGo.step (fun _ k => XS.iloadN X.here hx rfl (hb hby d_jdk_52_method_21_11) rfl k) ?_
      show OGo p e below _ T (mkF m 12 #[.val (.ref ca), .val (.int (Int32.ofNat i)), .val (.ref b), .val (.int (Int32.ofNat i)), .val (.int (Int32.ofNat cs.length)), .val (.int (Int32.ofNat i)), s6] [(.int (Int32.ofNat i)), (.ref ca)])
      refine OGo.step (fun _ k => caloadV X hx hZ eT Vc ⟨own_nn (by omega), hlt⟩ (own_at hxi (by omega)) (g := (mkF m 12 #[.val (.ref ca), .val (.int (Int32.ofNat i)), .val (.ref b), .val (.int (Int32.ofNat i)), .val (.int (Int32.ofNat cs.length)), .val (.int (Int32.ofNat i)), s6] [(.int (Int32.ofNat i)), (.ref ca)])) rfl rfl (hb hby d_jdk_52_method_21_12) _ k) ?_
      show OGo p e below _ T (mkF m 13 #[.val (.ref ca), .val (.int (Int32.ofNat i)), .val (.ref b), .val (.int (Int32.ofNat i)), .val (.int (Int32.ofNat cs.length)), .val (.int (Int32.ofNat i)), s6] [(.int x)])
      refine OGo.step (fun _ k => XS.istore X.here hx rfl (hb hby d_jdk_52_method_21_13) rfl (own_one h6) k) ?_
      show OGo p e below _ T (mkF m 15 #[.val (.ref ca), .val (.int (Int32.ofNat i)), .val (.ref b), .val (.int (Int32.ofNat i)), .val (.int (Int32.ofNat cs.length)), .val (.int (Int32.ofNat i)), .val (.int x)] [])
      refine OGo.step (fun _ k => XS.iload X.here hx rfl (hb hby d_jdk_52_method_21_15) rfl k) ?_
      show OGo p e below _ T (mkF m 17 #[.val (.ref ca), .val (.int (Int32.ofNat i)), .val (.ref b), .val (.int (Int32.ofNat i)), .val (.int (Int32.ofNat cs.length)), .val (.int (Int32.ofNat i)), .val (.int x)] [(.int x)])
      refine OGo.step (fun _ k => XS.sipush X.here hx rfl (hb hby d_jdk_52_method_21_17) k) ?_
      show OGo p e below _ T (mkF m 20 #[.val (.ref ca), .val (.int (Int32.ofNat i)), .val (.ref b), .val (.int (Int32.ofNat i)), .val (.int (Int32.ofNat cs.length)), .val (.int (Int32.ofNat i)), .val (.int x)] [(.int (255 : Int32)), (.int x)])
      refine OGo.step (fun _ k => XS.icmpYes X.here hx rfl (pc0 := 20) (pc' := 26) rfl (hb hby d_jdk_52_method_21_20) rfl (flt hx8.2).2.2.2 (by decide) (by decide) k) ?_
      show OGo p e below _ T (mkF m 26 #[.val (.ref ca), .val (.int (Int32.ofNat i)), .val (.ref b), .val (.int (Int32.ofNat i)), .val (.int (Int32.ofNat cs.length)), .val (.int (Int32.ofNat i)), .val (.int x)] [])
      refine OGo.step (fun _ k => XS.aloadN X.here hx rfl (hb hby d_jdk_52_method_21_26) rfl rfl k) ?_
      show OGo p e below _ T (mkF m 27 #[.val (.ref ca), .val (.int (Int32.ofNat i)), .val (.ref b), .val (.int (Int32.ofNat i)), .val (.int (Int32.ofNat cs.length)), .val (.int (Int32.ofNat i)), .val (.int x)] [(.ref b)])
      refine OGo.step (fun _ k => XS.iloadN X.here hx rfl (hb hby d_jdk_52_method_21_27) rfl k) ?_
      show OGo p e below _ T (mkF m 28 #[.val (.ref ca), .val (.int (Int32.ofNat i)), .val (.ref b), .val (.int (Int32.ofNat i)), .val (.int (Int32.ofNat cs.length)), .val (.int (Int32.ofNat i)), .val (.int x)] [(.int (Int32.ofNat i)), (.ref b)])
      refine OGo.step (fun _ k => XS.iload X.here hx rfl (hb hby d_jdk_52_method_21_28) rfl k) ?_
      show OGo p e below _ T (mkF m 30 #[.val (.ref ca), .val (.int (Int32.ofNat i)), .val (.ref b), .val (.int (Int32.ofNat i)), .val (.int (Int32.ofNat cs.length)), .val (.int (Int32.ofNat i)), .val (.int x)] [(.int x), (.int (Int32.ofNat i)), (.ref b)])
      refine OGo.step (fun _ k => XS.i2b X.here hx rfl (hb hby d_jdk_52_method_21_30) rfl k) ?_
      show OGo p e below _ T (mkF m 31 #[.val (.ref ca), .val (.int (Int32.ofNat i)), .val (.ref b), .val (.int (Int32.ofNat i)), .val (.int (Int32.ofNat cs.length)), .val (.int (Int32.ofNat i)), .val (.int x)] [(.int (x.toInt8.toInt32)), (.int (Int32.ofNat i)), (.ref b)])
      obtain ⟨T80, h80, X80, e80, W80, Vq80, st80⟩ := bastoreV X hx hZ eT Vb' (j := (Int32.ofNat i)) ⟨own_nn (by omega), hlt⟩ (by rw [own_cl (by omega), List.length_append, own_b8_len]; simp; omega) (g := (mkF m 31 #[.val (.ref ca), .val (.int (Int32.ofNat i)), .val (.ref b), .val (.int (Int32.ofNat i)), .val (.int (Int32.ofNat cs.length)), .val (.int (Int32.ofNat i)), .val (.int x)] [(.int (x.toInt8.toInt32)), (.int (Int32.ofNat i)), (.ref b)])) rfl rfl (hb hby d_jdk_52_method_21_31)
      have N80 := Fr.snoc X80 N g_b
      have KK80 : Keep h0 h80 [b] := K.wr W80 (Or.inl (List.mem_of_getElem? (i := 0) rfl))
      refine OGo.step st80 ?_
      show OGo p e below _ T80 (mkF m 32 #[.val (.ref ca), .val (.int (Int32.ofNat i)), .val (.ref b), .val (.int (Int32.ofNat i)), .val (.int (Int32.ofNat cs.length)), .val (.int (Int32.ofNat i)), .val (.int x)] [])
      rw [own_cl (show i < 2147483648 by omega), own_set hxi] at Vq80
      refine OGo.step (fun _ k => XS.iinc X80.here hx rfl (hb hby d_jdk_52_method_21_32) rfl (l' := #[.val (.ref ca), .val (.int ((Int32.ofNat i) + (1 : Int32))), .val (.ref b), .val (.int (Int32.ofNat i)), .val (.int (Int32.ofNat cs.length)), .val (.int (Int32.ofNat i)), .val (.int x)]) rfl k) ?_
      show OGo p e below _ T80 (mkF m 35 #[.val (.ref ca), .val (.int ((Int32.ofNat i) + (1 : Int32))), .val (.ref b), .val (.int (Int32.ofNat i)), .val (.int (Int32.ofNat cs.length)), .val (.int (Int32.ofNat i)), .val (.int x)] [])
      refine OGo.step (fun _ k => XS.iinc X80.here hx rfl (hb hby d_jdk_52_method_21_35) rfl (l' := #[.val (.ref ca), .val (.int ((Int32.ofNat i) + (1 : Int32))), .val (.ref b), .val (.int ((Int32.ofNat i) + (1 : Int32))), .val (.int (Int32.ofNat cs.length)), .val (.int (Int32.ofNat i)), .val (.int x)]) rfl k) ?_
      show OGo p e below _ T80 (mkF m 38 #[.val (.ref ca), .val (.int ((Int32.ofNat i) + (1 : Int32))), .val (.ref b), .val (.int ((Int32.ofNat i) + (1 : Int32))), .val (.int (Int32.ofNat cs.length)), .val (.int (Int32.ofNat i)), .val (.int x)] [])
      refine OGo.step (fun _ k => XS.iinc X80.here hx rfl (hb hby d_jdk_52_method_21_38) rfl (l' := #[.val (.ref ca), .val (.int ((Int32.ofNat i) + (1 : Int32))), .val (.ref b), .val (.int ((Int32.ofNat i) + (1 : Int32))), .val (.int (Int32.ofNat cs.length)), .val (.int ((Int32.ofNat i) + (1 : Int32))), .val (.int x)]) rfl k) ?_
      show OGo p e below _ T80 (mkF m 41 #[.val (.ref ca), .val (.int ((Int32.ofNat i) + (1 : Int32))), .val (.ref b), .val (.int ((Int32.ofNat i) + (1 : Int32))), .val (.int (Int32.ofNat cs.length)), .val (.int ((Int32.ofNat i) + (1 : Int32))), .val (.int x)] [])
      refine OGo.step (fun _ k => XS.goto X80.here hx rfl (pc0 := 41) (pc' := 3) rfl (hb hby d_jdk_52_method_21_41) (by decide) (by decide) k) ?_
      show OGo p e below _ T80 (mkF m 3 #[.val (.ref ca), .val (.int ((Int32.ofNat i) + (1 : Int32))), .val (.ref b), .val (.int ((Int32.ofNat i) + (1 : Int32))), .val (.int (Int32.ofNat cs.length)), .val (.int ((Int32.ofNat i) + (1 : Int32))), .val (.int x)] [])
      rw [own_inc]
      exact ih (i + 1) T80 h80 _ _ (by omega) (One.val rfl) X80 e80 N80 KK80 (Vc.other W80 nbc) Vq80
  exact loop cs.length 0 _ _ _ _ (Nat.zero_add _) One.u X0 e0 N0 (Keep.refl _ _) Vc Vb
theorem d_jdk_52_method_16_0 : decode jdk_52_method_16_code 0 = .ok (.iload_n 2, 1) := by decide +kernel
theorem d_jdk_52_method_16_1 : decode jdk_52_method_16_code 1 = .ok (.newarray .byte, 2) := by decide +kernel
theorem d_jdk_52_method_16_3 : decode jdk_52_method_16_code 3 = .ok (.astore_n 3, 1) := by decide +kernel
theorem d_jdk_52_method_16_4 : decode jdk_52_method_16_code 4 = .ok (.aload_n 0, 1) := by decide +kernel
theorem d_jdk_52_method_16_5 : decode jdk_52_method_16_code 5 = .ok (.iload_n 1, 1) := by decide +kernel
theorem d_jdk_52_method_16_6 : decode jdk_52_method_16_code 6 = .ok (.aload_n 3, 1) := by decide +kernel
theorem d_jdk_52_method_16_7 : decode jdk_52_method_16_code 7 = .ok (.iconst 0, 1) := by decide +kernel
theorem d_jdk_52_method_16_8 : decode jdk_52_method_16_code 8 = .ok (.iload_n 2, 1) := by decide +kernel
theorem opd_17 : parseMethodDescriptor "([CI[BII)I" = some ⟨[(.array .char), .int, (.array .byte), .int, .int], some .int⟩ := by decide +kernel
theorem d_jdk_52_method_16_9 : decode jdk_52_method_16_code 9 = .ok (.invokestatic 115, 3) := by decide +kernel
theorem d_jdk_52_method_16_12 : decode jdk_52_method_16_code 12 = .ok (.istore 4, 2) := by decide +kernel
theorem d_jdk_52_method_16_14 : decode jdk_52_method_16_code 14 = .ok (.iload 4, 2) := by decide +kernel
theorem d_jdk_52_method_16_16 : decode jdk_52_method_16_code 16 = .ok (.iload_n 2, 1) := by decide +kernel
theorem d_jdk_52_method_16_17 : decode jdk_52_method_16_code 17 = .ok (.if_icmp .eq 40, 3) := by decide +kernel
theorem d_jdk_52_method_16_57 : decode jdk_52_method_16_code 57 = .ok (.aload_n 3, 1) := by decide +kernel
theorem d_jdk_52_method_16_58 : decode jdk_52_method_16_code 58 = .ok (.areturn, 1) := by decide +kernel
theorem opl_rm_cmp3 : plainFor (⟨"java/lang/StringUTF16", "compress", "([CII)[B"⟩ : MethodName) = true := plainFor_of_name (by first | (simp [plainName, overriddenIn]; done) | decide +kernel)
set_option maxRecDepth 65536 in
set_option maxHeartbeats 40000000 in
theorem rm_cmp3 (l : Launch) (Z : State) (a0 : Array Value) (hw : ∀ d ∈ tables_1, d.before a0 Z = true) (ws : List Jvm.Cond) (ca : Addr) (kc : ClassId) (cs : List Int32) (zc : Int32) (wf : Value) (n0 : Nat) (h0 : Heap) (SS : own_SS Z zc wf) (O : Old Z n0 h0) (Vc : Arv Z h0 ca kc .char (Int32.ofNat cs.length) (cs.map Value.int) (.int (0 : Int32))) (hp : own_ok8 cs) (hbl : cs.length < 2147483648) (hcap : cs.length ≤ 93) :
    Con l Z (⟨"java/lang/StringUTF16", "compress", "([CII)[B"⟩ : MethodName) jdk_52_method_16_code 6 (some (.array .byte)) ws ({ frames := 1, cells := 1, slots := 93, locals := 18 } : Room) #[(.ref ca), (.int (0 : Int32)), (.int (Int32.ofNat cs.length))] h0 (fun v h L => ∃ r k', v = some (.ref r) ∧ h0.size ≤ r ∧ Fr n0 L ∧ Keep h0 h [] ∧ Arv Z h r k' .byte (Int32.ofNat cs.length) (own_b8 cs) (.int (0 : Int32))) := by
  refine Con.intro opl_rm_cmp3 ?_
  intro p e s m below meth c s₁ hx hby hml hown hret hlk hZ hnm X0 e0
  have SS' := SS
  obtain ⟨hzc, SC, hwf, SF⟩ := SS
  have Z0 : n0 ≤ h0.size := O.1 ▸ O.2.1
  have N0 := Fr.nil n0
  refine OGo.cast (g' := (mkF m 0 #[.val (.ref ca), .val (.int (0 : Int32)), .val (.int (Int32.ofNat cs.length)), .unset, .unset, .unset] [])) (by first | (simp [entryFrame, mkF, argsToLocals, Value.category]; done) | rfl) ?_
  show OGo p e below _ s₁ (mkF m 0 #[.val (.ref ca), .val (.int (0 : Int32)), .val (.int (Int32.ofNat cs.length)), .unset, .unset, .unset] [])
  refine OGo.step (fun _ k => XS.iloadN X0.here hx rfl (hb hby d_jdk_52_method_16_0) rfl k) ?_
  show OGo p e below _ s₁ (mkF m 1 #[.val (.ref ca), .val (.int (0 : Int32)), .val (.int (Int32.ofNat cs.length)), .unset, .unset, .unset] [(.int (Int32.ofNat cs.length))])
  obtain ⟨T81, h81, k81, X81, e81, E81, A81, AE81, st81⟩ := newPE X0 hx hZ (hw _ (List.mem_of_getElem? (i := 14) rfl)) e0 (g := (mkF m 1 #[.val (.ref ca), .val (.int (0 : Int32)), .val (.int (Int32.ofNat cs.length)), .unset, .unset, .unset] [(.int (Int32.ofNat cs.length))])) rfl (hb hby d_jdk_52_method_16_1) rfl (own_nn hbl) (cap := 93) (by rw [own_cl hbl]; exact hcap) (by decide) (by decide) (by decide) (ad := "[B") (by decide)
  obtain ⟨b81, g81⟩ : ∃ z, z = h0.size := ⟨_, rfl⟩
  rw [← g81] at A81 AE81 st81
  have sz_b81 : h0.size ≤ b81 := Nat.le_trans (Keep.refl h0 []).1 (Nat.le_of_eq g81.symm)
  have KK81 : Keep h0 h81 [] := (Keep.refl h0 []).ext E81
  have V81 : Arv Z h81 b81 k81 .byte (Int32.ofNat cs.length) [] (.int (0 : Int32)) := Arv.new A81 (own_nn hbl)
  refine OGo.step st81 ?_
  show OGo p e below _ T81 (mkF m 3 #[.val (.ref ca), .val (.int (0 : Int32)), .val (.int (Int32.ofNat cs.length)), .unset, .unset, .unset] [(.ref b81)])
  refine OGo.step (fun _ k => XS.astoreN X81.here hx rfl (hb hby d_jdk_52_method_16_3) rfl rfl (l' := #[.val (.ref ca), .val (.int (0 : Int32)), .val (.int (Int32.ofNat cs.length)), .val (.ref b81), .unset, .unset]) rfl k) ?_
  show OGo p e below _ T81 (mkF m 4 #[.val (.ref ca), .val (.int (0 : Int32)), .val (.int (Int32.ofNat cs.length)), .val (.ref b81), .unset, .unset] [])
  refine OGo.step (fun _ k => XS.aloadN X81.here hx rfl (hb hby d_jdk_52_method_16_4) rfl rfl k) ?_
  show OGo p e below _ T81 (mkF m 5 #[.val (.ref ca), .val (.int (0 : Int32)), .val (.int (Int32.ofNat cs.length)), .val (.ref b81), .unset, .unset] [(.ref ca)])
  refine OGo.step (fun _ k => XS.iloadN X81.here hx rfl (hb hby d_jdk_52_method_16_5) rfl k) ?_
  show OGo p e below _ T81 (mkF m 6 #[.val (.ref ca), .val (.int (0 : Int32)), .val (.int (Int32.ofNat cs.length)), .val (.ref b81), .unset, .unset] [(.int (0 : Int32)), (.ref ca)])
  refine OGo.step (fun _ k => XS.aloadN X81.here hx rfl (hb hby d_jdk_52_method_16_6) rfl rfl k) ?_
  show OGo p e below _ T81 (mkF m 7 #[.val (.ref ca), .val (.int (0 : Int32)), .val (.int (Int32.ofNat cs.length)), .val (.ref b81), .unset, .unset] [(.ref b81), (.int (0 : Int32)), (.ref ca)])
  refine OGo.step (fun _ k => XS.iconst X81.here hx rfl (hb hby d_jdk_52_method_16_7) k) ?_
  show OGo p e below _ T81 (mkF m 8 #[.val (.ref ca), .val (.int (0 : Int32)), .val (.int (Int32.ofNat cs.length)), .val (.ref b81), .unset, .unset] [(.int (0 : Int32)), (.ref b81), (.int (0 : Int32)), (.ref ca)])
  refine OGo.step (fun _ k => XS.iloadN X81.here hx rfl (hb hby d_jdk_52_method_16_8) rfl k) ?_
  show OGo p e below _ T81 (mkF m 9 #[.val (.ref ca), .val (.int (0 : Int32)), .val (.int (Int32.ofNat cs.length)), .val (.ref b81), .unset, .unset] [(.int (Int32.ofNat cs.length)), (.int (0 : Int32)), (.ref b81), (.int (0 : Int32)), (.ref ca)])
  obtain ⟨v82, T82, L82, X82, hQ82, st82⟩ := scall X81 hx hZ hown (hw _ (List.mem_of_getElem? (i := 38) rfl)) (hw _ (List.mem_of_getElem? (i := 39) rfl)) (hw _ (List.mem_of_getElem? (i := 36) rfl)) (hw _ (List.mem_of_getElem? (i := 40) rfl)) (by decide) (W := 0) (rm_cmp5 l Z a0 hw [] ca b81 kc k81 cs zc wf n0 h81 SS' (O.ext E81) (Vc.ext E81) V81 hp hbl (Nat.ne_of_lt (Nat.lt_of_lt_of_le Vc.lt sz_b81)) (Nat.le_trans Z0 sz_b81)) e81 (by decide) (by decide) (by decide) (by decide) (g := (mkF m 9 #[.val (.ref ca), .val (.int (0 : Int32)), .val (.int (Int32.ofNat cs.length)), .val (.ref b81), .unset, .unset] [(.int (Int32.ofNat cs.length)), (.int (0 : Int32)), (.ref b81), (.int (0 : Int32)), (.ref ca)])) rfl (by rw [hml]; rfl) (argsL := [(.ref ca), (.int (0 : Int32)), (.ref b81), (.int (0 : Int32)), (.int (Int32.ofNat cs.length))]) (rest := []) opd_17 rfl rfl rfl (by show 2 * 0 + _ ≤ _; exact Nat.le_of_eq rfl) (hb hby d_jdk_52_method_16_9)
  obtain ⟨rfl, N82, K82, V82⟩ := hQ82
  have NN82 := Fr.app N0 N82
  have KK82 : Keep h0 T82.heap [] := KK81.trans K82 (allS (Or.inr sz_b81) all0)
  refine OGo.step st82 ?_
  show OGo p e below _ T82 (mkF m 12 #[.val (.ref ca), .val (.int (0 : Int32)), .val (.int (Int32.ofNat cs.length)), .val (.ref b81), .unset, .unset] [(.int (Int32.ofNat cs.length))])
  refine OGo.step (fun _ k => XS.istore X82.here hx rfl (hb hby d_jdk_52_method_16_12) rfl (l' := #[.val (.ref ca), .val (.int (0 : Int32)), .val (.int (Int32.ofNat cs.length)), .val (.ref b81), .val (.int (Int32.ofNat cs.length)), .unset]) rfl k) ?_
  show OGo p e below _ T82 (mkF m 14 #[.val (.ref ca), .val (.int (0 : Int32)), .val (.int (Int32.ofNat cs.length)), .val (.ref b81), .val (.int (Int32.ofNat cs.length)), .unset] [])
  refine OGo.step (fun _ k => XS.iload X82.here hx rfl (hb hby d_jdk_52_method_16_14) rfl k) ?_
  show OGo p e below _ T82 (mkF m 16 #[.val (.ref ca), .val (.int (0 : Int32)), .val (.int (Int32.ofNat cs.length)), .val (.ref b81), .val (.int (Int32.ofNat cs.length)), .unset] [(.int (Int32.ofNat cs.length))])
  refine OGo.step (fun _ k => XS.iloadN X82.here hx rfl (hb hby d_jdk_52_method_16_16) rfl k) ?_
  show OGo p e below _ T82 (mkF m 17 #[.val (.ref ca), .val (.int (0 : Int32)), .val (.int (Int32.ofNat cs.length)), .val (.ref b81), .val (.int (Int32.ofNat cs.length)), .unset] [(.int (Int32.ofNat cs.length)), (.int (Int32.ofNat cs.length))])
  refine OGo.step (fun _ k => XS.icmpYes X82.here hx rfl (pc0 := 17) (pc' := 57) rfl (hb hby d_jdk_52_method_16_17) rfl (teq (rfl : (Int32.ofNat cs.length) = (Int32.ofNat cs.length))).1 (by decide) (by decide) k) ?_
  show OGo p e below _ T82 (mkF m 57 #[.val (.ref ca), .val (.int (0 : Int32)), .val (.int (Int32.ofNat cs.length)), .val (.ref b81), .val (.int (Int32.ofNat cs.length)), .unset] [])
  refine OGo.step (fun _ k => XS.aloadN X82.here hx rfl (hb hby d_jdk_52_method_16_57) rfl rfl k) ?_
  show OGo p e below _ T82 (mkF m 58 #[.val (.ref ca), .val (.int (0 : Int32)), .val (.int (Int32.ofNat cs.length)), .val (.ref b81), .val (.int (Int32.ofNat cs.length)), .unset] [(.ref b81)])
  exact OGo.ret X82 hx (t := (.array .byte)) hret hlk rfl (Or.inr (Or.inr (Or.inr (Or.inr ⟨rfl, rfl, rfl⟩)))) (hb hby d_jdk_52_method_16_58) (by decide) (by decide) ⟨b81, _, rfl, sz_b81, NN82, KK82, V82⟩
theorem d_jdk_52_method_15_0 : decode jdk_52_method_15_code 0 = .ok (.iload_n 1, 1) := by decide +kernel
theorem d_jdk_52_method_15_1 : decode jdk_52_method_15_code 1 = .ok (.aload_n 0, 1) := by decide +kernel
theorem d_jdk_52_method_15_2 : decode jdk_52_method_15_code 2 = .ok (.arraylength, 1) := by decide +kernel
theorem d_jdk_52_method_15_3 : decode jdk_52_method_15_code 3 = .ok (.isub, 1) := by decide +kernel
theorem d_jdk_52_method_15_4 : decode jdk_52_method_15_code 4 = .ok (.bipush 31, 2) := by decide +kernel
theorem d_jdk_52_method_15_6 : decode jdk_52_method_15_code 6 = .ok (.iushr, 1) := by decide +kernel
theorem d_jdk_52_method_15_7 : decode jdk_52_method_15_code 7 = .ok (.i2b, 1) := by decide +kernel
theorem d_jdk_52_method_15_8 : decode jdk_52_method_15_code 8 = .ok (.ireturn, 1) := by decide +kernel
theorem opl_rm_cfal : plainFor (⟨"java/lang/StringUTF16", "coderFromArrayLen", "([BI)B"⟩ : MethodName) = true := plainFor_of_name (by first | (simp [plainName, overriddenIn]; done) | decide +kernel)
set_option maxRecDepth 65536 in
set_option maxHeartbeats 40000000 in
theorem rm_cfal (l : Launch) (Z : State) (a0 : Array Value) (hw : ∀ d ∈ tables_1, d.before a0 Z = true) (ws : List Jvm.Cond) (d : Addr) (k : ClassId) (z : Int32) (us : List Value) (h0 : Heap) (V : Arv Z h0 d k .byte z us (.int (0 : Int32))) :
    Con l Z (⟨"java/lang/StringUTF16", "coderFromArrayLen", "([BI)B"⟩ : MethodName) jdk_52_method_15_code 2 (some .byte) ws ({ frames := 0, cells := 0, slots := 0, locals := 0 } : Room) #[(.ref d), (.int z)] h0 (fun v h L => v = some (.int (0 : Int32)) ∧ L = [] ∧ h = h0) := by
  refine Con.intro opl_rm_cfal ?_
  intro p e s m below meth c s₁ hx hby hml hown hret hlk hZ hnm X0 e0
  refine OGo.cast (g' := (mkF m 0 #[.val (.ref d), .val (.int z)] [])) (by first | (simp [entryFrame, mkF, argsToLocals, Value.category]; done) | rfl) ?_
  show OGo p e below _ s₁ (mkF m 0 #[.val (.ref d), .val (.int z)] [])
  refine OGo.step (fun _ k => XS.iloadN X0.here hx rfl (hb hby d_jdk_52_method_15_0) rfl k) ?_
  show OGo p e below _ s₁ (mkF m 1 #[.val (.ref d), .val (.int z)] [(.int z)])
  refine OGo.step (fun _ k => XS.aloadN X0.here hx rfl (hb hby d_jdk_52_method_15_1) rfl rfl k) ?_
  show OGo p e below _ s₁ (mkF m 2 #[.val (.ref d), .val (.int z)] [(.ref d), (.int z)])
  refine OGo.step (fun _ k => alenV X0 hx hZ e0 V (g := (mkF m 2 #[.val (.ref d), .val (.int z)] [(.ref d), (.int z)])) rfl rfl (hb hby d_jdk_52_method_15_2) _ k) ?_
  show OGo p e below _ s₁ (mkF m 3 #[.val (.ref d), .val (.int z)] [(.int z), (.int z)])
  refine OGo.step (fun _ k => XS.isub X0.here hx rfl (hb hby d_jdk_52_method_15_3) rfl k) ?_
  show OGo p e below _ s₁ (mkF m 4 #[.val (.ref d), .val (.int z)] [(.int (z - z))])
  refine OGo.step (fun _ k => XS.bipush X0.here hx rfl (hb hby d_jdk_52_method_15_4) k) ?_
  show OGo p e below _ s₁ (mkF m 6 #[.val (.ref d), .val (.int z)] [(.int (31 : Int32)), (.int (z - z))])
  refine OGo.step (fun _ k => XS.iushr X0.here hx rfl (hb hby d_jdk_52_method_15_6) rfl k) ?_
  show OGo p e below _ s₁ (mkF m 7 #[.val (.ref d), .val (.int z)] [(.int (((z - z).toUInt32 >>> ((31 : Int32) &&& 31).toUInt32).toInt32))])
  refine OGo.step (fun _ k => XS.i2b X0.here hx rfl (hb hby d_jdk_52_method_15_7) rfl k) ?_
  show OGo p e below _ s₁ (mkF m 8 #[.val (.ref d), .val (.int z)] [(.int ((((z - z).toUInt32 >>> ((31 : Int32) &&& 31).toUInt32).toInt32).toInt8.toInt32))])
  rw [own_cfal]
  show OGo p e below _ s₁ (mkF m 8 #[.val (.ref d), .val (.int z)] [(.int (0 : Int32))])
  exact OGo.ret X0 hx (t := .byte) hret hlk rfl (Or.inl ⟨rfl, by simp, _, rfl⟩) (hb hby d_jdk_52_method_15_8) (by decide) (by decide) ⟨rfl, rfl, e0⟩
theorem d_jdk_42_method_149_0 : decode jdk_42_method_149_code 0 = .ok (.aload_n 0, 1) := by decide +kernel
theorem d_jdk_42_method_149_1 : decode jdk_42_method_149_code 1 = .ok (.invokespecial 1, 3) := by decide +kernel
theorem d_jdk_42_method_149_4 : decode jdk_42_method_149_code 4 = .ok (.iload_n 3, 1) := by decide +kernel
theorem d_jdk_42_method_149_5 : decode jdk_42_method_149_code 5 = .ok (.ifCond .ne 22, 3) := by decide +kernel
theorem d_jdk_42_method_149_27 : decode jdk_42_method_149_code 27 = .ok (.getstatic 38, 3) := by decide +kernel
theorem d_jdk_42_method_149_30 : decode jdk_42_method_149_code 30 = .ok (.ifCond .eq 28, 3) := by decide +kernel
theorem d_jdk_42_method_149_33 : decode jdk_42_method_149_code 33 = .ok (.aload_n 1, 1) := by decide +kernel
theorem d_jdk_42_method_149_34 : decode jdk_42_method_149_code 34 = .ok (.iload_n 2, 1) := by decide +kernel
theorem d_jdk_42_method_149_35 : decode jdk_42_method_149_code 35 = .ok (.iload_n 3, 1) := by decide +kernel
theorem opd_18 : parseMethodDescriptor "([CII)[B" = some ⟨[(.array .char), .int, .int], some (.array .byte)⟩ := by decide +kernel
theorem d_jdk_42_method_149_36 : decode jdk_42_method_149_code 36 = .ok (.invokestatic 177, 3) := by decide +kernel
theorem d_jdk_42_method_149_39 : decode jdk_42_method_149_code 39 = .ok (.astore 5, 2) := by decide +kernel
theorem d_jdk_42_method_149_41 : decode jdk_42_method_149_code 41 = .ok (.aload_n 0, 1) := by decide +kernel
theorem d_jdk_42_method_149_42 : decode jdk_42_method_149_code 42 = .ok (.aload 5, 2) := by decide +kernel
theorem d_jdk_42_method_149_44 : decode jdk_42_method_149_code 44 = .ok (.iload_n 3, 1) := by decide +kernel
theorem opd_19 : parseMethodDescriptor "([BI)B" = some ⟨[(.array .byte), .int], some .byte⟩ := by decide +kernel
theorem d_jdk_42_method_149_45 : decode jdk_42_method_149_code 45 = .ok (.invokestatic 47, 3) := by decide +kernel
theorem d_jdk_42_method_149_48 : decode jdk_42_method_149_code 48 = .ok (.putfield 15, 3) := by decide +kernel
theorem d_jdk_42_method_149_51 : decode jdk_42_method_149_code 51 = .ok (.aload_n 0, 1) := by decide +kernel
theorem d_jdk_42_method_149_52 : decode jdk_42_method_149_code 52 = .ok (.aload 5, 2) := by decide +kernel
theorem d_jdk_42_method_149_54 : decode jdk_42_method_149_code 54 = .ok (.putfield 9, 3) := by decide +kernel
theorem d_jdk_42_method_149_57 : decode jdk_42_method_149_code 57 = .ok (.return_, 1) := by decide +kernel
theorem opl_rm_new4 : plainFor (⟨"java/lang/String", "<init>", "([CIILjava/lang/Void;)V"⟩ : MethodName) = true := plainFor_of_name (by first | (simp [plainName, overriddenIn]; done) | decide +kernel)
set_option maxRecDepth 65536 in
set_option maxHeartbeats 40000000 in
theorem rm_new4 (l : Launch) (Z : State) (a0 : Array Value) (hw : ∀ d ∈ tables_1, d.before a0 Z = true) (ws : List Jvm.Cond) (a : Addr) (ca : Addr) (kc : ClassId) (cs : List Int32) (zc : Int32) (wf : Value) (n0 : Nat) (h0 : Heap) (SS : own_SS Z zc wf) (O : Old Z n0 h0) (Vc : Arv Z h0 ca kc .char (Int32.ofNat cs.length) (cs.map Value.int) (.int (0 : Int32))) (hp : own_ok8 cs) (hbl : cs.length < 2147483648) (hcap : cs.length ≤ 93) (E : Exa Z h0 a "java/lang/String") (Fc : Fld Z h0 a "java/lang/String" "coder" "B" (.int (0 : Int32))) (Fv : Fld Z h0 a "java/lang/String" "value" "[B" .null) (g_a : n0 ≤ a) (hne : ¬ (Int32.ofNat cs.length) = 0) (nca : ca ≠ a) :
    Con l Z (⟨"java/lang/String", "<init>", "([CIILjava/lang/Void;)V"⟩ : MethodName) jdk_42_method_149_code 6 none ws ({ frames := 2, cells := 1, slots := 93, locals := 35 } : Room) #[(.ref a), (.ref ca), (.int (0 : Int32)), (.int (Int32.ofNat cs.length)), .null] h0 (fun v h L => v = none ∧ Fr n0 L ∧ Keep h0 h [a] ∧ ∃ r k', h0.size ≤ r ∧ STI Z h a r k' (own_b8 cs)) := by
  refine Con.intro opl_rm_new4 ?_
  intro p e s m below meth c s₁ hx hby hml hown hret hlk hZ hnm X0 e0
  have SS' := SS
  obtain ⟨hzc, SC, hwf, SF⟩ := SS
  have Z0 : n0 ≤ h0.size := O.1 ▸ O.2.1
  have N0 := Fr.nil n0
  refine OGo.cast (g' := (mkF m 0 #[.val (.ref a), .val (.ref ca), .val (.int (0 : Int32)), .val (.int (Int32.ofNat cs.length)), .val .null, .unset] [])) (by first | (simp [entryFrame, mkF, argsToLocals, Value.category]; done) | rfl) ?_
  show OGo p e below _ s₁ (mkF m 0 #[.val (.ref a), .val (.ref ca), .val (.int (0 : Int32)), .val (.int (Int32.ofNat cs.length)), .val .null, .unset] [])
  refine OGo.step (fun _ k => XS.aloadN X0.here hx rfl (hb hby d_jdk_42_method_149_0) rfl rfl k) ?_
  show OGo p e below _ s₁ (mkF m 1 #[.val (.ref a), .val (.ref ca), .val (.int (0 : Int32)), .val (.int (Int32.ofNat cs.length)), .val .null, .unset] [(.ref a)])
  obtain ⟨T83, X83, e83, st83⟩ := initO X0 hx hZ hown (hw _ (List.mem_of_getElem? (i := 19) rfl)) (hw _ (List.mem_of_getElem? (i := 20) rfl)) (hw _ (List.mem_of_getElem? (i := 21) rfl)) e0 (g := (mkF m 1 #[.val (.ref a), .val (.ref ca), .val (.int (0 : Int32)), .val (.int (Int32.ofNat cs.length)), .val .null, .unset] [(.ref a)])) rfl (by rw [hml]; rfl) rfl (hb hby d_jdk_42_method_149_1) (by decide) (W := 0) (by show 2 * 0 + _ ≤ _; exact Nat.le_of_eq rfl) (by decide)
  refine OGo.step st83 ?_
  show OGo p e below _ T83 (mkF m 4 #[.val (.ref a), .val (.ref ca), .val (.int (0 : Int32)), .val (.int (Int32.ofNat cs.length)), .val .null, .unset] [])
  refine OGo.step (fun _ k => XS.iloadN X83.here hx rfl (hb hby d_jdk_42_method_149_4) rfl k) ?_
  show OGo p e below _ T83 (mkF m 5 #[.val (.ref a), .val (.ref ca), .val (.int (0 : Int32)), .val (.int (Int32.ofNat cs.length)), .val .null, .unset] [(.int (Int32.ofNat cs.length))])
  refine OGo.step (fun _ k => XS.ifYes X83.here hx rfl (pc0 := 5) (pc' := 27) rfl (hb hby d_jdk_42_method_149_5) rfl ((if0 _ _).trans (feq hne).2) (by decide) (by decide) k) ?_
  show OGo p e below _ T83 (mkF m 27 #[.val (.ref a), .val (.ref ca), .val (.int (0 : Int32)), .val (.int (Int32.ofNat cs.length)), .val .null, .unset] [])
  obtain ⟨T84, X84, e84, st84⟩ := getS2 X83 hx hZ hown (host := "") (Or.inl (hw _ (List.mem_of_getElem? (i := 4) rfl))) Via.refl e83 (SC.ext O.2) (g := (mkF m 27 #[.val (.ref a), .val (.ref ca), .val (.int (0 : Int32)), .val (.int (Int32.ofNat cs.length)), .val .null, .unset] [])) rfl (hb hby d_jdk_42_method_149_27)
  refine OGo.step st84 ?_
  show OGo p e below _ T84 (mkF m 30 #[.val (.ref a), .val (.ref ca), .val (.int (0 : Int32)), .val (.int (Int32.ofNat cs.length)), .val .null, .unset] [(.int zc)])
  refine OGo.step (fun _ k => XS.ifNo X84.here hx rfl (hb hby d_jdk_42_method_149_30) rfl ((if0 _ _).trans (feq hzc).1) k) ?_
  show OGo p e below _ T84 (mkF m 33 #[.val (.ref a), .val (.ref ca), .val (.int (0 : Int32)), .val (.int (Int32.ofNat cs.length)), .val .null, .unset] [])
  refine OGo.step (fun _ k => XS.aloadN X84.here hx rfl (hb hby d_jdk_42_method_149_33) rfl rfl k) ?_
  show OGo p e below _ T84 (mkF m 34 #[.val (.ref a), .val (.ref ca), .val (.int (0 : Int32)), .val (.int (Int32.ofNat cs.length)), .val .null, .unset] [(.ref ca)])
  refine OGo.step (fun _ k => XS.iloadN X84.here hx rfl (hb hby d_jdk_42_method_149_34) rfl k) ?_
  show OGo p e below _ T84 (mkF m 35 #[.val (.ref a), .val (.ref ca), .val (.int (0 : Int32)), .val (.int (Int32.ofNat cs.length)), .val .null, .unset] [(.int (0 : Int32)), (.ref ca)])
  refine OGo.step (fun _ k => XS.iloadN X84.here hx rfl (hb hby d_jdk_42_method_149_35) rfl k) ?_
  show OGo p e below _ T84 (mkF m 36 #[.val (.ref a), .val (.ref ca), .val (.int (0 : Int32)), .val (.int (Int32.ofNat cs.length)), .val .null, .unset] [(.int (Int32.ofNat cs.length)), (.int (0 : Int32)), (.ref ca)])
  obtain ⟨v85, T85, L85, X85, hQ85, st85⟩ := scall X84 hx hZ hown (hw _ (List.mem_of_getElem? (i := 34) rfl)) (hw _ (List.mem_of_getElem? (i := 35) rfl)) (hw _ (List.mem_of_getElem? (i := 36) rfl)) (hw _ (List.mem_of_getElem? (i := 37) rfl)) (by decide) (W := 0) (rm_cmp3 l Z a0 hw [] ca kc cs zc wf n0 h0 SS' O Vc hp hbl hcap) e84 (by decide) (by decide) (by decide) (by decide) (g := (mkF m 36 #[.val (.ref a), .val (.ref ca), .val (.int (0 : Int32)), .val (.int (Int32.ofNat cs.length)), .val .null, .unset] [(.int (Int32.ofNat cs.length)), (.int (0 : Int32)), (.ref ca)])) rfl (by rw [hml]; rfl) (argsL := [(.ref ca), (.int (0 : Int32)), (.int (Int32.ofNat cs.length))]) (rest := []) opd_18 rfl rfl rfl (by show 2 * 0 + _ ≤ _; exact Nat.le_of_eq rfl) (hb hby d_jdk_42_method_149_36)
  obtain ⟨r85, kr85, rfl, sr85, N85, K85, V85⟩ := hQ85
  have NN85 := Fr.app N0 N85
  have KK85 : Keep h0 T85.heap [a] := (Keep.refl h0 [a]).trans K85 all0
  have sz_r85 : h0.size ≤ r85 := Nat.le_trans (Keep.refl h0 [a]).1 sr85
  refine OGo.step st85 ?_
  show OGo p e below _ T85 (mkF m 39 #[.val (.ref a), .val (.ref ca), .val (.int (0 : Int32)), .val (.int (Int32.ofNat cs.length)), .val .null, .unset] [(.ref r85)])
  refine OGo.step (fun _ k => XS.astore X85.here hx rfl (hb hby d_jdk_42_method_149_39) rfl rfl (l' := #[.val (.ref a), .val (.ref ca), .val (.int (0 : Int32)), .val (.int (Int32.ofNat cs.length)), .val .null, .val (.ref r85)]) rfl k) ?_
  show OGo p e below _ T85 (mkF m 41 #[.val (.ref a), .val (.ref ca), .val (.int (0 : Int32)), .val (.int (Int32.ofNat cs.length)), .val .null, .val (.ref r85)] [])
  refine OGo.step (fun _ k => XS.aloadN X85.here hx rfl (hb hby d_jdk_42_method_149_41) rfl rfl k) ?_
  show OGo p e below _ T85 (mkF m 42 #[.val (.ref a), .val (.ref ca), .val (.int (0 : Int32)), .val (.int (Int32.ofNat cs.length)), .val .null, .val (.ref r85)] [(.ref a)])
  refine OGo.step (fun _ k => XS.aload X85.here hx rfl (hb hby d_jdk_42_method_149_42) rfl rfl k) ?_
  show OGo p e below _ T85 (mkF m 44 #[.val (.ref a), .val (.ref ca), .val (.int (0 : Int32)), .val (.int (Int32.ofNat cs.length)), .val .null, .val (.ref r85)] [(.ref r85), (.ref a)])
  refine OGo.step (fun _ k => XS.iloadN X85.here hx rfl (hb hby d_jdk_42_method_149_44) rfl k) ?_
  show OGo p e below _ T85 (mkF m 45 #[.val (.ref a), .val (.ref ca), .val (.int (0 : Int32)), .val (.int (Int32.ofNat cs.length)), .val .null, .val (.ref r85)] [(.int (Int32.ofNat cs.length)), (.ref r85), (.ref a)])
  obtain ⟨v86, T86, L86, X86, hQ86, st86⟩ := scall X85 hx hZ hown (hw _ (List.mem_of_getElem? (i := 41) rfl)) (hw _ (List.mem_of_getElem? (i := 42) rfl)) (hw _ (List.mem_of_getElem? (i := 36) rfl)) (hw _ (List.mem_of_getElem? (i := 43) rfl)) (by decide) (W := 1) (rm_cfal l Z a0 hw [] r85 kr85 (Int32.ofNat cs.length) (own_b8 cs) T85.heap V85) rfl (by decide) (by decide) (by decide) (by decide) (g := (mkF m 45 #[.val (.ref a), .val (.ref ca), .val (.int (0 : Int32)), .val (.int (Int32.ofNat cs.length)), .val .null, .val (.ref r85)] [(.int (Int32.ofNat cs.length)), (.ref r85), (.ref a)])) rfl (by rw [hml]; rfl) (argsL := [(.ref r85), (.int (Int32.ofNat cs.length))]) (rest := [(.ref a)]) opd_19 rfl rfl rfl (by show 2 * 0 + _ ≤ _; exact Nat.le_of_eq rfl) (hb hby d_jdk_42_method_149_45)
  obtain ⟨rfl, rfl, e86⟩ := hQ86
  rw [List.append_nil] at X86
  refine OGo.step st86 ?_
  show OGo p e below _ T86 (mkF m 48 #[.val (.ref a), .val (.ref ca), .val (.int (0 : Int32)), .val (.int (Int32.ofNat cs.length)), .val .null, .val (.ref r85)] [(.int (0 : Int32)), (.ref a)])
  obtain ⟨T87, h87, X87, e87, W87, st87⟩ := putFN X86 hx hZ hown (hw _ (List.mem_of_getElem? (i := 24) rfl)) Via.refl e86 (Fc.keep K85 nin0) (E.keep K85) (Or.inr ⟨(hw _ (List.mem_of_getElem? (i := 25) rfl)), rfl, hnm⟩) (hw _ (List.mem_of_getElem? (i := 10) rfl)) (ty := .byte) (v' := (.int (0 : Int32))) (by decide) rfl rfl (g := (mkF m 48 #[.val (.ref a), .val (.ref ca), .val (.int (0 : Int32)), .val (.int (Int32.ofNat cs.length)), .val .null, .val (.ref r85)] [(.int (0 : Int32)), (.ref a)])) rfl rfl (hb hby d_jdk_42_method_149_48)
  have Fw87 := (Fc.keep K85 nin0).same W87
  have N87 := Fr.snoc X87 NN85 g_a
  have KK87 : Keep h0 h87 [a] := KK85.wr W87 (Or.inl (List.mem_of_getElem? (i := 0) rfl))
  refine OGo.step st87 ?_
  show OGo p e below _ T87 (mkF m 51 #[.val (.ref a), .val (.ref ca), .val (.int (0 : Int32)), .val (.int (Int32.ofNat cs.length)), .val .null, .val (.ref r85)] [])
  refine OGo.step (fun _ k => XS.aloadN X87.here hx rfl (hb hby d_jdk_42_method_149_51) rfl rfl k) ?_
  show OGo p e below _ T87 (mkF m 52 #[.val (.ref a), .val (.ref ca), .val (.int (0 : Int32)), .val (.int (Int32.ofNat cs.length)), .val .null, .val (.ref r85)] [(.ref a)])
  refine OGo.step (fun _ k => XS.aload X87.here hx rfl (hb hby d_jdk_42_method_149_52) rfl rfl k) ?_
  show OGo p e below _ T87 (mkF m 54 #[.val (.ref a), .val (.ref ca), .val (.int (0 : Int32)), .val (.int (Int32.ofNat cs.length)), .val .null, .val (.ref r85)] [(.ref r85), (.ref a)])
  have q89 := ((Fv.keep K85 nin0).other W87 (Or.inr (slot_ne (Or.inr (hw _ (List.mem_of_getElem? (i := 23) rfl))) (Or.inr (hw _ (List.mem_of_getElem? (i := 25) rfl))) (by decide) (t := (.array .byte)) (t' := .byte) (by decide) (by decide))))
  obtain ⟨T88, h88, X88, e88, W88, st88⟩ := putF X87 hx hZ hown (host := "") (Or.inl (hw _ (List.mem_of_getElem? (i := 22) rfl))) Via.refl e87 q89 ((E.keep K85).wr W87) (Or.inr ⟨(hw _ (List.mem_of_getElem? (i := 23) rfl)), rfl, hnm⟩) (hw _ (List.mem_of_getElem? (i := 10) rfl)) (ty := (.array .byte)) (by decide) rfl rfl (g := (mkF m 54 #[.val (.ref a), .val (.ref ca), .val (.int (0 : Int32)), .val (.int (Int32.ofNat cs.length)), .val .null, .val (.ref r85)] [(.ref r85), (.ref a)])) rfl rfl (hb hby d_jdk_42_method_149_54)
  have Fw88 := q89.same W88
  have N88 := Fr.snoc X88 N87 g_a
  have KK88 : Keep h0 h88 [a] := KK87.wr W88 (Or.inl (List.mem_of_getElem? (i := 0) rfl))
  refine OGo.step st88 ?_
  show OGo p e below _ T88 (mkF m 57 #[.val (.ref a), .val (.ref ca), .val (.int (0 : Int32)), .val (.int (Int32.ofNat cs.length)), .val .null, .val (.ref r85)] [])
  have q90 := (Fw87.other W88 (Or.inr (slot_ne (Or.inr (hw _ (List.mem_of_getElem? (i := 25) rfl))) (Or.inr (hw _ (List.mem_of_getElem? (i := 23) rfl))) (by decide) (t := .byte) (t' := (.array .byte)) (by decide) (by decide))))
  have ne91 : r85 ≠ a := (Ne.symm (Nat.ne_of_lt (Nat.lt_of_lt_of_le E.lt sz_r85)))
  exact OGo.retV X88 hx hret hlk (hb hby d_jdk_42_method_149_57) (by decide) (by decide) (by rw [e88]; exact ⟨rfl, N88, KK88, r85, _, sz_r85, ⟨(((E.keep K85).wr W87).wr W88), q90, Fw88, by rw [own_b8_len]; exact ((V85.other W87 ne91).other W88 ne91)⟩⟩)
theorem d_jdk_42_method_3_0 : decode jdk_42_method_3_code 0 = .ok (.aload_n 0, 1) := by decide +kernel
theorem d_jdk_42_method_3_1 : decode jdk_42_method_3_code 1 = .ok (.aload_n 1, 1) := by decide +kernel
theorem d_jdk_42_method_3_2 : decode jdk_42_method_3_code 2 = .ok (.iconst 0, 1) := by decide +kernel
theorem d_jdk_42_method_3_3 : decode jdk_42_method_3_code 3 = .ok (.aload_n 1, 1) := by decide +kernel
theorem d_jdk_42_method_3_4 : decode jdk_42_method_3_code 4 = .ok (.arraylength, 1) := by decide +kernel
theorem d_jdk_42_method_3_5 : decode jdk_42_method_3_code 5 = .ok (.aconst_null, 1) := by decide +kernel
theorem opd_20 : parseMethodDescriptor "([CIILjava/lang/Void;)V" = some ⟨[(.array .char), .int, .int, (.object "java/lang/Void")], none⟩ := by decide +kernel
theorem d_jdk_42_method_3_6 : decode jdk_42_method_3_code 6 = .ok (.invokespecial 27, 3) := by decide +kernel
theorem d_jdk_42_method_3_9 : decode jdk_42_method_3_code 9 = .ok (.return_, 1) := by decide +kernel
theorem opl_rm_new1 : plainFor (⟨"java/lang/String", "<init>", "([C)V"⟩ : MethodName) = true := plainFor_of_name (by first | (simp [plainName, overriddenIn]; done) | decide +kernel)
set_option maxRecDepth 65536 in
set_option maxHeartbeats 40000000 in
theorem rm_new1 (l : Launch) (Z : State) (a0 : Array Value) (hw : ∀ d ∈ tables_1, d.before a0 Z = true) (ws : List Jvm.Cond) (a : Addr) (ca : Addr) (kc : ClassId) (cs : List Int32) (zc : Int32) (wf : Value) (n0 : Nat) (h0 : Heap) (SS : own_SS Z zc wf) (O : Old Z n0 h0) (Vc : Arv Z h0 ca kc .char (Int32.ofNat cs.length) (cs.map Value.int) (.int (0 : Int32))) (hp : own_ok8 cs) (hbl : cs.length < 2147483648) (hcap : cs.length ≤ 93) (E : Exa Z h0 a "java/lang/String") (Fc : Fld Z h0 a "java/lang/String" "coder" "B" (.int (0 : Int32))) (Fv : Fld Z h0 a "java/lang/String" "value" "[B" .null) (g_a : n0 ≤ a) (hne : ¬ (Int32.ofNat cs.length) = 0) (nca : ca ≠ a) :
    Con l Z (⟨"java/lang/String", "<init>", "([C)V"⟩ : MethodName) jdk_42_method_3_code 2 none ws ({ frames := 3, cells := 1, slots := 93, locals := 52 } : Room) #[(.ref a), (.ref ca)] h0 (fun v h L => v = none ∧ Fr n0 L ∧ Keep h0 h [a] ∧ ∃ r k', h0.size ≤ r ∧ STI Z h a r k' (own_b8 cs)) := by
  refine Con.intro opl_rm_new1 ?_
  intro p e s m below meth c s₁ hx hby hml hown hret hlk hZ hnm X0 e0
  have SS' := SS
  obtain ⟨hzc, SC, hwf, SF⟩ := SS
  have Z0 : n0 ≤ h0.size := O.1 ▸ O.2.1
  have N0 := Fr.nil n0
  refine OGo.cast (g' := (mkF m 0 #[.val (.ref a), .val (.ref ca)] [])) (by first | (simp [entryFrame, mkF, argsToLocals, Value.category]; done) | rfl) ?_
  show OGo p e below _ s₁ (mkF m 0 #[.val (.ref a), .val (.ref ca)] [])
  refine OGo.step (fun _ k => XS.aloadN X0.here hx rfl (hb hby d_jdk_42_method_3_0) rfl rfl k) ?_
  show OGo p e below _ s₁ (mkF m 1 #[.val (.ref a), .val (.ref ca)] [(.ref a)])
  refine OGo.step (fun _ k => XS.aloadN X0.here hx rfl (hb hby d_jdk_42_method_3_1) rfl rfl k) ?_
  show OGo p e below _ s₁ (mkF m 2 #[.val (.ref a), .val (.ref ca)] [(.ref ca), (.ref a)])
  refine OGo.step (fun _ k => XS.iconst X0.here hx rfl (hb hby d_jdk_42_method_3_2) k) ?_
  show OGo p e below _ s₁ (mkF m 3 #[.val (.ref a), .val (.ref ca)] [(.int (0 : Int32)), (.ref ca), (.ref a)])
  refine OGo.step (fun _ k => XS.aloadN X0.here hx rfl (hb hby d_jdk_42_method_3_3) rfl rfl k) ?_
  show OGo p e below _ s₁ (mkF m 4 #[.val (.ref a), .val (.ref ca)] [(.ref ca), (.int (0 : Int32)), (.ref ca), (.ref a)])
  refine OGo.step (fun _ k => alenV X0 hx hZ e0 Vc (g := (mkF m 4 #[.val (.ref a), .val (.ref ca)] [(.ref ca), (.int (0 : Int32)), (.ref ca), (.ref a)])) rfl rfl (hb hby d_jdk_42_method_3_4) _ k) ?_
  show OGo p e below _ s₁ (mkF m 5 #[.val (.ref a), .val (.ref ca)] [(.int (Int32.ofNat cs.length)), (.int (0 : Int32)), (.ref ca), (.ref a)])
  refine OGo.step (fun _ k => XS.aconstNull X0.here hx rfl (hb hby d_jdk_42_method_3_5) k) ?_
  show OGo p e below _ s₁ (mkF m 6 #[.val (.ref a), .val (.ref ca)] [.null, (.int (Int32.ofNat cs.length)), (.int (0 : Int32)), (.ref ca), (.ref a)])
  obtain ⟨v92, T92, L92, X92, hQ92, st92⟩ := icall X0 hx hZ rfl hown (hw _ (List.mem_of_getElem? (i := 31) rfl)) (hw _ (List.mem_of_getElem? (i := 32) rfl)) (hw _ (List.mem_of_getElem? (i := 2) rfl)) (hw _ (List.mem_of_getElem? (i := 33) rfl)) (by decide) (W := 0) (rm_new4 l Z a0 hw [] a ca kc cs zc wf n0 h0 SS' O Vc hp hbl hcap E Fc Fv g_a hne nca) e0 (by decide) (by decide) (by decide) (by decide) (g := (mkF m 6 #[.val (.ref a), .val (.ref ca)] [.null, (.int (Int32.ofNat cs.length)), (.int (0 : Int32)), (.ref ca), (.ref a)])) rfl (by rw [hml]; rfl) (a := a) (argsL := [(.ref ca), (.int (0 : Int32)), (.int (Int32.ofNat cs.length)), .null]) (rest := []) opd_20 rfl rfl rfl (by show 2 * 0 + _ ≤ _; exact Nat.le_of_eq rfl) (hb hby d_jdk_42_method_3_6)
  obtain ⟨rfl, N92, K92, r92, kr92, sr92, I92⟩ := hQ92
  have NN92 := Fr.app N0 N92
  have KK92 : Keep h0 T92.heap [a] := (Keep.refl h0 [a]).trans K92 (allS (Or.inl (List.mem_of_getElem? (i := 0) rfl)) all0)
  refine OGo.step st92 ?_
  show OGo p e below _ T92 (mkF m 9 #[.val (.ref a), .val (.ref ca)] [])
  exact OGo.retV X92 hx hret hlk (hb hby d_jdk_42_method_3_9) (by decide) (by decide) ⟨rfl, NN92, KK92, r92, _, sr92, I92⟩
theorem d_jdk_43_method_3_0 : decode jdk_43_method_3_code 0 = .ok (.iload_n 0, 1) := by decide +kernel
theorem d_jdk_43_method_3_1 : decode jdk_43_method_3_code 1 = .ok (.sipush 255, 3) := by decide +kernel
theorem d_jdk_43_method_3_4 : decode jdk_43_method_3_code 4 = .ok (.if_icmp .gt 7, 3) := by decide +kernel
theorem d_jdk_43_method_3_7 : decode jdk_43_method_3_code 7 = .ok (.iconst 1, 1) := by decide +kernel
theorem d_jdk_43_method_3_8 : decode jdk_43_method_3_code 8 = .ok (.goto 4, 3) := by decide +kernel
theorem d_jdk_43_method_3_12 : decode jdk_43_method_3_code 12 = .ok (.ireturn, 1) := by decide +kernel
theorem opl_rm_can : plainFor (⟨"java/lang/StringLatin1", "canEncode", "(C)Z"⟩ : MethodName) = true := plainFor_of_name (by first | (simp [plainName, overriddenIn]; done) | decide +kernel)
set_option maxRecDepth 65536 in
set_option maxHeartbeats 40000000 in
theorem rm_can (l : Launch) (Z : State) (a0 : Array Value) (hw : ∀ d ∈ tables_1, d.before a0 Z = true) (ws : List Jvm.Cond) (x : Int32) (h0 : Heap) (hx255 : ¬ (255 : Int32) < x) :
    Con l Z (⟨"java/lang/StringLatin1", "canEncode", "(C)Z"⟩ : MethodName) jdk_43_method_3_code 1 (some .boolean) ws ({ frames := 0, cells := 0, slots := 0, locals := 0 } : Room) #[(.int x)] h0 (fun v h L => v = some (.int (1 : Int32)) ∧ L = [] ∧ h = h0) := by
  refine Con.intro opl_rm_can ?_
  intro p e s m below meth c s₁ hx hby hml hown hret hlk hZ hnm X0 e0
  refine OGo.cast (g' := (mkF m 0 #[.val (.int x)] [])) (by first | (simp [entryFrame, mkF, argsToLocals, Value.category]; done) | rfl) ?_
  show OGo p e below _ s₁ (mkF m 0 #[.val (.int x)] [])
  refine OGo.step (fun _ k => XS.iloadN X0.here hx rfl (hb hby d_jdk_43_method_3_0) rfl k) ?_
  show OGo p e below _ s₁ (mkF m 1 #[.val (.int x)] [(.int x)])
  refine OGo.step (fun _ k => XS.sipush X0.here hx rfl (hb hby d_jdk_43_method_3_1) k) ?_
  show OGo p e below _ s₁ (mkF m 4 #[.val (.int x)] [(.int (255 : Int32)), (.int x)])
  refine OGo.step (fun _ k => XS.icmpNo X0.here hx rfl (hb hby d_jdk_43_method_3_4) rfl (flt hx255).2.2.1 k) ?_
  show OGo p e below _ s₁ (mkF m 7 #[.val (.int x)] [])
  refine OGo.step (fun _ k => XS.iconst X0.here hx rfl (hb hby d_jdk_43_method_3_7) k) ?_
  show OGo p e below _ s₁ (mkF m 8 #[.val (.int x)] [(.int (1 : Int32))])
  refine OGo.step (fun _ k => XS.goto X0.here hx rfl (pc0 := 8) (pc' := 12) rfl (hb hby d_jdk_43_method_3_8) (by decide) (by decide) k) ?_
  show OGo p e below _ s₁ (mkF m 12 #[.val (.int x)] [(.int (1 : Int32))])
  exact OGo.ret X0 hx (t := .boolean) hret hlk rfl (Or.inl ⟨rfl, by simp, _, rfl⟩) (hb hby d_jdk_43_method_3_12) (by decide) (by decide) ⟨rfl, rfl, e0⟩
theorem d_jdk_43_method_46_0 : decode jdk_43_method_46_code 0 = .ok (.iconst 1, 1) := by decide +kernel
theorem d_jdk_43_method_46_1 : decode jdk_43_method_46_code 1 = .ok (.newarray .byte, 2) := by decide +kernel
theorem d_jdk_43_method_46_3 : decode jdk_43_method_46_code 3 = .ok (.dup, 1) := by decide +kernel
theorem d_jdk_43_method_46_4 : decode jdk_43_method_46_code 4 = .ok (.iconst 0, 1) := by decide +kernel
theorem d_jdk_43_method_46_5 : decode jdk_43_method_46_code 5 = .ok (.iload_n 0, 1) := by decide +kernel
theorem d_jdk_43_method_46_6 : decode jdk_43_method_46_code 6 = .ok (.i2b, 1) := by decide +kernel
theorem d_jdk_43_method_46_7 : decode jdk_43_method_46_code 7 = .ok (.bastore, 1) := by decide +kernel
theorem d_jdk_43_method_46_8 : decode jdk_43_method_46_code 8 = .ok (.areturn, 1) := by decide +kernel
theorem opl_rm_toB : plainFor (⟨"java/lang/StringLatin1", "toBytes", "(C)[B"⟩ : MethodName) = true := plainFor_of_name (by first | (simp [plainName, overriddenIn]; done) | decide +kernel)
set_option maxRecDepth 65536 in
set_option maxHeartbeats 40000000 in
theorem rm_toB (l : Launch) (Z : State) (a0 : Array Value) (hw : ∀ d ∈ tables_1, d.before a0 Z = true) (ws : List Jvm.Cond) (x : Int32) (zc : Int32) (wf : Value) (n0 : Nat) (h0 : Heap) (SS : own_SS Z zc wf) (O : Old Z n0 h0) :
    Con l Z (⟨"java/lang/StringLatin1", "toBytes", "(C)[B"⟩ : MethodName) jdk_43_method_46_code 1 (some (.array .byte)) ws ({ frames := 0, cells := 1, slots := 1, locals := 0 } : Room) #[(.int x)] h0 (fun v h L => ∃ r k', v = some (.ref r) ∧ h0.size ≤ r ∧ Fr n0 L ∧ Keep h0 h [] ∧ Arv Z h r k' .byte (1 : Int32) (own_b8 [x]) (.int (0 : Int32))) := by
  refine Con.intro opl_rm_toB ?_
  intro p e s m below meth c s₁ hx hby hml hown hret hlk hZ hnm X0 e0
  obtain ⟨hzc, SC, hwf, SF⟩ := SS
  have Z0 : n0 ≤ h0.size := O.1 ▸ O.2.1
  have N0 := Fr.nil n0
  refine OGo.cast (g' := (mkF m 0 #[.val (.int x)] [])) (by first | (simp [entryFrame, mkF, argsToLocals, Value.category]; done) | rfl) ?_
  show OGo p e below _ s₁ (mkF m 0 #[.val (.int x)] [])
  refine OGo.step (fun _ k => XS.iconst X0.here hx rfl (hb hby d_jdk_43_method_46_0) k) ?_
  show OGo p e below _ s₁ (mkF m 1 #[.val (.int x)] [(.int (1 : Int32))])
  obtain ⟨T93, h93, k93, X93, e93, E93, A93, AE93, st93⟩ := newPE X0 hx hZ (hw _ (List.mem_of_getElem? (i := 14) rfl)) e0 (g := (mkF m 1 #[.val (.int x)] [(.int (1 : Int32))])) rfl (hb hby d_jdk_43_method_46_1) rfl (by decide) (cap := 1) (by decide) (by decide) (by decide) (by decide) (ad := "[B") (by decide)
  obtain ⟨b93, g93⟩ : ∃ z, z = h0.size := ⟨_, rfl⟩
  rw [← g93] at A93 AE93 st93
  have sz_b93 : h0.size ≤ b93 := Nat.le_trans (Keep.refl h0 []).1 (Nat.le_of_eq g93.symm)
  have KK93 : Keep h0 h93 [] := (Keep.refl h0 []).ext E93
  have V93 : Arv Z h93 b93 k93 .byte (1 : Int32) [(.int (0 : Int32))] (.int (0 : Int32)) := (Arv.new A93 (by decide)).pad (pad_rep [] (.int (0 : Int32)) 1)
  refine OGo.step st93 ?_
  show OGo p e below _ T93 (mkF m 3 #[.val (.int x)] [(.ref b93)])
  refine OGo.step (fun _ k => XS.dup X93.here hx rfl (hb hby d_jdk_43_method_46_3) rfl rfl k) ?_
  show OGo p e below _ T93 (mkF m 4 #[.val (.int x)] [(.ref b93), (.ref b93)])
  refine OGo.step (fun _ k => XS.iconst X93.here hx rfl (hb hby d_jdk_43_method_46_4) k) ?_
  show OGo p e below _ T93 (mkF m 5 #[.val (.int x)] [(.int (0 : Int32)), (.ref b93), (.ref b93)])
  refine OGo.step (fun _ k => XS.iloadN X93.here hx rfl (hb hby d_jdk_43_method_46_5) rfl k) ?_
  show OGo p e below _ T93 (mkF m 6 #[.val (.int x)] [(.int x), (.int (0 : Int32)), (.ref b93), (.ref b93)])
  refine OGo.step (fun _ k => XS.i2b X93.here hx rfl (hb hby d_jdk_43_method_46_6) rfl k) ?_
  show OGo p e below _ T93 (mkF m 7 #[.val (.int x)] [(.int (x.toInt8.toInt32)), (.int (0 : Int32)), (.ref b93), (.ref b93)])
  obtain ⟨T94, h94, X94, e94, W94, Vq94, st94⟩ := bastoreV X93 hx hZ e93 V93 (j := (0 : Int32)) ⟨by decide, by decide⟩ (by decide) (g := (mkF m 7 #[.val (.int x)] [(.int (x.toInt8.toInt32)), (.int (0 : Int32)), (.ref b93), (.ref b93)])) rfl rfl (hb hby d_jdk_43_method_46_7)
  have N94 := Fr.snoc X94 N0 (Nat.le_trans Z0 sz_b93)
  have KK94 : Keep h0 h94 [] := KK93.wr W94 (Or.inr sz_b93)
  refine OGo.step st94 ?_
  show OGo p e below _ T94 (mkF m 8 #[.val (.int x)] [(.ref b93)])
  have V94 : Arv Z h94 b93 k93 .byte (1 : Int32) (own_b8 [x]) (.int (0 : Int32)) := by have q := Vq94; rw [own_i8i8] at q; exact q
  exact OGo.ret X94 hx (t := (.array .byte)) hret hlk rfl (Or.inr (Or.inr (Or.inr (Or.inr ⟨rfl, rfl, rfl⟩)))) (hb hby d_jdk_43_method_46_8) (by decide) (by decide) (by rw [e94]; exact ⟨b93, _, rfl, sz_b93, N94, KK94, V94⟩)
theorem d_jdk_42_method_151_0 : decode jdk_42_method_151_code 0 = .ok (.aload_n 0, 1) := by decide +kernel
theorem d_jdk_42_method_151_1 : decode jdk_42_method_151_code 1 = .ok (.invokespecial 1, 3) := by decide +kernel
theorem d_jdk_42_method_151_4 : decode jdk_42_method_151_code 4 = .ok (.aload_n 0, 1) := by decide +kernel
theorem d_jdk_42_method_151_5 : decode jdk_42_method_151_code 5 = .ok (.aload_n 1, 1) := by decide +kernel
theorem d_jdk_42_method_151_6 : decode jdk_42_method_151_code 6 = .ok (.putfield 9, 3) := by decide +kernel
theorem d_jdk_42_method_151_9 : decode jdk_42_method_151_code 9 = .ok (.aload_n 0, 1) := by decide +kernel
theorem d_jdk_42_method_151_10 : decode jdk_42_method_151_code 10 = .ok (.iload_n 2, 1) := by decide +kernel
theorem d_jdk_42_method_151_11 : decode jdk_42_method_151_code 11 = .ok (.putfield 15, 3) := by decide +kernel
theorem d_jdk_42_method_151_14 : decode jdk_42_method_151_code 14 = .ok (.return_, 1) := by decide +kernel
theorem opl_rm_sbb : plainFor (⟨"java/lang/String", "<init>", "([BB)V"⟩ : MethodName) = true := plainFor_of_name (by first | (simp [plainName, overriddenIn]; done) | decide +kernel)
set_option maxRecDepth 65536 in
set_option maxHeartbeats 40000000 in
theorem rm_sbb (l : Launch) (Z : State) (a0 : Array Value) (hw : ∀ d ∈ tables_1, d.before a0 Z = true) (ws : List Jvm.Cond) (a d : Addr) (k : ClassId) (us : List Value) (zc : Int32) (wf : Value) (n0 : Nat) (h0 : Heap) (SS : own_SS Z zc wf) (O : Old Z n0 h0) (V : Arv Z h0 d k .byte (Int32.ofNat us.length) us (.int (0 : Int32))) (E : Exa Z h0 a "java/lang/String") (Fc : Fld Z h0 a "java/lang/String" "coder" "B" (.int (0 : Int32))) (Fv : Fld Z h0 a "java/lang/String" "value" "[B" .null) (g_a : n0 ≤ a) (nda : d ≠ a) :
    Con l Z (⟨"java/lang/String", "<init>", "([BB)V"⟩ : MethodName) jdk_42_method_151_code 3 none ws ({ frames := 1, cells := 0, slots := 0, locals := 12 } : Room) #[(.ref a), (.ref d), (.int (0 : Int32))] h0 (fun v h L => v = none ∧ Fr n0 L ∧ Keep h0 h [a] ∧ STI Z h a d k us) := by
  refine Con.intro opl_rm_sbb ?_
  intro p e s m below meth c s₁ hx hby hml hown hret hlk hZ hnm X0 e0
  obtain ⟨hzc, SC, hwf, SF⟩ := SS
  have Z0 : n0 ≤ h0.size := O.1 ▸ O.2.1
  have N0 := Fr.nil n0
  refine OGo.cast (g' := (mkF m 0 #[.val (.ref a), .val (.ref d), .val (.int (0 : Int32))] [])) (by first | (simp [entryFrame, mkF, argsToLocals, Value.category]; done) | rfl) ?_
  show OGo p e below _ s₁ (mkF m 0 #[.val (.ref a), .val (.ref d), .val (.int (0 : Int32))] [])
  refine OGo.step (fun _ k => XS.aloadN X0.here hx rfl (hb hby d_jdk_42_method_151_0) rfl rfl k) ?_
  show OGo p e below _ s₁ (mkF m 1 #[.val (.ref a), .val (.ref d), .val (.int (0 : Int32))] [(.ref a)])
  obtain ⟨T95, X95, e95, st95⟩ := initO X0 hx hZ hown (hw _ (List.mem_of_getElem? (i := 19) rfl)) (hw _ (List.mem_of_getElem? (i := 20) rfl)) (hw _ (List.mem_of_getElem? (i := 21) rfl)) e0 (g := (mkF m 1 #[.val (.ref a), .val (.ref d), .val (.int (0 : Int32))] [(.ref a)])) rfl (by rw [hml]; rfl) rfl (hb hby d_jdk_42_method_151_1) (by decide) (W := 0) (by show 2 * 0 + _ ≤ _; exact Nat.le_of_eq rfl) (by decide)
  refine OGo.step st95 ?_
  show OGo p e below _ T95 (mkF m 4 #[.val (.ref a), .val (.ref d), .val (.int (0 : Int32))] [])
  refine OGo.step (fun _ k => XS.aloadN X95.here hx rfl (hb hby d_jdk_42_method_151_4) rfl rfl k) ?_
  show OGo p e below _ T95 (mkF m 5 #[.val (.ref a), .val (.ref d), .val (.int (0 : Int32))] [(.ref a)])
  refine OGo.step (fun _ k => XS.aloadN X95.here hx rfl (hb hby d_jdk_42_method_151_5) rfl rfl k) ?_
  show OGo p e below _ T95 (mkF m 6 #[.val (.ref a), .val (.ref d), .val (.int (0 : Int32))] [(.ref d), (.ref a)])
  obtain ⟨T96, h96, X96, e96, W96, st96⟩ := putF X95 hx hZ hown (host := "") (Or.inl (hw _ (List.mem_of_getElem? (i := 22) rfl))) Via.refl e95 Fv E (Or.inr ⟨(hw _ (List.mem_of_getElem? (i := 23) rfl)), rfl, hnm⟩) (hw _ (List.mem_of_getElem? (i := 10) rfl)) (ty := (.array .byte)) (by decide) rfl rfl (g := (mkF m 6 #[.val (.ref a), .val (.ref d), .val (.int (0 : Int32))] [(.ref d), (.ref a)])) rfl rfl (hb hby d_jdk_42_method_151_6)
  have Fw96 := Fv.same W96
  have N96 := Fr.snoc X96 N0 g_a
  have KK96 : Keep h0 h96 [a] := (Keep.refl h0 [a]).wr W96 (Or.inl (List.mem_of_getElem? (i := 0) rfl))
  refine OGo.step st96 ?_
  show OGo p e below _ T96 (mkF m 9 #[.val (.ref a), .val (.ref d), .val (.int (0 : Int32))] [])
  refine OGo.step (fun _ k => XS.aloadN X96.here hx rfl (hb hby d_jdk_42_method_151_9) rfl rfl k) ?_
  show OGo p e below _ T96 (mkF m 10 #[.val (.ref a), .val (.ref d), .val (.int (0 : Int32))] [(.ref a)])
  refine OGo.step (fun _ k => XS.iloadN X96.here hx rfl (hb hby d_jdk_42_method_151_10) rfl k) ?_
  show OGo p e below _ T96 (mkF m 11 #[.val (.ref a), .val (.ref d), .val (.int (0 : Int32))] [(.int (0 : Int32)), (.ref a)])
  have q98 := (Fc.other W96 (Or.inr (slot_ne (Or.inr (hw _ (List.mem_of_getElem? (i := 25) rfl))) (Or.inr (hw _ (List.mem_of_getElem? (i := 23) rfl))) (by decide) (t := .byte) (t' := (.array .byte)) (by decide) (by decide))))
  obtain ⟨T97, h97, X97, e97, W97, st97⟩ := putFN X96 hx hZ hown (hw _ (List.mem_of_getElem? (i := 24) rfl)) Via.refl e96 q98 (E.wr W96) (Or.inr ⟨(hw _ (List.mem_of_getElem? (i := 25) rfl)), rfl, hnm⟩) (hw _ (List.mem_of_getElem? (i := 10) rfl)) (ty := .byte) (v' := (.int (0 : Int32))) (by decide) rfl rfl (g := (mkF m 11 #[.val (.ref a), .val (.ref d), .val (.int (0 : Int32))] [(.int (0 : Int32)), (.ref a)])) rfl rfl (hb hby d_jdk_42_method_151_11)
  have Fw97 := q98.same W97
  have N97 := Fr.snoc X97 N96 g_a
  have KK97 : Keep h0 h97 [a] := KK96.wr W97 (Or.inl (List.mem_of_getElem? (i := 0) rfl))
  refine OGo.step st97 ?_
  show OGo p e below _ T97 (mkF m 14 #[.val (.ref a), .val (.ref d), .val (.int (0 : Int32))] [])
  have q99 := (Fw96.other W97 (Or.inr (slot_ne (Or.inr (hw _ (List.mem_of_getElem? (i := 23) rfl))) (Or.inr (hw _ (List.mem_of_getElem? (i := 25) rfl))) (by decide) (t := (.array .byte)) (t' := .byte) (by decide) (by decide))))
  exact OGo.retV X97 hx hret hlk (hb hby d_jdk_42_method_151_14) (by decide) (by decide) (by rw [e97]; exact ⟨rfl, N97, KK97, ⟨((E.wr W96).wr W97), Fw97, q99, ((V.other W96 nda).other W97 nda)⟩⟩)
theorem d_jdk_42_method_139_0 : decode jdk_42_method_139_code 0 = .ok (.getstatic 38, 3) := by decide +kernel
theorem d_jdk_42_method_139_3 : decode jdk_42_method_139_code 3 = .ok (.ifCond .eq 23, 3) := by decide +kernel
theorem d_jdk_42_method_139_6 : decode jdk_42_method_139_code 6 = .ok (.iload_n 0, 1) := by decide +kernel
theorem opd_21 : parseMethodDescriptor "(C)Z" = some ⟨[.char], some .boolean⟩ := by decide +kernel
theorem d_jdk_42_method_139_7 : decode jdk_42_method_139_code 7 = .ok (.invokestatic 1015, 3) := by decide +kernel
theorem d_jdk_42_method_139_10 : decode jdk_42_method_139_code 10 = .ok (.ifCond .eq 16, 3) := by decide +kernel
theorem d_jdk_42_method_139_13 : decode jdk_42_method_139_code 13 = .ok (.new 10, 3) := by decide +kernel
theorem d_jdk_42_method_139_16 : decode jdk_42_method_139_code 16 = .ok (.dup, 1) := by decide +kernel
theorem d_jdk_42_method_139_17 : decode jdk_42_method_139_code 17 = .ok (.iload_n 0, 1) := by decide +kernel
theorem opd_22 : parseMethodDescriptor "(C)[B" = some ⟨[.char], some (.array .byte)⟩ := by decide +kernel
theorem d_jdk_42_method_139_18 : decode jdk_42_method_139_code 18 = .ok (.invokestatic 1018, 3) := by decide +kernel
theorem d_jdk_42_method_139_21 : decode jdk_42_method_139_code 21 = .ok (.iconst 0, 1) := by decide +kernel
theorem opd_23 : parseMethodDescriptor "([BB)V" = some ⟨[(.array .byte), .byte], none⟩ := by decide +kernel
theorem d_jdk_42_method_139_22 : decode jdk_42_method_139_code 22 = .ok (.invokespecial 209, 3) := by decide +kernel
theorem d_jdk_42_method_139_25 : decode jdk_42_method_139_code 25 = .ok (.areturn, 1) := by decide +kernel
theorem opl_rm_valueOf : plainFor (⟨"java/lang/String", "valueOf", "(C)Ljava/lang/String;"⟩ : MethodName) = true := plainFor_of_name (by first | (simp [plainName, overriddenIn]; done) | decide +kernel)
set_option maxRecDepth 65536 in
set_option maxHeartbeats 40000000 in
theorem rm_valueOf (l : Launch) (Z : State) (a0 : Array Value) (hw : ∀ d ∈ tables_1, d.before a0 Z = true) (ws : List Jvm.Cond) (x : Int32) (zc : Int32) (wf : Value) (n0 : Nat) (h0 : Heap) (SS : own_SS Z zc wf) (O : Old Z n0 h0) (hx255 : ¬ (255 : Int32) < x) :
    Con l Z (⟨"java/lang/String", "valueOf", "(C)Ljava/lang/String;"⟩ : MethodName) jdk_42_method_139_code 1 (some (.object "java/lang/String")) ws ({ frames := 2, cells := 2, slots := 5, locals := 27 } : Room) #[(.int x)] h0 (fun v h L => ∃ a r k', v = some (.ref a) ∧ h0.size ≤ a ∧ h0.size ≤ r ∧ Fr n0 L ∧ Keep h0 h [] ∧ STI Z h a r k' (own_b8 [x])) := by
  refine Con.intro opl_rm_valueOf ?_
  intro p e s m below meth c s₁ hx hby hml hown hret hlk hZ hnm X0 e0
  have SS' := SS
  obtain ⟨hzc, SC, hwf, SF⟩ := SS
  have Z0 : n0 ≤ h0.size := O.1 ▸ O.2.1
  have N0 := Fr.nil n0
  refine OGo.cast (g' := (mkF m 0 #[.val (.int x)] [])) (by first | (simp [entryFrame, mkF, argsToLocals, Value.category]; done) | rfl) ?_
  show OGo p e below _ s₁ (mkF m 0 #[.val (.int x)] [])
  obtain ⟨T100, X100, e100, st100⟩ := getS2 X0 hx hZ hown (host := "") (Or.inl (hw _ (List.mem_of_getElem? (i := 4) rfl))) Via.refl e0 (SC.ext O.2) (g := (mkF m 0 #[.val (.int x)] [])) rfl (hb hby d_jdk_42_method_139_0)
  refine OGo.step st100 ?_
  show OGo p e below _ T100 (mkF m 3 #[.val (.int x)] [(.int zc)])
  refine OGo.step (fun _ k => XS.ifNo X100.here hx rfl (hb hby d_jdk_42_method_139_3) rfl ((if0 _ _).trans (feq hzc).1) k) ?_
  show OGo p e below _ T100 (mkF m 6 #[.val (.int x)] [])
  refine OGo.step (fun _ k => XS.iloadN X100.here hx rfl (hb hby d_jdk_42_method_139_6) rfl k) ?_
  show OGo p e below _ T100 (mkF m 7 #[.val (.int x)] [(.int x)])
  obtain ⟨v101, T101, L101, X101, hQ101, st101⟩ := scall X100 hx hZ hown (hw _ (List.mem_of_getElem? (i := 5) rfl)) (hw _ (List.mem_of_getElem? (i := 6) rfl)) (hw _ (List.mem_of_getElem? (i := 7) rfl)) (hw _ (List.mem_of_getElem? (i := 8) rfl)) (by decide) (W := 0) (rm_can l Z a0 hw [] x h0 hx255) e100 (by decide) (by decide) (by decide) (by decide) (g := (mkF m 7 #[.val (.int x)] [(.int x)])) rfl (by rw [hml]; rfl) (argsL := [(.int x)]) (rest := []) opd_21 rfl rfl rfl (by show 2 * 0 + _ ≤ _; exact Nat.le_of_eq rfl) (hb hby d_jdk_42_method_139_7)
  obtain ⟨rfl, rfl, e101⟩ := hQ101
  rw [List.append_nil] at X101
  refine OGo.step st101 ?_
  show OGo p e below _ T101 (mkF m 10 #[.val (.int x)] [(.int (1 : Int32))])
  refine OGo.step (fun _ k => XS.ifNo X101.here hx rfl (hb hby d_jdk_42_method_139_10) rfl ((if0 _ _).trans (feq (by decide : ¬ (1 : Int32) = 0)).1) k) ?_
  show OGo p e below _ T101 (mkF m 13 #[.val (.int x)] [])
  obtain ⟨T102, h102, X102, e102, E102, A102, D102, UN102, st102⟩ := newO X101 hx hZ hown (hw _ (List.mem_of_getElem? (i := 9) rfl)) (hw _ (List.mem_of_getElem? (i := 10) rfl)) (hw _ (List.mem_of_getElem? (i := 2) rfl)) e101 (g := (mkF m 13 #[.val (.int x)] [])) rfl (hb hby d_jdk_42_method_139_13) (by decide) (by decide)
  obtain ⟨b102, g102⟩ : ∃ z, z = h0.size := ⟨_, rfl⟩
  rw [← g102] at A102 D102 UN102 st102
  have sz_b102 : h0.size ≤ b102 := Nat.le_trans (Keep.refl h0 []).1 (Nat.le_of_eq g102.symm)
  have KK102 : Keep h0 h102 [] := (Keep.refl h0 []).ext E102
  have F102_value : Fld Z h102 b102 "java/lang/String" "value" "[B" .null := D102 (Or.inr (hw _ (List.mem_of_getElem? (i := 23) rfl))) (ty := (.array .byte)) (by decide)
  have F102_coder : Fld Z h102 b102 "java/lang/String" "coder" "B" (.int (0 : Int32)) := D102 (Or.inr (hw _ (List.mem_of_getElem? (i := 25) rfl))) (ty := .byte) (by decide)
  refine OGo.step st102 ?_
  show OGo p e below _ T102 (mkF m 16 #[.val (.int x)] [(.ref b102)])
  refine OGo.step (fun _ k => XS.dup X102.here hx rfl (hb hby d_jdk_42_method_139_16) rfl rfl k) ?_
  show OGo p e below _ T102 (mkF m 17 #[.val (.int x)] [(.ref b102), (.ref b102)])
  refine OGo.step (fun _ k => XS.iloadN X102.here hx rfl (hb hby d_jdk_42_method_139_17) rfl k) ?_
  show OGo p e below _ T102 (mkF m 18 #[.val (.int x)] [(.int x), (.ref b102), (.ref b102)])
  obtain ⟨v103, T103, L103, X103, hQ103, st103⟩ := scall X102 hx hZ hown (hw _ (List.mem_of_getElem? (i := 11) rfl)) (hw _ (List.mem_of_getElem? (i := 12) rfl)) (hw _ (List.mem_of_getElem? (i := 7) rfl)) (hw _ (List.mem_of_getElem? (i := 13) rfl)) (by decide) (W := 2) (rm_toB l Z a0 hw [] x zc wf n0 h102 SS' (O.ext E102)) e102 (by decide) (by decide) (by decide) (by decide) (g := (mkF m 18 #[.val (.int x)] [(.int x), (.ref b102), (.ref b102)])) rfl (by rw [hml]; rfl) (argsL := [(.int x)]) (rest := [(.ref b102), (.ref b102)]) opd_22 rfl rfl rfl (by show 2 * 0 + _ ≤ _; exact Nat.le_of_eq rfl) (hb hby d_jdk_42_method_139_18)
  obtain ⟨r103, kr103, rfl, sr103, N103, K103, V103⟩ := hQ103
  have NN103 := Fr.app N0 N103
  have KK103 : Keep h0 T103.heap [] := KK102.trans K103 all0
  have sz_r103 : h0.size ≤ r103 := Nat.le_trans KK102.1 sr103
  refine OGo.step st103 ?_
  show OGo p e below _ T103 (mkF m 21 #[.val (.int x)] [(.ref r103), (.ref b102), (.ref b102)])
  refine OGo.step (fun _ k => XS.iconst X103.here hx rfl (hb hby d_jdk_42_method_139_21) k) ?_
  show OGo p e below _ T103 (mkF m 22 #[.val (.int x)] [(.int (0 : Int32)), (.ref r103), (.ref b102), (.ref b102)])
  have ne104 : r103 ≠ b102 := (Ne.symm (Nat.ne_of_lt (Nat.lt_of_lt_of_le F102_value.lt sr103)))
  obtain ⟨v105, T105, L105, X105, hQ105, st105⟩ := icall X103 hx hZ rfl hown (hw _ (List.mem_of_getElem? (i := 15) rfl)) (hw _ (List.mem_of_getElem? (i := 16) rfl)) (hw _ (List.mem_of_getElem? (i := 2) rfl)) (hw _ (List.mem_of_getElem? (i := 18) rfl)) (by decide) (W := 1) (rm_sbb l Z a0 hw [] b102 r103 kr103 (own_b8 [x]) zc wf n0 T103.heap SS' ((O.ext E102).keep K103 all0) V103 (A102.keep K103) (F102_coder.keep K103 nin0) (F102_value.keep K103 nin0) (Nat.le_trans Z0 sz_b102) ne104) rfl (by decide) (by decide) (by decide) (by decide) (g := (mkF m 22 #[.val (.int x)] [(.int (0 : Int32)), (.ref r103), (.ref b102), (.ref b102)])) rfl (by rw [hml]; rfl) (a := b102) (argsL := [(.ref r103), (.int (0 : Int32))]) (rest := [(.ref b102)]) opd_23 rfl rfl rfl (by show 2 * 0 + _ ≤ _; exact Nat.le_of_eq rfl) (hb hby d_jdk_42_method_139_22)
  obtain ⟨rfl, N105, K105, I105⟩ := hQ105
  have NN105 := Fr.app NN103 N105
  have KK105 : Keep h0 T105.heap [] := KK103.trans K105 (allS (Or.inr sz_b102) all0)
  refine OGo.step st105 ?_
  show OGo p e below _ T105 (mkF m 25 #[.val (.int x)] [(.ref b102)])
  exact OGo.ret X105 hx (t := (.object "java/lang/String")) hret hlk rfl (Or.inr (Or.inr (Or.inr (Or.inr ⟨rfl, rfl, rfl⟩)))) (hb hby d_jdk_42_method_139_25) (by decide) (by decide) ⟨b102, r103, _, rfl, sz_b102, sz_r103, NN105, KK105, I105⟩
theorem d_jdk_43_method_13_0 : decode jdk_43_method_13_code 0 = .ok (.aload_n 0, 1) := by decide +kernel
theorem d_jdk_43_method_13_1 : decode jdk_43_method_13_code 1 = .ok (.arraylength, 1) := by decide +kernel
theorem d_jdk_43_method_13_2 : decode jdk_43_method_13_code 2 = .ok (.aload_n 1, 1) := by decide +kernel
theorem d_jdk_43_method_13_3 : decode jdk_43_method_13_code 3 = .ok (.arraylength, 1) := by decide +kernel
theorem d_jdk_43_method_13_4 : decode jdk_43_method_13_code 4 = .ok (.if_icmp .ne 30, 3) := by decide +kernel
theorem d_jdk_43_method_13_34 : decode jdk_43_method_13_code 34 = .ok (.iconst 0, 1) := by decide +kernel
theorem d_jdk_43_method_13_35 : decode jdk_43_method_13_code 35 = .ok (.ireturn, 1) := by decide +kernel
theorem d_jdk_43_method_13_7 : decode jdk_43_method_13_code 7 = .ok (.iconst 0, 1) := by decide +kernel
theorem d_jdk_43_method_13_8 : decode jdk_43_method_13_code 8 = .ok (.istore_n 2, 1) := by decide +kernel
theorem d_jdk_43_method_13_9 : decode jdk_43_method_13_code 9 = .ok (.iload_n 2, 1) := by decide +kernel
theorem d_jdk_43_method_13_10 : decode jdk_43_method_13_code 10 = .ok (.aload_n 0, 1) := by decide +kernel
theorem d_jdk_43_method_13_11 : decode jdk_43_method_13_code 11 = .ok (.arraylength, 1) := by decide +kernel
theorem d_jdk_43_method_13_12 : decode jdk_43_method_13_code 12 = .ok (.if_icmp .ge 20, 3) := by decide +kernel
theorem d_jdk_43_method_13_32 : decode jdk_43_method_13_code 32 = .ok (.iconst 1, 1) := by decide +kernel
theorem d_jdk_43_method_13_33 : decode jdk_43_method_13_code 33 = .ok (.ireturn, 1) := by decide +kernel
theorem d_jdk_43_method_13_15 : decode jdk_43_method_13_code 15 = .ok (.aload_n 0, 1) := by decide +kernel
theorem d_jdk_43_method_13_16 : decode jdk_43_method_13_code 16 = .ok (.iload_n 2, 1) := by decide +kernel
theorem d_jdk_43_method_13_17 : decode jdk_43_method_13_code 17 = .ok (.baload, 1) := by decide +kernel
theorem d_jdk_43_method_13_18 : decode jdk_43_method_13_code 18 = .ok (.aload_n 1, 1) := by decide +kernel
theorem d_jdk_43_method_13_19 : decode jdk_43_method_13_code 19 = .ok (.iload_n 2, 1) := by decide +kernel
theorem d_jdk_43_method_13_20 : decode jdk_43_method_13_code 20 = .ok (.baload, 1) := by decide +kernel
theorem d_jdk_43_method_13_21 : decode jdk_43_method_13_code 21 = .ok (.if_icmp .eq 5, 3) := by decide +kernel
theorem d_jdk_43_method_13_24 : decode jdk_43_method_13_code 24 = .ok (.iconst 0, 1) := by decide +kernel
theorem d_jdk_43_method_13_25 : decode jdk_43_method_13_code 25 = .ok (.ireturn, 1) := by decide +kernel
theorem d_jdk_43_method_13_26 : decode jdk_43_method_13_code 26 = .ok (.iinc 2 1, 3) := by decide +kernel
theorem d_jdk_43_method_13_29 : decode jdk_43_method_13_code 29 = .ok (.goto (-20), 3) := by decide +kernel
theorem opl_rm_l1eq : plainFor (⟨"java/lang/StringLatin1", "equals", "([B[B)Z"⟩ : MethodName) = true := plainFor_of_name (by first | (simp [plainName, overriddenIn]; done) | decide +kernel)
set_option maxRecDepth 65536 in
set_option maxHeartbeats 40000000 in
theorem rm_l1eq (l : Launch) (Z : State) (a0 : Array Value) (hw : ∀ d ∈ tables_1, d.before a0 Z = true) (ws : List Jvm.Cond) (d1 d2 : Addr) (k1 k2 : ClassId) (us vs : List Value) (h0 : Heap) (V1 : Arv Z h0 d1 k1 .byte (Int32.ofNat us.length) us (.int (0 : Int32))) (V2 : Arv Z h0 d2 k2 .byte (Int32.ofNat vs.length) vs (.int (0 : Int32))) (hu : us.length < 2147483648) (hv : vs.length < 2147483648) :
    Con l Z (⟨"java/lang/StringLatin1", "equals", "([B[B)Z"⟩ : MethodName) jdk_43_method_13_code 3 (some .boolean) ws ({ frames := 0, cells := 0, slots := 0, locals := 0 } : Room) #[(.ref d1), (.ref d2)] h0 (fun v h L => v = some (.int (if us = vs then 1 else 0)) ∧ L = [] ∧ h = h0) := by
  refine Con.intro opl_rm_l1eq ?_
  intro p e s m below meth c s₁ hx hby hml hown hret hlk hZ hnm X0 e0
  refine OGo.cast (g' := (mkF m 0 #[.val (.ref d1), .val (.ref d2), .unset] [])) (by first | (simp [entryFrame, mkF, argsToLocals, Value.category]; done) | rfl) ?_
  show OGo p e below _ s₁ (mkF m 0 #[.val (.ref d1), .val (.ref d2), .unset] [])
  refine OGo.step (fun _ k => XS.aloadN X0.here hx rfl (hb hby d_jdk_43_method_13_0) rfl rfl k) ?_
  show OGo p e below _ s₁ (mkF m 1 #[.val (.ref d1), .val (.ref d2), .unset] [(.ref d1)])
  refine OGo.step (fun _ k => alenV X0 hx hZ e0 V1 (g := (mkF m 1 #[.val (.ref d1), .val (.ref d2), .unset] [(.ref d1)])) rfl rfl (hb hby d_jdk_43_method_13_1) _ k) ?_
  show OGo p e below _ s₁ (mkF m 2 #[.val (.ref d1), .val (.ref d2), .unset] [(.int (Int32.ofNat us.length))])
  refine OGo.step (fun _ k => XS.aloadN X0.here hx rfl (hb hby d_jdk_43_method_13_2) rfl rfl k) ?_
  show OGo p e below _ s₁ (mkF m 3 #[.val (.ref d1), .val (.ref d2), .unset] [(.ref d2), (.int (Int32.ofNat us.length))])
  refine OGo.step (fun _ k => alenV X0 hx hZ e0 V2 (g := (mkF m 3 #[.val (.ref d1), .val (.ref d2), .unset] [(.ref d2), (.int (Int32.ofNat us.length))])) rfl rfl (hb hby d_jdk_43_method_13_3) _ k) ?_
  show OGo p e below _ s₁ (mkF m 4 #[.val (.ref d1), .val (.ref d2), .unset] [(.int (Int32.ofNat vs.length)), (.int (Int32.ofNat us.length))])
  by_cases hl : us.length = vs.length
  case neg =>
    refine OGo.step (fun _ k => XS.icmpYes X0.here hx rfl (pc0 := 4) (pc' := 34) rfl (hb hby d_jdk_43_method_13_4) rfl (feq (fun q => by have e1 := congrArg Int32.toInt q; rw [own_toInt hu, own_toInt hv] at e1; omega)).2 (by decide) (by decide) k) ?_
    show OGo p e below _ s₁ (mkF m 34 #[.val (.ref d1), .val (.ref d2), .unset] [])
    refine OGo.step (fun _ k => XS.iconst X0.here hx rfl (hb hby d_jdk_43_method_13_34) k) ?_
    show OGo p e below _ s₁ (mkF m 35 #[.val (.ref d1), .val (.ref d2), .unset] [(.int (0 : Int32))])
    exact OGo.ret X0 hx (t := .boolean) hret hlk rfl (Or.inl ⟨rfl, by simp, _, rfl⟩) (hb hby d_jdk_43_method_13_35) (by decide) (by decide) ⟨by rw [if_neg (fun q => hl (by rw [q]))], rfl, e0⟩
  refine OGo.step (fun _ k => XS.icmpNo X0.here hx rfl (hb hby d_jdk_43_method_13_4) rfl (teq (congrArg Int32.ofNat hl)).2 k) ?_
  show OGo p e below _ s₁ (mkF m 7 #[.val (.ref d1), .val (.ref d2), .unset] [])
  refine OGo.step (fun _ k => XS.iconst X0.here hx rfl (hb hby d_jdk_43_method_13_7) k) ?_
  show OGo p e below _ s₁ (mkF m 8 #[.val (.ref d1), .val (.ref d2), .unset] [(.int (0 : Int32))])
  refine OGo.step (fun _ k => XS.istoreN X0.here hx rfl (hb hby d_jdk_43_method_13_8) rfl (l' := #[.val (.ref d1), .val (.ref d2), .val (.int (0 : Int32))]) rfl k) ?_
  show OGo p e below _ s₁ (mkF m 9 #[.val (.ref d1), .val (.ref d2), .val (.int (0 : Int32))] [])
  have loop : ∀ (r i : Nat) (T : State), i + r = us.length → us.take i = vs.take i → Stand p l e ({ frames := 0, cells := 0, slots := 0, locals := 0 } : Room) s m #[(.ref d1), (.ref d2)] below meth c T [] 0 0 → T.heap = h0 → OGo p e below (EndQ s ({ frames := 0, cells := 0, slots := 0, locals := 0 } : Room) (fun v h L => v = some (.int (if us = vs then 1 else 0)) ∧ L = [] ∧ h = h0)) T (mkF m 9 #[.val (.ref d1), .val (.ref d2), .val (.int (Int32.ofNat i))] []) := by
    intro r
    induction r with
    | zero =>
      intro i T hi ht X eT
      have hi' : i = us.length := by omega
      subst hi'
      have he : us = vs := by rw [List.take_length, hl, List.take_length] at ht; exact ht
      show OGo p e below _ T (mkF m 9 #[.val (.ref d1), .val (.ref d2), .val (.int (Int32.ofNat us.length))] [])
      refine OGo.step (fun _ k => XS.iloadN X.here hx rfl (hb hby d_jdk_43_method_13_9) rfl k) ?_
      show OGo p e below _ T (mkF m 10 #[.val (.ref d1), .val (.ref d2), .val (.int (Int32.ofNat us.length))] [(.int (Int32.ofNat us.length))])
      refine OGo.step (fun _ k => XS.aloadN X.here hx rfl (hb hby d_jdk_43_method_13_10) rfl rfl k) ?_
      show OGo p e below _ T (mkF m 11 #[.val (.ref d1), .val (.ref d2), .val (.int (Int32.ofNat us.length))] [(.ref d1), (.int (Int32.ofNat us.length))])
      refine OGo.step (fun _ k => alenV X hx hZ eT V1 (g := (mkF m 11 #[.val (.ref d1), .val (.ref d2), .val (.int (Int32.ofNat us.length))] [(.ref d1), (.int (Int32.ofNat us.length))])) rfl rfl (hb hby d_jdk_43_method_13_11) _ k) ?_
      show OGo p e below _ T (mkF m 12 #[.val (.ref d1), .val (.ref d2), .val (.int (Int32.ofNat us.length))] [(.int (Int32.ofNat us.length)), (.int (Int32.ofNat us.length))])
      refine OGo.step (fun _ k => XS.icmpYes X.here hx rfl (pc0 := 12) (pc' := 32) rfl (hb hby d_jdk_43_method_13_12) rfl (flt Int32.lt_irrefl).2.1 (by decide) (by decide) k) ?_
      show OGo p e below _ T (mkF m 32 #[.val (.ref d1), .val (.ref d2), .val (.int (Int32.ofNat us.length))] [])
      refine OGo.step (fun _ k => XS.iconst X.here hx rfl (hb hby d_jdk_43_method_13_32) k) ?_
      show OGo p e below _ T (mkF m 33 #[.val (.ref d1), .val (.ref d2), .val (.int (Int32.ofNat us.length))] [(.int (1 : Int32))])
      exact OGo.ret X hx (t := .boolean) hret hlk rfl (Or.inl ⟨rfl, by simp, _, rfl⟩) (hb hby d_jdk_43_method_13_33) (by decide) (by decide) ⟨by rw [if_pos he], rfl, eT⟩
    | succ r ih =>
      intro i T hi ht X eT
      have hil : i < us.length := by omega
      obtain ⟨x, hxi⟩ := own_elem V1 hu hil
      obtain ⟨y, hyi⟩ := own_elem V2 hv (hl ▸ hil)
      have hlt : Int32.ofNat i < (Int32.ofNat us.length) := (own_lt (by omega) hu).mpr hil
      have hlt2 : Int32.ofNat i < (Int32.ofNat vs.length) := (own_lt (by omega) hv).mpr (hl ▸ hil)
      show OGo p e below _ T (mkF m 9 #[.val (.ref d1), .val (.ref d2), .val (.int (Int32.ofNat i))] [])
      refine OGo.step (fun _ k => XS.iloadN X.here hx rfl (hb hby d_jdk_43_method_13_9) rfl k) ?_
      show OGo p e below _ T (mkF m 10 #[.val (.ref d1), .val (.ref d2), .val (.int (Int32.ofNat i))] [(.int (Int32.ofNat i))])
      refine OGo.step (fun _ k => XS.aloadN X.here hx rfl (hb hby d_jdk_43_method_13_10) rfl rfl k) ?_
      show OGo p e below _ T (mkF m 11 #[.val (.ref d1), .val (.ref d2), .val (.int (Int32.ofNat i))] [(.ref d1), (.int (Int32.ofNat i))])
      refine OGo.step (fun _ k => alenV X hx hZ eT V1 (g := (mkF m 11 #[.val (.ref d1), .val (.ref d2), .val (.int (Int32.ofNat i))] [(.ref d1), (.int (Int32.ofNat i))])) rfl rfl (hb hby d_jdk_43_method_13_11) _ k) ?_
      show OGo p e below _ T (mkF m 12 #[.val (.ref d1), .val (.ref d2), .val (.int (Int32.ofNat i))] [(.int (Int32.ofNat us.length)), (.int (Int32.ofNat i))])
      refine OGo.step (fun _ k => XS.icmpNo X.here hx rfl (hb hby d_jdk_43_method_13_12) rfl (tlt hlt).2.1 k) ?_
      show OGo p e below _ T (mkF m 15 #[.val (.ref d1), .val (.ref d2), .val (.int (Int32.ofNat i))] [])
      refine OGo.step (fun _ k => XS.aloadN X.here hx rfl (hb hby d_jdk_43_method_13_15) rfl rfl k) ?_
      show OGo p e below _ T (mkF m 16 #[.val (.ref d1), .val (.ref d2), .val (.int (Int32.ofNat i))] [(.ref d1)])
      refine OGo.step (fun _ k => XS.iloadN X.here hx rfl (hb hby d_jdk_43_method_13_16) rfl k) ?_
      show OGo p e below _ T (mkF m 17 #[.val (.ref d1), .val (.ref d2), .val (.int (Int32.ofNat i))] [(.int (Int32.ofNat i)), (.ref d1)])
      refine OGo.step (fun _ k => baloadV X hx hZ eT V1 ⟨own_nn (by omega), hlt⟩ (own_eat hxi (by omega)) (g := (mkF m 17 #[.val (.ref d1), .val (.ref d2), .val (.int (Int32.ofNat i))] [(.int (Int32.ofNat i)), (.ref d1)])) rfl rfl (hb hby d_jdk_43_method_13_17) _ k) ?_
      show OGo p e below _ T (mkF m 18 #[.val (.ref d1), .val (.ref d2), .val (.int (Int32.ofNat i))] [(.int x)])
      refine OGo.step (fun _ k => XS.aloadN X.here hx rfl (hb hby d_jdk_43_method_13_18) rfl rfl k) ?_
      show OGo p e below _ T (mkF m 19 #[.val (.ref d1), .val (.ref d2), .val (.int (Int32.ofNat i))] [(.ref d2), (.int x)])
      refine OGo.step (fun _ k => XS.iloadN X.here hx rfl (hb hby d_jdk_43_method_13_19) rfl k) ?_
      show OGo p e below _ T (mkF m 20 #[.val (.ref d1), .val (.ref d2), .val (.int (Int32.ofNat i))] [(.int (Int32.ofNat i)), (.ref d2), (.int x)])
      refine OGo.step (fun _ k => baloadV X hx hZ eT V2 ⟨own_nn (by omega), hlt2⟩ (own_eat hyi (by omega)) (g := (mkF m 20 #[.val (.ref d1), .val (.ref d2), .val (.int (Int32.ofNat i))] [(.int (Int32.ofNat i)), (.ref d2), (.int x)])) rfl rfl (hb hby d_jdk_43_method_13_20) _ k) ?_
      show OGo p e below _ T (mkF m 21 #[.val (.ref d1), .val (.ref d2), .val (.int (Int32.ofNat i))] [(.int y), (.int x)])
      by_cases hxy : x = y
      case neg =>
        refine OGo.step (fun _ k => XS.icmpNo X.here hx rfl (hb hby d_jdk_43_method_13_21) rfl (feq hxy).1 k) ?_
        show OGo p e below _ T (mkF m 24 #[.val (.ref d1), .val (.ref d2), .val (.int (Int32.ofNat i))] [])
        refine OGo.step (fun _ k => XS.iconst X.here hx rfl (hb hby d_jdk_43_method_13_24) k) ?_
        show OGo p e below _ T (mkF m 25 #[.val (.ref d1), .val (.ref d2), .val (.int (Int32.ofNat i))] [(.int (0 : Int32))])
        exact OGo.ret X hx (t := .boolean) hret hlk rfl (Or.inl ⟨rfl, by simp, _, rfl⟩) (hb hby d_jdk_43_method_13_25) (by decide) (by decide) ⟨by rw [if_neg (fun q => hxy (by subst q; cases hxi.symm.trans hyi; rfl))], rfl, eT⟩
      refine OGo.step (fun _ k => XS.icmpYes X.here hx rfl (pc0 := 21) (pc' := 26) rfl (hb hby d_jdk_43_method_13_21) rfl (teq hxy).1 (by decide) (by decide) k) ?_
      show OGo p e below _ T (mkF m 26 #[.val (.ref d1), .val (.ref d2), .val (.int (Int32.ofNat i))] [])
      refine OGo.step (fun _ k => XS.iinc X.here hx rfl (hb hby d_jdk_43_method_13_26) rfl (l' := #[.val (.ref d1), .val (.ref d2), .val (.int ((Int32.ofNat i) + (1 : Int32)))]) rfl k) ?_
      show OGo p e below _ T (mkF m 29 #[.val (.ref d1), .val (.ref d2), .val (.int ((Int32.ofNat i) + (1 : Int32)))] [])
      refine OGo.step (fun _ k => XS.goto X.here hx rfl (pc0 := 29) (pc' := 9) rfl (hb hby d_jdk_43_method_13_29) (by decide) (by decide) k) ?_
      show OGo p e below _ T (mkF m 9 #[.val (.ref d1), .val (.ref d2), .val (.int ((Int32.ofNat i) + (1 : Int32)))] [])
      rw [own_inc]
      exact ih (i + 1) T (by omega) (own_tk ht hxi (hxy ▸ hyi)) X eT
  exact loop us.length 0 _ (Nat.zero_add _) rfl X0 e0
theorem d_jdk_42_method_66_0 : decode jdk_42_method_66_code 0 = .ok (.aload_n 0, 1) := by decide +kernel
theorem d_jdk_42_method_66_1 : decode jdk_42_method_66_code 1 = .ok (.aload_n 1, 1) := by decide +kernel
theorem d_jdk_42_method_66_2 : decode jdk_42_method_66_code 2 = .ok (.if_acmp .ne 5, 3) := by decide +kernel
theorem d_jdk_42_method_66_7 : decode jdk_42_method_66_code 7 = .ok (.aload_n 1, 1) := by decide +kernel
theorem d_jdk_42_method_66_8 : decode jdk_42_method_66_code 8 = .ok (.instanceof 10, 3) := by decide +kernel
theorem d_jdk_42_method_66_11 : decode jdk_42_method_66_code 11 = .ok (.ifCond .eq 43, 3) := by decide +kernel
theorem d_jdk_42_method_66_14 : decode jdk_42_method_66_code 14 = .ok (.aload_n 1, 1) := by decide +kernel
theorem d_jdk_42_method_66_15 : decode jdk_42_method_66_code 15 = .ok (.checkcast 10, 3) := by decide +kernel
theorem d_jdk_42_method_66_18 : decode jdk_42_method_66_code 18 = .ok (.astore_n 2, 1) := by decide +kernel
theorem d_jdk_42_method_66_19 : decode jdk_42_method_66_code 19 = .ok (.getstatic 38, 3) := by decide +kernel
theorem d_jdk_42_method_66_22 : decode jdk_42_method_66_code 22 = .ok (.ifCond .eq 14, 3) := by decide +kernel
theorem d_jdk_42_method_66_25 : decode jdk_42_method_66_code 25 = .ok (.aload_n 0, 1) := by decide +kernel
theorem d_jdk_42_method_66_26 : decode jdk_42_method_66_code 26 = .ok (.getfield 15, 3) := by decide +kernel
theorem d_jdk_42_method_66_29 : decode jdk_42_method_66_code 29 = .ok (.aload_n 2, 1) := by decide +kernel
theorem d_jdk_42_method_66_30 : decode jdk_42_method_66_code 30 = .ok (.getfield 15, 3) := by decide +kernel
theorem d_jdk_42_method_66_33 : decode jdk_42_method_66_code 33 = .ok (.if_icmp .ne 21, 3) := by decide +kernel
theorem d_jdk_42_method_66_36 : decode jdk_42_method_66_code 36 = .ok (.aload_n 0, 1) := by decide +kernel
theorem d_jdk_42_method_66_37 : decode jdk_42_method_66_code 37 = .ok (.getfield 9, 3) := by decide +kernel
theorem d_jdk_42_method_66_40 : decode jdk_42_method_66_code 40 = .ok (.aload_n 2, 1) := by decide +kernel
theorem d_jdk_42_method_66_41 : decode jdk_42_method_66_code 41 = .ok (.getfield 9, 3) := by decide +kernel
theorem opd_24 : parseMethodDescriptor "([B[B)Z" = some ⟨[(.array .byte), (.array .byte)], some .boolean⟩ := by decide +kernel
theorem d_jdk_42_method_66_44 : decode jdk_42_method_66_code 44 = .ok (.invokestatic 541, 3) := by decide +kernel
theorem d_jdk_42_method_66_47 : decode jdk_42_method_66_code 47 = .ok (.ifCond .eq 7, 3) := by decide +kernel
theorem d_jdk_42_method_66_54 : decode jdk_42_method_66_code 54 = .ok (.iconst 0, 1) := by decide +kernel
theorem d_jdk_42_method_66_55 : decode jdk_42_method_66_code 55 = .ok (.ireturn, 1) := by decide +kernel
theorem d_jdk_42_method_66_50 : decode jdk_42_method_66_code 50 = .ok (.iconst 1, 1) := by decide +kernel
theorem d_jdk_42_method_66_51 : decode jdk_42_method_66_code 51 = .ok (.goto 4, 3) := by decide +kernel
theorem opl_rm_eq : plainFor (⟨"java/lang/String", "equals", "(Ljava/lang/Object;)Z"⟩ : MethodName) = true := plainFor_of_name (by first | (simp [plainName, overriddenIn]; done) | decide +kernel)
set_option maxRecDepth 65536 in
set_option maxHeartbeats 40000000 in
theorem rm_eq (l : Launch) (Z : State) (a0 : Array Value) (hw : ∀ d ∈ tables_1, d.before a0 Z = true) (ws : List Jvm.Cond) (a b d1 d2 : Addr) (k1 k2 : ClassId) (us vs : List Value) (zc : Int32) (wf : Value) (n0 : Nat) (h0 : Heap) (SS : own_SS Z zc wf) (O : Old Z n0 h0) (I : STI Z h0 a d1 k1 us) (J : STI Z h0 b d2 k2 vs) (hu : us.length < 2147483648) (hv : vs.length < 2147483648) (nab : a ≠ b) :
    Con l Z (⟨"java/lang/String", "equals", "(Ljava/lang/Object;)Z"⟩ : MethodName) jdk_42_method_66_code 3 (some .boolean) ws ({ frames := 1, cells := 0, slots := 0, locals := 14 } : Room) #[(.ref a), (.ref b)] h0 (fun v h L => v = some (.int (if us = vs then 1 else 0)) ∧ L = [] ∧ h = h0) := by
  refine Con.intro opl_rm_eq ?_
  intro p e s m below meth c s₁ hx hby hml hown hret hlk hZ hnm X0 e0
  have SS' := SS
  obtain ⟨hzc, SC, hwf, SF⟩ := SS
  have Z0 : n0 ≤ h0.size := O.1 ▸ O.2.1
  have N0 := Fr.nil n0
  obtain ⟨IE, IC, IF, IV⟩ := I
  obtain ⟨JE, JC, JF, JV⟩ := J
  refine OGo.cast (g' := (mkF m 0 #[.val (.ref a), .val (.ref b), .unset] [])) (by first | (simp [entryFrame, mkF, argsToLocals, Value.category]; done) | rfl) ?_
  show OGo p e below _ s₁ (mkF m 0 #[.val (.ref a), .val (.ref b), .unset] [])
  refine OGo.step (fun _ k => XS.aloadN X0.here hx rfl (hb hby d_jdk_42_method_66_0) rfl rfl k) ?_
  show OGo p e below _ s₁ (mkF m 1 #[.val (.ref a), .val (.ref b), .unset] [(.ref a)])
  refine OGo.step (fun _ k => XS.aloadN X0.here hx rfl (hb hby d_jdk_42_method_66_1) rfl rfl k) ?_
  show OGo p e below _ s₁ (mkF m 2 #[.val (.ref a), .val (.ref b), .unset] [(.ref b), (.ref a)])
  refine OGo.step (fun _ k => acmp X0 hx (g := mkF m 2 _ _) rfl rfl rfl (pc0 := 2) (pc' := 7) rfl (hb hby d_jdk_42_method_66_2) rfl (decide_eq_false (fun q => nab (Value.ref.inj q))) (by decide) (by decide) k) ?_
  show OGo p e below _ s₁ (mkF m 7 #[.val (.ref a), .val (.ref b), .unset] [])
  refine OGo.step (fun _ k => XS.aloadN X0.here hx rfl (hb hby d_jdk_42_method_66_7) rfl rfl k) ?_
  show OGo p e below _ s₁ (mkF m 8 #[.val (.ref a), .val (.ref b), .unset] [(.ref b)])
  obtain ⟨T106, X106, e106, st106⟩ := instY X0 hx hZ hown (hw _ (List.mem_of_getElem? (i := 9) rfl)) e0 (Ins.of_exa JE (hw _ (List.mem_of_getElem? (i := 17) rfl))) (g := (mkF m 8 #[.val (.ref a), .val (.ref b), .unset] [(.ref b)])) rfl rfl (hb hby d_jdk_42_method_66_8)
  refine OGo.step st106 ?_
  show OGo p e below _ T106 (mkF m 11 #[.val (.ref a), .val (.ref b), .unset] [(.int (1 : Int32))])
  refine OGo.step (fun _ k => XS.ifNo X106.here hx rfl (hb hby d_jdk_42_method_66_11) rfl ((if0 _ _).trans (feq (by decide : ¬ (1 : Int32) = 0)).1) k) ?_
  show OGo p e below _ T106 (mkF m 14 #[.val (.ref a), .val (.ref b), .unset] [])
  refine OGo.step (fun _ k => XS.aloadN X106.here hx rfl (hb hby d_jdk_42_method_66_14) rfl rfl k) ?_
  show OGo p e below _ T106 (mkF m 15 #[.val (.ref a), .val (.ref b), .unset] [(.ref b)])
  obtain ⟨T107, X107, e107, st107⟩ := castY X106 hx hZ hown (hw _ (List.mem_of_getElem? (i := 9) rfl)) e106 (Ins.of_exa JE (hw _ (List.mem_of_getElem? (i := 17) rfl))) (g := (mkF m 15 #[.val (.ref a), .val (.ref b), .unset] [(.ref b)])) rfl rfl (hb hby d_jdk_42_method_66_15)
  refine OGo.step st107 ?_
  show OGo p e below _ T107 (mkF m 18 #[.val (.ref a), .val (.ref b), .unset] [(.ref b)])
  refine OGo.step (fun _ k => XS.astoreN X107.here hx rfl (hb hby d_jdk_42_method_66_18) rfl rfl (l' := #[.val (.ref a), .val (.ref b), .val (.ref b)]) rfl k) ?_
  show OGo p e below _ T107 (mkF m 19 #[.val (.ref a), .val (.ref b), .val (.ref b)] [])
  obtain ⟨T108, X108, e108, st108⟩ := getS2 X107 hx hZ hown (host := "") (Or.inl (hw _ (List.mem_of_getElem? (i := 4) rfl))) Via.refl e107 (SC.ext O.2) (g := (mkF m 19 #[.val (.ref a), .val (.ref b), .val (.ref b)] [])) rfl (hb hby d_jdk_42_method_66_19)
  refine OGo.step st108 ?_
  show OGo p e below _ T108 (mkF m 22 #[.val (.ref a), .val (.ref b), .val (.ref b)] [(.int zc)])
  refine OGo.step (fun _ k => XS.ifNo X108.here hx rfl (hb hby d_jdk_42_method_66_22) rfl ((if0 _ _).trans (feq hzc).1) k) ?_
  show OGo p e below _ T108 (mkF m 25 #[.val (.ref a), .val (.ref b), .val (.ref b)] [])
  refine OGo.step (fun _ k => XS.aloadN X108.here hx rfl (hb hby d_jdk_42_method_66_25) rfl rfl k) ?_
  show OGo p e below _ T108 (mkF m 26 #[.val (.ref a), .val (.ref b), .val (.ref b)] [(.ref a)])
  obtain ⟨T109, X109, e109, st109⟩ := getF X108 hx hZ hown (host := "") (Or.inl (hw _ (List.mem_of_getElem? (i := 24) rfl))) Via.refl e108 IC (g := (mkF m 26 #[.val (.ref a), .val (.ref b), .val (.ref b)] [(.ref a)])) rfl rfl (hb hby d_jdk_42_method_66_26)
  refine OGo.step st109 ?_
  show OGo p e below _ T109 (mkF m 29 #[.val (.ref a), .val (.ref b), .val (.ref b)] [(.int (0 : Int32))])
  refine OGo.step (fun _ k => XS.aloadN X109.here hx rfl (hb hby d_jdk_42_method_66_29) rfl rfl k) ?_
  show OGo p e below _ T109 (mkF m 30 #[.val (.ref a), .val (.ref b), .val (.ref b)] [(.ref b), (.int (0 : Int32))])
  obtain ⟨T110, X110, e110, st110⟩ := getF X109 hx hZ hown (host := "") (Or.inl (hw _ (List.mem_of_getElem? (i := 24) rfl))) Via.refl e109 JC (g := (mkF m 30 #[.val (.ref a), .val (.ref b), .val (.ref b)] [(.ref b), (.int (0 : Int32))])) rfl rfl (hb hby d_jdk_42_method_66_30)
  refine OGo.step st110 ?_
  show OGo p e below _ T110 (mkF m 33 #[.val (.ref a), .val (.ref b), .val (.ref b)] [(.int (0 : Int32)), (.int (0 : Int32))])
  refine OGo.step (fun _ k => XS.icmpNo X110.here hx rfl (hb hby d_jdk_42_method_66_33) rfl (teq (rfl : (0 : Int32) = 0)).2 k) ?_
  show OGo p e below _ T110 (mkF m 36 #[.val (.ref a), .val (.ref b), .val (.ref b)] [])
  refine OGo.step (fun _ k => XS.aloadN X110.here hx rfl (hb hby d_jdk_42_method_66_36) rfl rfl k) ?_
  show OGo p e below _ T110 (mkF m 37 #[.val (.ref a), .val (.ref b), .val (.ref b)] [(.ref a)])
  obtain ⟨T111, X111, e111, st111⟩ := getF X110 hx hZ hown (host := "") (Or.inl (hw _ (List.mem_of_getElem? (i := 22) rfl))) Via.refl e110 IF (g := (mkF m 37 #[.val (.ref a), .val (.ref b), .val (.ref b)] [(.ref a)])) rfl rfl (hb hby d_jdk_42_method_66_37)
  refine OGo.step st111 ?_
  show OGo p e below _ T111 (mkF m 40 #[.val (.ref a), .val (.ref b), .val (.ref b)] [(.ref d1)])
  refine OGo.step (fun _ k => XS.aloadN X111.here hx rfl (hb hby d_jdk_42_method_66_40) rfl rfl k) ?_
  show OGo p e below _ T111 (mkF m 41 #[.val (.ref a), .val (.ref b), .val (.ref b)] [(.ref b), (.ref d1)])
  obtain ⟨T112, X112, e112, st112⟩ := getF X111 hx hZ hown (host := "") (Or.inl (hw _ (List.mem_of_getElem? (i := 22) rfl))) Via.refl e111 JF (g := (mkF m 41 #[.val (.ref a), .val (.ref b), .val (.ref b)] [(.ref b), (.ref d1)])) rfl rfl (hb hby d_jdk_42_method_66_41)
  refine OGo.step st112 ?_
  show OGo p e below _ T112 (mkF m 44 #[.val (.ref a), .val (.ref b), .val (.ref b)] [(.ref d2), (.ref d1)])
  obtain ⟨v113, T113, L113, X113, hQ113, st113⟩ := scall X112 hx hZ hown (hw _ (List.mem_of_getElem? (i := 268) rfl)) (hw _ (List.mem_of_getElem? (i := 269) rfl)) (hw _ (List.mem_of_getElem? (i := 7) rfl)) (hw _ (List.mem_of_getElem? (i := 270) rfl)) (by decide) (W := 0) (rm_l1eq l Z a0 hw [] d1 d2 k1 k2 us vs h0 IV JV hu hv) e112 (by decide) (by decide) (by decide) (by decide) (g := (mkF m 44 #[.val (.ref a), .val (.ref b), .val (.ref b)] [(.ref d2), (.ref d1)])) rfl (by rw [hml]; rfl) (argsL := [(.ref d1), (.ref d2)]) (rest := []) opd_24 rfl rfl rfl (by show 2 * 0 + _ ≤ _; exact Nat.le_of_eq rfl) (hb hby d_jdk_42_method_66_44)
  obtain ⟨rfl, rfl, e113⟩ := hQ113
  rw [List.append_nil] at X113
  refine OGo.step st113 ?_
  show OGo p e below _ T113 (mkF m 47 #[.val (.ref a), .val (.ref b), .val (.ref b)] [(.int (if us = vs then 1 else 0))])
  by_cases he : us = vs
  case neg =>
    rw [if_neg he]
    show OGo p e below _ T113 (mkF m 47 #[.val (.ref a), .val (.ref b), .val (.ref b)] [(.int (0 : Int32))])
    refine OGo.step (fun _ k => XS.ifYes X113.here hx rfl (pc0 := 47) (pc' := 54) rfl (hb hby d_jdk_42_method_66_47) rfl ((if0 _ _).trans (teq (rfl : (0 : Int32) = 0)).1) (by decide) (by decide) k) ?_
    show OGo p e below _ T113 (mkF m 54 #[.val (.ref a), .val (.ref b), .val (.ref b)] [])
    refine OGo.step (fun _ k => XS.iconst X113.here hx rfl (hb hby d_jdk_42_method_66_54) k) ?_
    show OGo p e below _ T113 (mkF m 55 #[.val (.ref a), .val (.ref b), .val (.ref b)] [(.int (0 : Int32))])
    exact OGo.ret X113 hx (t := .boolean) hret hlk rfl (Or.inl ⟨rfl, by simp, _, rfl⟩) (hb hby d_jdk_42_method_66_55) (by decide) (by decide) ⟨rfl, rfl, e113⟩
  rw [if_pos he]
  show OGo p e below _ T113 (mkF m 47 #[.val (.ref a), .val (.ref b), .val (.ref b)] [(.int (1 : Int32))])
  refine OGo.step (fun _ k => XS.ifNo X113.here hx rfl (hb hby d_jdk_42_method_66_47) rfl ((if0 _ _).trans (feq (by decide : ¬ (1 : Int32) = 0)).1) k) ?_
  show OGo p e below _ T113 (mkF m 50 #[.val (.ref a), .val (.ref b), .val (.ref b)] [])
  refine OGo.step (fun _ k => XS.iconst X113.here hx rfl (hb hby d_jdk_42_method_66_50) k) ?_
  show OGo p e below _ T113 (mkF m 51 #[.val (.ref a), .val (.ref b), .val (.ref b)] [(.int (1 : Int32))])
  refine OGo.step (fun _ k => XS.goto X113.here hx rfl (pc0 := 51) (pc' := 55) rfl (hb hby d_jdk_42_method_66_51) (by decide) (by decide) k) ?_
  show OGo p e below _ T113 (mkF m 55 #[.val (.ref a), .val (.ref b), .val (.ref b)] [(.int (1 : Int32))])
  exact OGo.ret X113 hx (t := .boolean) hret hlk rfl (Or.inl ⟨rfl, by simp, _, rfl⟩) (hb hby d_jdk_42_method_66_55) (by decide) (by decide) ⟨rfl, rfl, e113⟩
theorem own_fat {Z : State} {a0 : Array Value} (hw : ∀ d ∈ tables_1, d.before a0 Z = true) : ∀ d ∈ own_fillAtoms "com/example/drain_shards/drainshards/DrainShardsException", d.before a0 Z = true := own_caA (own_caS (hw _ (List.mem_of_getElem? (i := 212) rfl)) (own_caS (hw _ (List.mem_of_getElem? (i := 230) rfl)) (own_caS (hw _ (List.mem_of_getElem? (i := 225) rfl)) (own_caS (hw _ (List.mem_of_getElem? (i := 231) rfl)) (own_caS (hw _ (List.mem_of_getElem? (i := 232) rfl)) (own_caS (hw _ (List.mem_of_getElem? (i := 233) rfl)) (own_caS (hw _ (List.mem_of_getElem? (i := 234) rfl)) (own_caS (hw _ (List.mem_of_getElem? (i := 235) rfl)) (own_caS (hw _ (List.mem_of_getElem? (i := 20) rfl)) (own_caS (hw _ (List.mem_of_getElem? (i := 21) rfl)) (own_caS (hw _ (List.mem_of_getElem? (i := 214) rfl)) (own_caS (hw _ (List.mem_of_getElem? (i := 223) rfl)) (own_caS (hw _ (List.mem_of_getElem? (i := 236) rfl)) (own_caS (hw _ (List.mem_of_getElem? (i := 215) rfl)) (own_caS (hw _ (List.mem_of_getElem? (i := 216) rfl)) (own_caS (hw _ (List.mem_of_getElem? (i := 218) rfl)) (own_caS (hw _ (List.mem_of_getElem? (i := 219) rfl)) (own_caS (hw _ (List.mem_of_getElem? (i := 221) rfl)) (own_caS (hw _ (List.mem_of_getElem? (i := 222) rfl)) (own_caS (hw _ (List.mem_of_getElem? (i := 217) rfl)) (own_caS (hw _ (List.mem_of_getElem? (i := 243) rfl)) (own_caS (hw _ (List.mem_of_getElem? (i := 220) rfl)) (own_caS (hw _ (List.mem_of_getElem? (i := 244) rfl)) (own_caS (hw _ (List.mem_of_getElem? (i := 250) rfl)) (own_caS (hw _ (List.mem_of_getElem? (i := 246) rfl)) own_ca0))))))))))))))))))))))))) (own_caS (hw _ (List.mem_of_getElem? (i := 224) rfl)) (own_caS (hw _ (List.mem_of_getElem? (i := 245) rfl)) (own_caS (hw _ (List.mem_of_getElem? (i := 226) rfl)) (own_caS (hw _ (List.mem_of_getElem? (i := 241) rfl)) (own_caS (hw _ (List.mem_of_getElem? (i := 247) rfl)) (own_caS (hw _ (List.mem_of_getElem? (i := 227) rfl)) (own_caS (hw _ (List.mem_of_getElem? (i := 228) rfl)) (own_caS (hw _ (List.mem_of_getElem? (i := 229) rfl)) (own_caS (hw _ (List.mem_of_getElem? (i := 248) rfl)) own_ca0)))))))))
theorem d_jdk_78_method_2_0 : decode jdk_78_method_2_code 0 = .ok (.aload_n 0, 1) := by decide +kernel
theorem d_jdk_78_method_2_1 : decode jdk_78_method_2_code 1 = .ok (.invokespecial 1, 3) := by decide +kernel
theorem d_jdk_78_method_2_4 : decode jdk_78_method_2_code 4 = .ok (.aload_n 0, 1) := by decide +kernel
theorem d_jdk_78_method_2_5 : decode jdk_78_method_2_code 5 = .ok (.aload_n 0, 1) := by decide +kernel
theorem d_jdk_78_method_2_6 : decode jdk_78_method_2_code 6 = .ok (.putfield 7, 3) := by decide +kernel
theorem d_jdk_78_method_2_9 : decode jdk_78_method_2_code 9 = .ok (.aload_n 0, 1) := by decide +kernel
theorem d_jdk_78_method_2_10 : decode jdk_78_method_2_code 10 = .ok (.getstatic 13, 3) := by decide +kernel
theorem d_jdk_78_method_2_13 : decode jdk_78_method_2_code 13 = .ok (.putfield 17, 3) := by decide +kernel
theorem d_jdk_78_method_2_16 : decode jdk_78_method_2_code 16 = .ok (.aload_n 0, 1) := by decide +kernel
theorem d_jdk_78_method_2_17 : decode jdk_78_method_2_code 17 = .ok (.getstatic 20, 3) := by decide +kernel
theorem d_jdk_78_method_2_20 : decode jdk_78_method_2_code 20 = .ok (.putfield 24, 3) := by decide +kernel
theorem d_jdk_78_method_2_23 : decode jdk_78_method_2_code 23 = .ok (.aload_n 0, 1) := by decide +kernel
theorem d_jdk_78_method_2_24 : decode jdk_78_method_2_code 24 = .ok (.invokevirtual 27, 3) := by decide +kernel
theorem d_jdk_78_method_2_27 : decode jdk_78_method_2_code 27 = .ok (.pop, 1) := by decide +kernel
theorem d_jdk_78_method_2_28 : decode jdk_78_method_2_code 28 = .ok (.aload_n 0, 1) := by decide +kernel
theorem d_jdk_78_method_2_29 : decode jdk_78_method_2_code 29 = .ok (.aload_n 1, 1) := by decide +kernel
theorem d_jdk_78_method_2_30 : decode jdk_78_method_2_code 30 = .ok (.putfield 31, 3) := by decide +kernel
theorem d_jdk_78_method_2_33 : decode jdk_78_method_2_code 33 = .ok (.return_, 1) := by decide +kernel
theorem opl_rm_thr : plainFor (⟨"java/lang/Throwable", "<init>", "(Ljava/lang/String;)V"⟩ : MethodName) = true := plainFor_of_name (by first | (simp [plainName, overriddenIn]; done) | decide +kernel)
set_option maxRecDepth 65536 in
set_option maxHeartbeats 40000000 in
theorem rm_thr (l : Launch) (Z : State) (a0 : Array Value) (hw : ∀ d ∈ tables_1, d.before a0 Z = true) (ws : List Jvm.Cond) (a b : Addr) (zc : Int32) (wf : Value) (n0 : Nat) (u0 u1 : RefV) (h0 : Heap) (SS : own_SS Z zc wf) (O : Old Z n0 h0) (TS : own_TS Z u0 u1) (hlt : l.stackTraces = true) (E : Exa Z h0 a "com/example/drain_shards/drainshards/DrainShardsException") (U0 : Unt h0 a) (g_a : n0 ≤ a) (F0 : Fld Z h0 a "java/lang/Throwable" "cause" "Ljava/lang/Throwable;" .null) (F1 : Fld Z h0 a "java/lang/Throwable" "stackTrace" "[Ljava/lang/StackTraceElement;" .null) (F2 : Fld Z h0 a "java/lang/Throwable" "suppressedExceptions" "Ljava/util/List;" .null) (F3 : Fld Z h0 a "java/lang/Throwable" "backtrace" "Ljava/lang/Object;" .null) (F4 : Fld Z h0 a "java/lang/Throwable" "detailMessage" "Ljava/lang/String;" .null) :
    ConK l Z own_EL (⟨"java/lang/Throwable", "<init>", "(Ljava/lang/String;)V"⟩ : MethodName) jdk_78_method_2_code 2 none ws ({ frames := 3, cells := 1, slots := 2752, locals := 42 } : Room) #[(.ref a), (.ref b)] h0 (fun v h L => v = none ∧ Fr n0 L ∧ Keep h0 h [a] ∧ Unt h a ∧ Fld Z h a "java/lang/Throwable" "cause" "Ljava/lang/Throwable;" (.ref a) ∧ Fld Z h a "java/lang/Throwable" "detailMessage" "Ljava/lang/String;" (.ref b)) := by
  refine ConK.intro opl_rm_thr ?_
  intro p e s m below meth c s₁ hx hby hml hown hret hlk hZ hnm X0 e0 hs0 hS0 H0 R0 hTK hBl
  have SS' := SS
  obtain ⟨hzc, SC, hwf, SF⟩ := SS
  have Z0 : n0 ≤ h0.size := O.1 ▸ O.2.1
  have N0 := Fr.nil n0
  refine OGo.cast (g' := (mkF m 0 #[.val (.ref a), .val (.ref b)] [])) (by first | (simp [entryFrame, mkF, argsToLocals, Value.category]; done) | rfl) ?_
  show OGo p e below _ s₁ (mkF m 0 #[.val (.ref a), .val (.ref b)] [])
  refine OGo.step (fun _ k => XS.aloadN X0.here hx rfl (hb hby d_jdk_78_method_2_0) rfl rfl k) ?_
  show OGo p e below _ s₁ (mkF m 1 #[.val (.ref a), .val (.ref b)] [(.ref a)])
  obtain ⟨T114, X114, e114, st114⟩ := initO X0 hx hZ hown (hw _ (List.mem_of_getElem? (i := 214) rfl)) (hw _ (List.mem_of_getElem? (i := 20) rfl)) (hw _ (List.mem_of_getElem? (i := 21) rfl)) e0 (g := (mkF m 1 #[.val (.ref a), .val (.ref b)] [(.ref a)])) rfl (by rw [hml]; rfl) rfl (hb hby d_jdk_78_method_2_1) (by decide) (W := 0) (by show 2 * 0 + _ ≤ _; exact Nat.le_of_eq rfl) (by decide)
  refine OGo.step st114 ?_
  show OGo p e below _ T114 (mkF m 4 #[.val (.ref a), .val (.ref b)] [])
  refine OGo.step (fun _ k => XS.aloadN X114.here hx rfl (hb hby d_jdk_78_method_2_4) rfl rfl k) ?_
  show OGo p e below _ T114 (mkF m 5 #[.val (.ref a), .val (.ref b)] [(.ref a)])
  refine OGo.step (fun _ k => XS.aloadN X114.here hx rfl (hb hby d_jdk_78_method_2_5) rfl rfl k) ?_
  show OGo p e below _ T114 (mkF m 6 #[.val (.ref a), .val (.ref b)] [(.ref a), (.ref a)])
  obtain ⟨T115, h115, X115, e115, W115, st115⟩ := putF X114 hx hZ hown (host := "") (Or.inl (hw _ (List.mem_of_getElem? (i := 215) rfl))) Via.refl e114 F0 E (Or.inl (hw _ (List.mem_of_getElem? (i := 216) rfl))) (hw _ (List.mem_of_getElem? (i := 183) rfl)) (ty := (.object "java/lang/Throwable")) (by decide) rfl rfl (g := (mkF m 6 #[.val (.ref a), .val (.ref b)] [(.ref a), (.ref a)])) rfl rfl (hb hby d_jdk_78_method_2_6)
  have Fw115 := F0.same W115
  have q116 := (Safe.exa (EL := own_EL) hZ.alike E (by decide) (by decide))
  have N115 := Fr.snoc X115 N0 g_a
  have KK115 : Keep h0 h115 [a] := (Keep.refl h0 [a]).wr W115 (Or.inl (List.mem_of_getElem? (i := 0) rfl))
  have H115 := CHv.wr W115 q116 H0
  have R115 := CHr.trans R0 (CHr.wr W115 q116 H0)
  refine OGo.step st115 ?_
  show OGo p e below _ T115 (mkF m 9 #[.val (.ref a), .val (.ref b)] [])
  refine OGo.step (fun _ k => XS.aloadN X115.here hx rfl (hb hby d_jdk_78_method_2_9) rfl rfl k) ?_
  show OGo p e below _ T115 (mkF m 10 #[.val (.ref a), .val (.ref b)] [(.ref a)])
  obtain ⟨T117, X117, e117, st117⟩ := getS2 X115 hx hZ hown (host := "") (Or.inl (hw _ (List.mem_of_getElem? (i := 217) rfl))) Via.refl e115 (TS.1.ext (O.wr W115 g_a).2) (g := (mkF m 10 #[.val (.ref a), .val (.ref b)] [(.ref a)])) rfl (hb hby d_jdk_78_method_2_10)
  refine OGo.step st117 ?_
  show OGo p e below _ T117 (mkF m 13 #[.val (.ref a), .val (.ref b)] [u0.v, (.ref a)])
  have q119 := (F1.other W115 (Or.inr (slot_ne (Or.inl (hw _ (List.mem_of_getElem? (i := 219) rfl))) (Or.inl (hw _ (List.mem_of_getElem? (i := 216) rfl))) (by decide) (t := (.array (.object "java/lang/StackTraceElement"))) (t' := (.object "java/lang/Throwable")) (by decide) (by decide))))
  obtain ⟨T118, h118, X118, e118, W118, st118⟩ := putF X117 hx hZ hown (host := "") (Or.inl (hw _ (List.mem_of_getElem? (i := 218) rfl))) Via.refl e117 q119 (E.wr W115) (Or.inl (hw _ (List.mem_of_getElem? (i := 219) rfl))) (hw _ (List.mem_of_getElem? (i := 183) rfl)) (ty := (.array (.object "java/lang/StackTraceElement"))) (by decide) (narrow_refV _ u0) (fits_refV_array _ u0) (g := (mkF m 13 #[.val (.ref a), .val (.ref b)] [u0.v, (.ref a)])) rfl rfl (hb hby d_jdk_78_method_2_13)
  have Fw118 := q119.same W118
  have N118 := Fr.snoc X118 N115 g_a
  have KK118 : Keep h0 h118 [a] := KK115.wr W118 (Or.inl (List.mem_of_getElem? (i := 0) rfl))
  have H118 := CHv.wr W118 (Safe.wr W115 q116 H0 q116) H115
  have R118 := CHr.trans R115 (CHr.wr W118 (Safe.wr W115 q116 H0 q116) H115)
  refine OGo.step st118 ?_
  show OGo p e below _ T118 (mkF m 16 #[.val (.ref a), .val (.ref b)] [])
  refine OGo.step (fun _ k => XS.aloadN X118.here hx rfl (hb hby d_jdk_78_method_2_16) rfl rfl k) ?_
  show OGo p e below _ T118 (mkF m 17 #[.val (.ref a), .val (.ref b)] [(.ref a)])
  obtain ⟨T120, X120, e120, st120⟩ := getS2 X118 hx hZ hown (host := "") (Or.inl (hw _ (List.mem_of_getElem? (i := 220) rfl))) Via.refl e118 (TS.2.ext ((O.wr W115 g_a).wr W118 g_a).2) (g := (mkF m 17 #[.val (.ref a), .val (.ref b)] [(.ref a)])) rfl (hb hby d_jdk_78_method_2_17)
  refine OGo.step st120 ?_
  show OGo p e below _ T120 (mkF m 20 #[.val (.ref a), .val (.ref b)] [u1.v, (.ref a)])
  have q122 := ((F2.other W115 (Or.inr (slot_ne (Or.inl (hw _ (List.mem_of_getElem? (i := 222) rfl))) (Or.inl (hw _ (List.mem_of_getElem? (i := 216) rfl))) (by decide) (t := (.object "java/util/List")) (t' := (.object "java/lang/Throwable")) (by decide) (by decide)))).other W118 (Or.inr (slot_ne (Or.inl (hw _ (List.mem_of_getElem? (i := 222) rfl))) (Or.inl (hw _ (List.mem_of_getElem? (i := 219) rfl))) (by decide) (t := (.object "java/util/List")) (t' := (.array (.object "java/lang/StackTraceElement"))) (by decide) (by decide))))
  obtain ⟨T121, h121, X121, e121, W121, st121⟩ := putF X120 hx hZ hown (host := "") (Or.inl (hw _ (List.mem_of_getElem? (i := 221) rfl))) Via.refl e120 q122 ((E.wr W115).wr W118) (Or.inl (hw _ (List.mem_of_getElem? (i := 222) rfl))) (hw _ (List.mem_of_getElem? (i := 183) rfl)) (ty := (.object "java/util/List")) (by decide) (narrow_refV _ u1) (fits_refV_object _ u1) (g := (mkF m 20 #[.val (.ref a), .val (.ref b)] [u1.v, (.ref a)])) rfl rfl (hb hby d_jdk_78_method_2_20)
  have Fw121 := q122.same W121
  have q123 := (Safe.wr W118 (Safe.wr W115 q116 H0 q116) H115 (Safe.wr W115 q116 H0 q116))
  have N121 := Fr.snoc X121 N118 g_a
  have KK121 : Keep h0 h121 [a] := KK118.wr W121 (Or.inl (List.mem_of_getElem? (i := 0) rfl))
  have H121 := CHv.wr W121 q123 H118
  have R121 := CHr.trans R118 (CHr.wr W121 q123 H118)
  refine OGo.step st121 ?_
  show OGo p e below _ T121 (mkF m 23 #[.val (.ref a), .val (.ref b)] [])
  refine OGo.step (fun _ k => XS.aloadN X121.here hx rfl (hb hby d_jdk_78_method_2_23) rfl rfl k) ?_
  show OGo p e below _ T121 (mkF m 24 #[.val (.ref a), .val (.ref b)] [(.ref a)])
  have q125 := (Unt.wr W121 (Unt.wr W118 (Unt.wr W115 U0)))
  have q126 := (Fw118.other W121 (Or.inr (slot_ne (Or.inl (hw _ (List.mem_of_getElem? (i := 219) rfl))) (Or.inl (hw _ (List.mem_of_getElem? (i := 222) rfl))) (by decide) (t := (.array (.object "java/lang/StackTraceElement"))) (t' := (.object "java/util/List")) (by decide) (by decide))))
  have q127 := (((F3.other W115 (Or.inr (slot_ne (Or.inl (hw _ (List.mem_of_getElem? (i := 247) rfl))) (Or.inl (hw _ (List.mem_of_getElem? (i := 216) rfl))) (by decide) (t := (.object "java/lang/Object")) (t' := (.object "java/lang/Throwable")) (by decide) (by decide)))).other W118 (Or.inr (slot_ne (Or.inl (hw _ (List.mem_of_getElem? (i := 247) rfl))) (Or.inl (hw _ (List.mem_of_getElem? (i := 219) rfl))) (by decide) (t := (.object "java/lang/Object")) (t' := (.array (.object "java/lang/StackTraceElement"))) (by decide) (by decide)))).other W121 (Or.inr (slot_ne (Or.inl (hw _ (List.mem_of_getElem? (i := 247) rfl))) (Or.inl (hw _ (List.mem_of_getElem? (i := 222) rfl))) (by decide) (t := (.object "java/lang/Object")) (t' := (.object "java/util/List")) (by decide) (by decide))))
  have q128 := ((Fw115.other W118 (Or.inr (slot_ne (Or.inl (hw _ (List.mem_of_getElem? (i := 216) rfl))) (Or.inl (hw _ (List.mem_of_getElem? (i := 219) rfl))) (by decide) (t := (.object "java/lang/Throwable")) (t' := (.array (.object "java/lang/StackTraceElement"))) (by decide) (by decide)))).other W121 (Or.inr (slot_ne (Or.inl (hw _ (List.mem_of_getElem? (i := 216) rfl))) (Or.inl (hw _ (List.mem_of_getElem? (i := 222) rfl))) (by decide) (t := (.object "java/lang/Throwable")) (t' := (.object "java/util/List")) (by decide) (by decide))))
  have q129 := (((F4.other W115 (Or.inr (slot_ne (Or.inl (hw _ (List.mem_of_getElem? (i := 246) rfl))) (Or.inl (hw _ (List.mem_of_getElem? (i := 216) rfl))) (by decide) (t := (.object "java/lang/String")) (t' := (.object "java/lang/Throwable")) (by decide) (by decide)))).other W118 (Or.inr (slot_ne (Or.inl (hw _ (List.mem_of_getElem? (i := 246) rfl))) (Or.inl (hw _ (List.mem_of_getElem? (i := 219) rfl))) (by decide) (t := (.object "java/lang/String")) (t' := (.array (.object "java/lang/StackTraceElement"))) (by decide) (by decide)))).other W121 (Or.inr (slot_ne (Or.inl (hw _ (List.mem_of_getElem? (i := 246) rfl))) (Or.inl (hw _ (List.mem_of_getElem? (i := 222) rfl))) (by decide) (t := (.object "java/lang/String")) (t' := (.object "java/util/List")) (by decide) (by decide))))
  have q130 := (((O.wr W115 g_a).wr W118 g_a).wr W121 g_a)
  obtain ⟨T124, L124, X124, B124, K124, U124, A124, FC124, FM124, st124⟩ := own_fillF X121 hx hlt hZ hown (own_fat hw) (hw _ (List.mem_of_getElem? (i := 183) rfl)) (ThS.ext O.2 ThS.start) hTK hBl hs0 e121 (own_b1 (own_b1 (own_b1 own_b0))) E U0 q125 q126 q127 q128 q129 (TS.1.ext q130.2) (((E.wr W115).wr W118).wr W121) (g := (mkF m 24 #[.val (.ref a), .val (.ref b)] [(.ref a)])) rfl (by rw [hml]; rfl) (rest := []) rfl (hb hby d_jdk_78_method_2_24) (by decide) (w := 0) (by show 2 * 0 + _ ≤ _; exact Nat.le_of_eq rfl) (by decide) (by decide) (by decide)
  have N124 := own_frb B124 g_a
  have H124 := CHv.keep K124 (sfS (Safe.exa (EL := own_EL) hZ.alike E (by decide) (by decide)) sf0) H0
  have R124 := CHr.trans R0 (CHr.keep K124 (sfS (Safe.exa (EL := own_EL) hZ.alike E (by decide) (by decide)) sf0) H0)
  refine OGo.step st124 ?_
  show OGo p e below _ T124 (mkF m 27 #[.val (.ref a), .val (.ref b)] [(.ref a)])
  refine OGo.step (fun _ k => XS.pop X124.here hx rfl (hb hby d_jdk_78_method_2_27) rfl rfl k) ?_
  show OGo p e below _ T124 (mkF m 28 #[.val (.ref a), .val (.ref b)] [])
  refine OGo.step (fun _ k => XS.aloadN X124.here hx rfl (hb hby d_jdk_78_method_2_28) rfl rfl k) ?_
  show OGo p e below _ T124 (mkF m 29 #[.val (.ref a), .val (.ref b)] [(.ref a)])
  refine OGo.step (fun _ k => XS.aloadN X124.here hx rfl (hb hby d_jdk_78_method_2_29) rfl rfl k) ?_
  show OGo p e below _ T124 (mkF m 30 #[.val (.ref a), .val (.ref b)] [(.ref b), (.ref a)])
  obtain ⟨T131, h131, X131, e131, W131, st131⟩ := putF X124 hx hZ hown (host := "") (Or.inl (hw _ (List.mem_of_getElem? (i := 250) rfl))) Via.refl rfl FM124 A124 (Or.inl (hw _ (List.mem_of_getElem? (i := 246) rfl))) (hw _ (List.mem_of_getElem? (i := 183) rfl)) (ty := (.object "java/lang/String")) (by decide) rfl rfl (g := (mkF m 30 #[.val (.ref a), .val (.ref b)] [(.ref b), (.ref a)])) rfl rfl (hb hby d_jdk_78_method_2_30)
  have Fw131 := FM124.same W131
  have q132 := (Safe.keep K124 (sfS (Safe.exa (EL := own_EL) hZ.alike E (by decide) (by decide)) sf0) H0 (Safe.exa (EL := own_EL) hZ.alike E (by decide) (by decide)))
  have N131 := Fr.snoc X131 N124 g_a
  have KK131 : Keep h0 h131 [a] := K124.wr W131 (Or.inl (List.mem_of_getElem? (i := 0) rfl))
  have H131 := CHv.wr W131 q132 H124
  have R131 := CHr.trans R124 (CHr.wr W131 q132 H124)
  refine OGo.step st131 ?_
  show OGo p e below _ T131 (mkF m 33 #[.val (.ref a), .val (.ref b)] [])
  have q133 := (FC124.other W131 (Or.inr (slot_ne (Or.inl (hw _ (List.mem_of_getElem? (i := 216) rfl))) (Or.inl (hw _ (List.mem_of_getElem? (i := 246) rfl))) (by decide) (t := (.object "java/lang/Throwable")) (t' := (.object "java/lang/String")) (by decide) (by decide))))
  exact OGo.retHV X131 hx hZ (own_hEL hw) hs0 e131 hS0 (Nat.le_trans (Nat.zero_le _) (Nat.le_of_eq W131.size.symm)) H131 R131 hret hlk (hb hby d_jdk_78_method_2_33) (by decide) (by decide) (by exact ⟨rfl, N131, KK131, (Unt.wr W131 U124), q133, Fw131⟩)
theorem d_jdk_59_method_2_0 : decode jdk_59_method_2_code 0 = .ok (.aload_n 0, 1) := by decide +kernel
theorem d_jdk_59_method_2_1 : decode jdk_59_method_2_code 1 = .ok (.aload_n 1, 1) := by decide +kernel
theorem d_jdk_59_method_2_2 : decode jdk_59_method_2_code 2 = .ok (.invokespecial 7, 3) := by decide +kernel
theorem d_jdk_59_method_2_5 : decode jdk_59_method_2_code 5 = .ok (.return_, 1) := by decide +kernel
theorem opl_rm_exc : plainFor (⟨"java/lang/Exception", "<init>", "(Ljava/lang/String;)V"⟩ : MethodName) = true := plainFor_of_name (by first | (simp [plainName, overriddenIn]; done) | decide +kernel)
set_option maxRecDepth 65536 in
set_option maxHeartbeats 40000000 in
theorem rm_exc (l : Launch) (Z : State) (a0 : Array Value) (hw : ∀ d ∈ tables_1, d.before a0 Z = true) (ws : List Jvm.Cond) (a b : Addr) (zc : Int32) (wf : Value) (n0 : Nat) (u0 u1 : RefV) (h0 : Heap) (SS : own_SS Z zc wf) (O : Old Z n0 h0) (TS : own_TS Z u0 u1) (hlt : l.stackTraces = true) (E : Exa Z h0 a "com/example/drain_shards/drainshards/DrainShardsException") (U0 : Unt h0 a) (g_a : n0 ≤ a) (F0 : Fld Z h0 a "java/lang/Throwable" "cause" "Ljava/lang/Throwable;" .null) (F1 : Fld Z h0 a "java/lang/Throwable" "stackTrace" "[Ljava/lang/StackTraceElement;" .null) (F2 : Fld Z h0 a "java/lang/Throwable" "suppressedExceptions" "Ljava/util/List;" .null) (F3 : Fld Z h0 a "java/lang/Throwable" "backtrace" "Ljava/lang/Object;" .null) (F4 : Fld Z h0 a "java/lang/Throwable" "detailMessage" "Ljava/lang/String;" .null) :
    ConK l Z own_EL (⟨"java/lang/Exception", "<init>", "(Ljava/lang/String;)V"⟩ : MethodName) jdk_59_method_2_code 2 none ws ({ frames := 4, cells := 1, slots := 2752, locals := 55 } : Room) #[(.ref a), (.ref b)] h0 (fun v h L => v = none ∧ Fr n0 L ∧ Keep h0 h [a] ∧ Unt h a ∧ Fld Z h a "java/lang/Throwable" "cause" "Ljava/lang/Throwable;" (.ref a) ∧ Fld Z h a "java/lang/Throwable" "detailMessage" "Ljava/lang/String;" (.ref b)) := by
  refine ConK.intro opl_rm_exc ?_
  intro p e s m below meth c s₁ hx hby hml hown hret hlk hZ hnm X0 e0 hs0 hS0 H0 R0 hTK hBl
  have SS' := SS
  obtain ⟨hzc, SC, hwf, SF⟩ := SS
  have Z0 : n0 ≤ h0.size := O.1 ▸ O.2.1
  have N0 := Fr.nil n0
  refine OGo.cast (g' := (mkF m 0 #[.val (.ref a), .val (.ref b)] [])) (by first | (simp [entryFrame, mkF, argsToLocals, Value.category]; done) | rfl) ?_
  show OGo p e below _ s₁ (mkF m 0 #[.val (.ref a), .val (.ref b)] [])
  refine OGo.step (fun _ k => XS.aloadN X0.here hx rfl (hb hby d_jdk_59_method_2_0) rfl rfl k) ?_
  show OGo p e below _ s₁ (mkF m 1 #[.val (.ref a), .val (.ref b)] [(.ref a)])
  refine OGo.step (fun _ k => XS.aloadN X0.here hx rfl (hb hby d_jdk_59_method_2_1) rfl rfl k) ?_
  show OGo p e below _ s₁ (mkF m 2 #[.val (.ref a), .val (.ref b)] [(.ref b), (.ref a)])
  obtain ⟨v134, T134, L134, kk134, X134, hS134, hk134, hZ134, hown134, CR134, hQ134, st134⟩ := icallK X0 hx hZ rfl hown (own_hEL hw) hS0 (Nat.zero_le _) H0 hTK hBl (hw _ (List.mem_of_getElem? (i := 208) rfl)) (hw _ (List.mem_of_getElem? (i := 209) rfl)) (hw _ (List.mem_of_getElem? (i := 212) rfl)) (hw _ (List.mem_of_getElem? (i := 213) rfl)) (by decide) (W := 0) (rm_thr l Z a0 hw [] a b zc wf n0 u0 u1 h0 SS' O TS hlt E U0 g_a F0 F1 F2 F3 F4) e0 (by decide) (by decide) (by decide) (by decide) (g := (mkF m 2 #[.val (.ref a), .val (.ref b)] [(.ref b), (.ref a)])) rfl (by rw [hml]; rfl) (a := a) (argsL := [(.ref b)]) (rest := []) opd_5 rfl rfl rfl (by show 2 * 0 + _ ≤ _; exact Nat.le_of_eq rfl) (hb hby d_jdk_59_method_2_2)
  obtain ⟨rfl, N134, K134, U134, FC134, FM134⟩ := hQ134
  have NN134 := Fr.app N0 N134
  have KK134 : Keep h0 T134.heap [a] := (Keep.refl h0 [a]).trans K134 (allS (Or.inl (List.mem_of_getElem? (i := 0) rfl)) all0)
  have H134 := CR134.1
  have R134 := CHr.trans R0 CR134
  refine OGo.step st134 ?_
  show OGo p e below _ T134 (mkF m 5 #[.val (.ref a), .val (.ref b)] [])
  exact OGo.retHV X134 hx hZ134 (own_hEL hw) hs0 rfl hS134 hk134 H134 R134 hret hlk (hb hby d_jdk_59_method_2_5) (by decide) (by decide) ⟨rfl, NN134, KK134, U134, FC134, FM134⟩
theorem d_jdk_58_method_2_0 : decode jdk_58_method_2_code 0 = .ok (.aload_n 0, 1) := by decide +kernel
theorem d_jdk_58_method_2_1 : decode jdk_58_method_2_code 1 = .ok (.aload_n 1, 1) := by decide +kernel
theorem d_jdk_58_method_2_2 : decode jdk_58_method_2_code 2 = .ok (.invokespecial 7, 3) := by decide +kernel
theorem d_jdk_58_method_2_5 : decode jdk_58_method_2_code 5 = .ok (.return_, 1) := by decide +kernel
theorem opl_rm_rte : plainFor (⟨"java/lang/RuntimeException", "<init>", "(Ljava/lang/String;)V"⟩ : MethodName) = true := plainFor_of_name (by first | (simp [plainName, overriddenIn]; done) | decide +kernel)
set_option maxRecDepth 65536 in
set_option maxHeartbeats 40000000 in
theorem rm_rte (l : Launch) (Z : State) (a0 : Array Value) (hw : ∀ d ∈ tables_1, d.before a0 Z = true) (ws : List Jvm.Cond) (a b : Addr) (zc : Int32) (wf : Value) (n0 : Nat) (u0 u1 : RefV) (h0 : Heap) (SS : own_SS Z zc wf) (O : Old Z n0 h0) (TS : own_TS Z u0 u1) (hlt : l.stackTraces = true) (E : Exa Z h0 a "com/example/drain_shards/drainshards/DrainShardsException") (U0 : Unt h0 a) (g_a : n0 ≤ a) (F0 : Fld Z h0 a "java/lang/Throwable" "cause" "Ljava/lang/Throwable;" .null) (F1 : Fld Z h0 a "java/lang/Throwable" "stackTrace" "[Ljava/lang/StackTraceElement;" .null) (F2 : Fld Z h0 a "java/lang/Throwable" "suppressedExceptions" "Ljava/util/List;" .null) (F3 : Fld Z h0 a "java/lang/Throwable" "backtrace" "Ljava/lang/Object;" .null) (F4 : Fld Z h0 a "java/lang/Throwable" "detailMessage" "Ljava/lang/String;" .null) :
    ConK l Z own_EL (⟨"java/lang/RuntimeException", "<init>", "(Ljava/lang/String;)V"⟩ : MethodName) jdk_58_method_2_code 2 none ws ({ frames := 5, cells := 1, slots := 2752, locals := 68 } : Room) #[(.ref a), (.ref b)] h0 (fun v h L => v = none ∧ Fr n0 L ∧ Keep h0 h [a] ∧ Unt h a ∧ Fld Z h a "java/lang/Throwable" "cause" "Ljava/lang/Throwable;" (.ref a) ∧ Fld Z h a "java/lang/Throwable" "detailMessage" "Ljava/lang/String;" (.ref b)) := by
  refine ConK.intro opl_rm_rte ?_
  intro p e s m below meth c s₁ hx hby hml hown hret hlk hZ hnm X0 e0 hs0 hS0 H0 R0 hTK hBl
  have SS' := SS
  obtain ⟨hzc, SC, hwf, SF⟩ := SS
  have Z0 : n0 ≤ h0.size := O.1 ▸ O.2.1
  have N0 := Fr.nil n0
  refine OGo.cast (g' := (mkF m 0 #[.val (.ref a), .val (.ref b)] [])) (by first | (simp [entryFrame, mkF, argsToLocals, Value.category]; done) | rfl) ?_
  show OGo p e below _ s₁ (mkF m 0 #[.val (.ref a), .val (.ref b)] [])
  refine OGo.step (fun _ k => XS.aloadN X0.here hx rfl (hb hby d_jdk_58_method_2_0) rfl rfl k) ?_
  show OGo p e below _ s₁ (mkF m 1 #[.val (.ref a), .val (.ref b)] [(.ref a)])
  refine OGo.step (fun _ k => XS.aloadN X0.here hx rfl (hb hby d_jdk_58_method_2_1) rfl rfl k) ?_
  show OGo p e below _ s₁ (mkF m 2 #[.val (.ref a), .val (.ref b)] [(.ref b), (.ref a)])
  obtain ⟨v135, T135, L135, kk135, X135, hS135, hk135, hZ135, hown135, CR135, hQ135, st135⟩ := icallK X0 hx hZ rfl hown (own_hEL hw) hS0 (Nat.zero_le _) H0 hTK hBl (hw _ (List.mem_of_getElem? (i := 202) rfl)) (hw _ (List.mem_of_getElem? (i := 203) rfl)) (hw _ (List.mem_of_getElem? (i := 206) rfl)) (hw _ (List.mem_of_getElem? (i := 207) rfl)) (by decide) (W := 0) (rm_exc l Z a0 hw [] a b zc wf n0 u0 u1 h0 SS' O TS hlt E U0 g_a F0 F1 F2 F3 F4) e0 (by decide) (by decide) (by decide) (by decide) (g := (mkF m 2 #[.val (.ref a), .val (.ref b)] [(.ref b), (.ref a)])) rfl (by rw [hml]; rfl) (a := a) (argsL := [(.ref b)]) (rest := []) opd_5 rfl rfl rfl (by show 2 * 0 + _ ≤ _; exact Nat.le_of_eq rfl) (hb hby d_jdk_58_method_2_2)
  obtain ⟨rfl, N135, K135, U135, FC135, FM135⟩ := hQ135
  have NN135 := Fr.app N0 N135
  have KK135 : Keep h0 T135.heap [a] := (Keep.refl h0 [a]).trans K135 (allS (Or.inl (List.mem_of_getElem? (i := 0) rfl)) all0)
  have H135 := CR135.1
  have R135 := CHr.trans R0 CR135
  refine OGo.step st135 ?_
  show OGo p e below _ T135 (mkF m 5 #[.val (.ref a), .val (.ref b)] [])
  exact OGo.retHV X135 hx hZ135 (own_hEL hw) hs0 rfl hS135 hk135 H135 R135 hret hlk (hb hby d_jdk_58_method_2_5) (by decide) (by decide) ⟨rfl, NN135, KK135, U135, FC135, FM135⟩
theorem d_prog_4_method_1_0 : decode prog_4_method_1_code 0 = .ok (.aload_n 0, 1) := by decide +kernel
theorem d_prog_4_method_1_1 : decode prog_4_method_1_code 1 = .ok (.aload_n 1, 1) := by decide +kernel
theorem d_prog_4_method_1_2 : decode prog_4_method_1_code 2 = .ok (.invokespecial 1, 3) := by decide +kernel
theorem d_prog_4_method_1_5 : decode prog_4_method_1_code 5 = .ok (.return_, 1) := by decide +kernel
theorem opl_rm_dse : plainFor (⟨"com/example/drain_shards/drainshards/DrainShardsException", "<init>", "(Ljava/lang/String;)V"⟩ : MethodName) = true := plainFor_of_name (by first | (simp [plainName, overriddenIn]; done) | decide +kernel)
set_option maxRecDepth 65536 in
set_option maxHeartbeats 40000000 in
theorem rm_dse (l : Launch) (Z : State) (a0 : Array Value) (hw : ∀ d ∈ tables_1, d.before a0 Z = true) (ws : List Jvm.Cond) (a b : Addr) (zc : Int32) (wf : Value) (n0 : Nat) (u0 u1 : RefV) (h0 : Heap) (SS : own_SS Z zc wf) (O : Old Z n0 h0) (TS : own_TS Z u0 u1) (hlt : l.stackTraces = true) (E : Exa Z h0 a "com/example/drain_shards/drainshards/DrainShardsException") (U0 : Unt h0 a) (g_a : n0 ≤ a) (F0 : Fld Z h0 a "java/lang/Throwable" "cause" "Ljava/lang/Throwable;" .null) (F1 : Fld Z h0 a "java/lang/Throwable" "stackTrace" "[Ljava/lang/StackTraceElement;" .null) (F2 : Fld Z h0 a "java/lang/Throwable" "suppressedExceptions" "Ljava/util/List;" .null) (F3 : Fld Z h0 a "java/lang/Throwable" "backtrace" "Ljava/lang/Object;" .null) (F4 : Fld Z h0 a "java/lang/Throwable" "detailMessage" "Ljava/lang/String;" .null) :
    ConK l Z own_EL (⟨"com/example/drain_shards/drainshards/DrainShardsException", "<init>", "(Ljava/lang/String;)V"⟩ : MethodName) prog_4_method_1_code 2 none ws ({ frames := 6, cells := 1, slots := 2752, locals := 81 } : Room) #[(.ref a), (.ref b)] h0 (fun v h L => v = none ∧ Fr n0 L ∧ Keep h0 h [a] ∧ Unt h a ∧ Fld Z h a "java/lang/Throwable" "cause" "Ljava/lang/Throwable;" (.ref a) ∧ Fld Z h a "java/lang/Throwable" "detailMessage" "Ljava/lang/String;" (.ref b)) := by
  refine ConK.intro opl_rm_dse ?_
  intro p e s m below meth c s₁ hx hby hml hown hret hlk hZ hnm X0 e0 hs0 hS0 H0 R0 hTK hBl
  have SS' := SS
  obtain ⟨hzc, SC, hwf, SF⟩ := SS
  have Z0 : n0 ≤ h0.size := O.1 ▸ O.2.1
  have N0 := Fr.nil n0
  refine OGo.cast (g' := (mkF m 0 #[.val (.ref a), .val (.ref b)] [])) (by first | (simp [entryFrame, mkF, argsToLocals, Value.category]; done) | rfl) ?_
  show OGo p e below _ s₁ (mkF m 0 #[.val (.ref a), .val (.ref b)] [])
  refine OGo.step (fun _ k => XS.aloadN X0.here hx rfl (hb hby d_prog_4_method_1_0) rfl rfl k) ?_
  show OGo p e below _ s₁ (mkF m 1 #[.val (.ref a), .val (.ref b)] [(.ref a)])
  refine OGo.step (fun _ k => XS.aloadN X0.here hx rfl (hb hby d_prog_4_method_1_1) rfl rfl k) ?_
  show OGo p e below _ s₁ (mkF m 2 #[.val (.ref a), .val (.ref b)] [(.ref b), (.ref a)])
  obtain ⟨v136, T136, L136, kk136, X136, hS136, hk136, hZ136, hown136, CR136, hQ136, st136⟩ := icallK X0 hx hZ rfl hown (own_hEL hw) hS0 (Nat.zero_le _) H0 hTK hBl (hw _ (List.mem_of_getElem? (i := 197) rfl)) (hw _ (List.mem_of_getElem? (i := 198) rfl)) (hw _ (List.mem_of_getElem? (i := 200) rfl)) (hw _ (List.mem_of_getElem? (i := 201) rfl)) (by decide) (W := 0) (rm_rte l Z a0 hw [] a b zc wf n0 u0 u1 h0 SS' O TS hlt E U0 g_a F0 F1 F2 F3 F4) e0 (by decide) (by decide) (by decide) (by decide) (g := (mkF m 2 #[.val (.ref a), .val (.ref b)] [(.ref b), (.ref a)])) rfl (by rw [hml]; rfl) (a := a) (argsL := [(.ref b)]) (rest := []) opd_5 rfl rfl rfl (by show 2 * 0 + _ ≤ _; exact Nat.le_of_eq rfl) (hb hby d_prog_4_method_1_2)
  obtain ⟨rfl, N136, K136, U136, FC136, FM136⟩ := hQ136
  have NN136 := Fr.app N0 N136
  have KK136 : Keep h0 T136.heap [a] := (Keep.refl h0 [a]).trans K136 (allS (Or.inl (List.mem_of_getElem? (i := 0) rfl)) all0)
  have H136 := CR136.1
  have R136 := CHr.trans R0 CR136
  refine OGo.step st136 ?_
  show OGo p e below _ T136 (mkF m 5 #[.val (.ref a), .val (.ref b)] [])
  exact OGo.retHV X136 hx hZ136 (own_hEL hw) hs0 rfl hS136 hk136 H136 R136 hret hlk (hb hby d_prog_4_method_1_5) (by decide) (by decide) ⟨rfl, NN136, KK136, U136, FC136, FM136⟩
def own_l54 : List Value := [(.int (32 : Int32))]
theorem own_n54 : own_l54.length = 1 := rfl
def own_l67 : List Value := [(.int (104 : Int32)), (.int (97 : Int32)), (.int (115 : Int32)), (.int (32 : Int32)), (.int (108 : Int32)), (.int (101 : Int32)), (.int (97 : Int32)), (.int (115 : Int32)), (.int (101 : Int32)), (.int (115 : Int32)), (.int (32 : Int32)), (.int (102 : Int32)), (.int (111 : Int32)), (.int (114 : Int32)), (.int (32 : Int32)), (.int (97 : Int32)), (.int (32 : Int32)), (.int (115 : Int32)), (.int (116 : Int32)), (.int (114 : Int32)), (.int (101 : Int32)), (.int (97 : Int32)), (.int (109 : Int32)), (.int (32 : Int32)), (.int (105 : Int32)), (.int (116 : Int32)), (.int (32 : Int32)), (.int (100 : Int32)), (.int (105 : Int32)), (.int (100 : Int32)), (.int (32 : Int32)), (.int (110 : Int32)), (.int (111 : Int32)), (.int (116 : Int32)), (.int (32 : Int32)), (.int (114 : Int32)), (.int (101 : Int32)), (.int (99 : Int32)), (.int (111 : Int32)), (.int (114 : Int32)), (.int (100 : Int32))]
theorem own_n67 : own_l67.length = 41 := rfl
def own_l69 : List Value := [(.int (104 : Int32)), (.int (97 : Int32)), (.int (115 : Int32)), (.int (32 : Int32)), (.int (105 : Int32)), (.int (116 : Int32)), (.int (115 : Int32)), (.int (32 : Int32)), (.int (108 : Int32)), (.int (101 : Int32)), (.int (97 : Int32)), (.int (115 : Int32)), (.int (101 : Int32)), (.int (115 : Int32)), (.int (32 : Int32)), (.int (102 : Int32)), (.int (111 : Int32)), (.int (114 : Int32)), (.int (32 : Int32)), (.int (115 : Int32)), (.int (116 : Int32)), (.int (114 : Int32)), (.int (101 : Int32)), (.int (97 : Int32)), (.int (109 : Int32)), (.int (32 : Int32))]
theorem own_n69 : own_l69.length = 26 := rfl
def own_l71 : List Value := [(.int (44 : Int32)), (.int (32 : Int32)), (.int (110 : Int32)), (.int (111 : Int32)), (.int (116 : Int32)), (.int (32 : Int32))]
theorem own_n71 : own_l71.length = 6 := rfl
def own_l73 : List Value := [(.int (97 : Int32)), (.int (112 : Int32)), (.int (112 : Int32)), (.int (108 : Int32)), (.int (105 : Int32)), (.int (99 : Int32)), (.int (97 : Int32)), (.int (116 : Int32)), (.int (105 : Int32)), (.int (111 : Int32)), (.int (110 : Int32)), (.int (32 : Int32))]
theorem own_n73 : own_l73.length = 12 := rfl
def own_l75 : List Value := [(.int (59 : Int32)), (.int (32 : Int32)), (.int (114 : Int32)), (.int (101 : Int32)), (.int (97 : Int32)), (.int (100 : Int32)), (.int (32 : Int32))]
theorem own_n75 : own_l75.length = 7 := rfl
def own_l77 : List Value := [(.int (32 : Int32)), (.int (117 : Int32)), (.int (110 : Int32)), (.int (100 : Int32)), (.int (101 : Int32)), (.int (114 : Int32)), (.int (32 : Int32)), (.int (97 : Int32)), (.int (110 : Int32)), (.int (111 : Int32)), (.int (116 : Int32)), (.int (104 : Int32)), (.int (101 : Int32)), (.int (114 : Int32)), (.int (32 : Int32)), (.int (97 : Int32)), (.int (112 : Int32)), (.int (112 : Int32)), (.int (108 : Int32)), (.int (105 : Int32)), (.int (99 : Int32)), (.int (97 : Int32)), (.int (116 : Int32)), (.int (105 : Int32)), (.int (111 : Int32)), (.int (110 : Int32)), (.int (78 : Int32)), (.int (97 : Int32)), (.int (109 : Int32)), (.int (101 : Int32))]
theorem own_n77 : own_l77.length = 30 := rfl
theorem d_jdk_78_method_6_0 : decode jdk_78_method_6_code 0 = .ok (.aload_n 0, 1) := by decide +kernel
theorem d_jdk_78_method_6_1 : decode jdk_78_method_6_code 1 = .ok (.getfield 31, 3) := by decide +kernel
theorem d_jdk_78_method_6_4 : decode jdk_78_method_6_code 4 = .ok (.areturn, 1) := by decide +kernel
theorem opl_rm_msg : plainFor (⟨"java/lang/Throwable", "getMessage", "()Ljava/lang/String;"⟩ : MethodName) = true := plainFor_of_name (by first | (simp [plainName, overriddenIn]; done) | decide +kernel)
set_option maxRecDepth 65536 in
set_option maxHeartbeats 40000000 in
theorem rm_msg (l : Launch) (Z : State) (a0 : Array Value) (hw : ∀ d ∈ tables_1, d.before a0 Z = true) (ws : List Jvm.Cond) (a b : Addr) (h0 : Heap) (F : Fld Z h0 a "java/lang/Throwable" "detailMessage" "Ljava/lang/String;" (.ref b)) :
    Con l Z (⟨"java/lang/Throwable", "getMessage", "()Ljava/lang/String;"⟩ : MethodName) jdk_78_method_6_code 1 (some (.object "java/lang/String")) ws ({ frames := 0, cells := 0, slots := 0, locals := 0 } : Room) #[(.ref a)] h0 (fun v h L => v = some (.ref b) ∧ L = [] ∧ h = h0) := by
  refine Con.intro opl_rm_msg ?_
  intro p e s m below meth c s₁ hx hby hml hown hret hlk hZ hnm X0 e0
  refine OGo.cast (g' := (mkF m 0 #[.val (.ref a)] [])) (by first | (simp [entryFrame, mkF, argsToLocals, Value.category]; done) | rfl) ?_
  show OGo p e below _ s₁ (mkF m 0 #[.val (.ref a)] [])
  refine OGo.step (fun _ k => XS.aloadN X0.here hx rfl (hb hby d_jdk_78_method_6_0) rfl rfl k) ?_
  show OGo p e below _ s₁ (mkF m 1 #[.val (.ref a)] [(.ref a)])
  obtain ⟨T137, X137, e137, st137⟩ := getF X0 hx hZ hown (host := "") (Or.inl (hw _ (List.mem_of_getElem? (i := 250) rfl))) Via.refl e0 F (g := (mkF m 1 #[.val (.ref a)] [(.ref a)])) rfl rfl (hb hby d_jdk_78_method_6_1)
  refine OGo.step st137 ?_
  show OGo p e below _ T137 (mkF m 4 #[.val (.ref a)] [(.ref b)])
  exact OGo.ret X137 hx (t := (.object "java/lang/String")) hret hlk rfl (Or.inr (Or.inr (Or.inr (Or.inr ⟨rfl, rfl, rfl⟩)))) (hb hby d_jdk_78_method_6_4) (by decide) (by decide) ⟨rfl, rfl, e137⟩
theorem d_prog_4_method_6_0 : decode prog_4_method_6_code 0 = .ok (.aload_n 1, 1) := by decide +kernel
theorem d_prog_4_method_6_1 : decode prog_4_method_6_code 1 = .ok (.ifnonnull 8, 3) := by decide +kernel
theorem d_prog_4_method_6_4 : decode prog_4_method_6_code 4 = .ok (.ldc 67, 2) := by decide +kernel
theorem d_prog_4_method_6_6 : decode prog_4_method_6_code 6 = .ok (.goto 31, 3) := by decide +kernel
theorem d_prog_4_method_6_37 : decode prog_4_method_6_code 37 = .ok (.astore_n 3, 1) := by decide +kernel
theorem d_prog_4_method_6_38 : decode prog_4_method_6_code 38 = .ok (.new 30, 3) := by decide +kernel
theorem d_prog_4_method_6_41 : decode prog_4_method_6_code 41 = .ok (.dup, 1) := by decide +kernel
theorem d_prog_4_method_6_42 : decode prog_4_method_6_code 42 = .ok (.new 32, 3) := by decide +kernel
theorem d_prog_4_method_6_45 : decode prog_4_method_6_code 45 = .ok (.dup, 1) := by decide +kernel
theorem opd_25 : parseMethodDescriptor "()V" = some ⟨[], none⟩ := by decide +kernel
theorem d_prog_4_method_6_46 : decode prog_4_method_6_code 46 = .ok (.invokespecial 34, 3) := by decide +kernel
theorem d_prog_4_method_6_49 : decode prog_4_method_6_code 49 = .ok (.ldc 73, 2) := by decide +kernel
theorem opd_26 : parseMethodDescriptor "(Ljava/lang/String;)Ljava/lang/StringBuilder;" = some ⟨[(.object "java/lang/String")], some (.object "java/lang/StringBuilder")⟩ := by decide +kernel
theorem d_prog_4_method_6_51 : decode prog_4_method_6_code 51 = .ok (.invokevirtual 39, 3) := by decide +kernel
theorem d_prog_4_method_6_54 : decode prog_4_method_6_code 54 = .ok (.aload_n 0, 1) := by decide +kernel
theorem d_prog_4_method_6_55 : decode prog_4_method_6_code 55 = .ok (.invokevirtual 39, 3) := by decide +kernel
theorem d_prog_4_method_6_58 : decode prog_4_method_6_code 58 = .ok (.ldc 54, 2) := by decide +kernel
theorem d_prog_4_method_6_60 : decode prog_4_method_6_code 60 = .ok (.invokevirtual 39, 3) := by decide +kernel
theorem d_prog_4_method_6_63 : decode prog_4_method_6_code 63 = .ok (.aload_n 3, 1) := by decide +kernel
theorem d_prog_4_method_6_64 : decode prog_4_method_6_code 64 = .ok (.invokevirtual 39, 3) := by decide +kernel
theorem d_prog_4_method_6_67 : decode prog_4_method_6_code 67 = .ok (.ldc 75, 2) := by decide +kernel
theorem d_prog_4_method_6_69 : decode prog_4_method_6_code 69 = .ok (.invokevirtual 39, 3) := by decide +kernel
theorem d_prog_4_method_6_72 : decode prog_4_method_6_code 72 = .ok (.aload_n 2, 1) := by decide +kernel
theorem d_prog_4_method_6_73 : decode prog_4_method_6_code 73 = .ok (.invokevirtual 39, 3) := by decide +kernel
theorem d_prog_4_method_6_76 : decode prog_4_method_6_code 76 = .ok (.ldc 77, 2) := by decide +kernel
theorem d_prog_4_method_6_78 : decode prog_4_method_6_code 78 = .ok (.invokevirtual 39, 3) := by decide +kernel
theorem opd_27 : parseMethodDescriptor "()Ljava/lang/String;" = some ⟨[], some (.object "java/lang/String")⟩ := by decide +kernel
theorem d_prog_4_method_6_81 : decode prog_4_method_6_code 81 = .ok (.invokevirtual 45, 3) := by decide +kernel
theorem d_prog_4_method_6_84 : decode prog_4_method_6_code 84 = .ok (.invokespecial 79, 3) := by decide +kernel
theorem d_prog_4_method_6_87 : decode prog_4_method_6_code 87 = .ok (.areturn, 1) := by decide +kernel
theorem opl_rm_oosN : plainFor (⟨"com/example/drain_shards/drainshards/DrainShardsException", "ofOtherStream", "(Ljava/lang/String;Ljava/lang/String;Ljava/lang/String;)Lcom/example/drain_shards/drainshards/DrainShardsException;"⟩ : MethodName) = true := plainFor_of_name (by first | (simp [plainName, overriddenIn]; done) | decide +kernel)
set_option maxRecDepth 65536 in
set_option maxHeartbeats 40000000 in
theorem rm_oosN (l : Launch) (Z : State) (a0 : Array Value) (hw : ∀ d ∈ tables_1, d.before a0 Z = true) (ws : List Jvm.Cond) (a1 e1 a3 e3 : Addr) (k1 k3 : ClassId) (us ts : List Value) (zc : Int32) (wf : Value) (n0 : Nat) (u0 u1 : RefV) (h0 : Heap) (SS : own_SS Z zc wf) (O : Old Z n0 h0) (TS : own_TS Z u0 u1) (hlt : l.stackTraces = true) (I : STI Z h0 a1 e1 k1 us) (I3 : STI Z h0 a3 e3 k3 ts) (hus : us.length = 1) (hts : ts.length = 1) :
    ConK l Z own_EL (⟨"com/example/drain_shards/drainshards/DrainShardsException", "ofOtherStream", "(Ljava/lang/String;Ljava/lang/String;Ljava/lang/String;)Lcom/example/drain_shards/drainshards/DrainShardsException;"⟩ : MethodName) prog_4_method_6_code 4 (some (.object "com/example/drain_shards/drainshards/DrainShardsException")) ws ({ frames := 7, cells := 23, slots := 4860, locals := 104 } : Room) #[(.ref a1), .null, (.ref a3)] h0 (fun v h L => ∃ x m r k', v = some (.ref x) ∧ h0.size ≤ x ∧ h0.size ≤ m ∧ Fr n0 L ∧ Keep h0 h [] ∧ Exa Z h x "com/example/drain_shards/drainshards/DrainShardsException" ∧ Unt h x ∧ Fld Z h x "java/lang/Throwable" "cause" "Ljava/lang/Throwable;" (.ref x) ∧ Fld Z h x "java/lang/Throwable" "detailMessage" "Ljava/lang/String;" (.ref m) ∧ STI Z h m r k' (own_l73 ++ us ++ own_l54 ++ (own_l67) ++ own_l75 ++ ts ++ own_l77)) := by
  refine ConK.intro opl_rm_oosN ?_
  intro p e s m below meth c s₁ hx hby hml hown hret hlk hZ hnm X0 e0 hs0 hS0 H0 R0 hTK hBl
  have SS' := SS
  obtain ⟨hzc, SC, hwf, SF⟩ := SS
  have Z0 : n0 ≤ h0.size := O.1 ▸ O.2.1
  have N0 := Fr.nil n0
  obtain ⟨IE, IC, IF, IV⟩ := I
  obtain ⟨I3E, I3C, I3F, I3V⟩ := I3
  refine OGo.cast (g' := (mkF m 0 #[.val (.ref a1), .val .null, .val (.ref a3), .unset] [])) (by first | (simp [entryFrame, mkF, argsToLocals, Value.category]; done) | rfl) ?_
  show OGo p e below _ s₁ (mkF m 0 #[.val (.ref a1), .val .null, .val (.ref a3), .unset] [])
  refine OGo.step (fun _ k => XS.aloadN X0.here hx rfl (hb hby d_prog_4_method_6_0) rfl rfl k) ?_
  show OGo p e below _ s₁ (mkF m 1 #[.val (.ref a1), .val .null, .val (.ref a3), .unset] [.null])
  refine OGo.step (fun _ k => XS.ifnonnullNo X0.here hx rfl (hb hby d_prog_4_method_6_1) rfl k) ?_
  show OGo p e below _ s₁ (mkF m 4 #[.val (.ref a1), .val .null, .val (.ref a3), .unset] [])
  obtain ⟨a138, T138, h138, kk138, d138, kd138, X138, e138, E138, hS138, hk138, hZ138, hown138, A138, C138, F138, V138, lt138, ltd138, CR138, Li138, sf138, st138⟩ := ldcCH X0 hx hZ hown (hw _ (List.mem_of_getElem? (i := 271) rfl)) (own_wS hw) e0 hS0 (Nat.zero_le _) (own_hEL hw) (List.mem_of_getElem? (i := 1) rfl) H0 (vs := [(.int (104 : Int32)), (.int (97 : Int32)), (.int (115 : Int32)), (.int (32 : Int32)), (.int (108 : Int32)), (.int (101 : Int32)), (.int (97 : Int32)), (.int (115 : Int32)), (.int (101 : Int32)), (.int (115 : Int32)), (.int (32 : Int32)), (.int (102 : Int32)), (.int (111 : Int32)), (.int (114 : Int32)), (.int (32 : Int32)), (.int (97 : Int32)), (.int (32 : Int32)), (.int (115 : Int32)), (.int (116 : Int32)), (.int (114 : Int32)), (.int (101 : Int32)), (.int (97 : Int32)), (.int (109 : Int32)), (.int (32 : Int32)), (.int (105 : Int32)), (.int (116 : Int32)), (.int (32 : Int32)), (.int (100 : Int32)), (.int (105 : Int32)), (.int (100 : Int32)), (.int (32 : Int32)), (.int (110 : Int32)), (.int (111 : Int32)), (.int (116 : Int32)), (.int (32 : Int32)), (.int (114 : Int32)), (.int (101 : Int32)), (.int (99 : Int32)), (.int (111 : Int32)), (.int (114 : Int32)), (.int (100 : Int32))]) (z := (41 : Int32)) (by decide) (by decide) (by decide) (g := (mkF m 4 #[.val (.ref a1), .val .null, .val (.ref a3), .unset] [])) rfl (hb hby d_prog_4_method_6_4) (n := 164) (by decide) (by decide) (by decide) (by decide)
  have KK138 : Keep h0 h138 [] := (Keep.refl h0 []).ext E138
  have H138 := CR138.1
  have R138 := CHr.trans R0 CR138
  refine OGo.step st138 ?_
  show OGo p e below _ T138 (mkF m 6 #[.val (.ref a1), .val .null, .val (.ref a3), .unset] [(.ref a138)])
  have LV138 : Arv Z h138 d138 kd138 .byte (Int32.ofNat own_l67.length) own_l67 (.int (0 : Int32)) := V138
  refine OGo.step (fun _ k => XS.goto X138.here hx rfl (pc0 := 6) (pc' := 37) rfl (hb hby d_prog_4_method_6_6) (by decide) (by decide) k) ?_
  show OGo p e below _ T138 (mkF m 37 #[.val (.ref a1), .val .null, .val (.ref a3), .unset] [(.ref a138)])
  refine OGo.step (fun _ k => XS.astoreN X138.here hx rfl (hb hby d_prog_4_method_6_37) rfl rfl (l' := #[.val (.ref a1), .val .null, .val (.ref a3), .val (.ref a138)]) rfl k) ?_
  show OGo p e below _ T138 (mkF m 38 #[.val (.ref a1), .val .null, .val (.ref a3), .val (.ref a138)] [])
  obtain ⟨T139, h139, X139, e139, E139, A139, D139, UN139, st139⟩ := newO X138 hx hZ138 hown138 (hw _ (List.mem_of_getElem? (i := 182) rfl)) (hw _ (List.mem_of_getElem? (i := 183) rfl)) (hw _ (List.mem_of_getElem? (i := 46) rfl)) e138 (g := (mkF m 38 #[.val (.ref a1), .val .null, .val (.ref a3), .val (.ref a138)] [])) rfl (hb hby d_prog_4_method_6_38) (by decide) (by decide)
  obtain ⟨b139, g139⟩ : ∃ z, z = h138.size := ⟨_, rfl⟩
  rw [← g139] at A139 D139 UN139 st139
  have sz_b139 : h0.size ≤ b139 := Nat.le_trans KK138.1 (Nat.le_of_eq g139.symm)
  have KK139 : Keep h0 h139 [] := KK138.ext E139
  have H139 := CHv.ext E139 H138
  have R139 := CHr.trans R138 (CHr.ext E139 H138)
  have F139_cause : Fld Z h139 b139 "java/lang/Throwable" "cause" "Ljava/lang/Throwable;" .null := D139 (Or.inl (hw _ (List.mem_of_getElem? (i := 216) rfl))) (ty := (.object "java/lang/Throwable")) (by decide)
  have F139_stackTrace : Fld Z h139 b139 "java/lang/Throwable" "stackTrace" "[Ljava/lang/StackTraceElement;" .null := D139 (Or.inl (hw _ (List.mem_of_getElem? (i := 219) rfl))) (ty := (.array (.object "java/lang/StackTraceElement"))) (by decide)
  have F139_suppressedExceptions : Fld Z h139 b139 "java/lang/Throwable" "suppressedExceptions" "Ljava/util/List;" .null := D139 (Or.inl (hw _ (List.mem_of_getElem? (i := 222) rfl))) (ty := (.object "java/util/List")) (by decide)
  have F139_detailMessage : Fld Z h139 b139 "java/lang/Throwable" "detailMessage" "Ljava/lang/String;" .null := D139 (Or.inl (hw _ (List.mem_of_getElem? (i := 246) rfl))) (ty := (.object "java/lang/String")) (by decide)
  have F139_backtrace : Fld Z h139 b139 "java/lang/Throwable" "backtrace" "Ljava/lang/Object;" .null := D139 (Or.inl (hw _ (List.mem_of_getElem? (i := 247) rfl))) (ty := (.object "java/lang/Object")) (by decide)
  refine OGo.step st139 ?_
  show OGo p e below _ T139 (mkF m 41 #[.val (.ref a1), .val .null, .val (.ref a3), .val (.ref a138)] [(.ref b139)])
  refine OGo.step (fun _ k => XS.dup X139.here hx rfl (hb hby d_prog_4_method_6_41) rfl rfl k) ?_
  show OGo p e below _ T139 (mkF m 42 #[.val (.ref a1), .val .null, .val (.ref a3), .val (.ref a138)] [(.ref b139), (.ref b139)])
  obtain ⟨T140, h140, X140, e140, E140, A140, D140, UN140, st140⟩ := newO X139 hx hZ138 hown138 (hw _ (List.mem_of_getElem? (i := 48) rfl)) (hw _ (List.mem_of_getElem? (i := 49) rfl)) (hw _ (List.mem_of_getElem? (i := 50) rfl)) e139 (g := (mkF m 42 #[.val (.ref a1), .val .null, .val (.ref a3), .val (.ref a138)] [(.ref b139), (.ref b139)])) rfl (hb hby d_prog_4_method_6_42) (by decide) (by decide)
  obtain ⟨b140, g140⟩ : ∃ z, z = h139.size := ⟨_, rfl⟩
  rw [← g140] at A140 D140 UN140 st140
  have sz_b140 : h0.size ≤ b140 := Nat.le_trans KK139.1 (Nat.le_of_eq g140.symm)
  have KK140 : Keep h0 h140 [] := KK139.ext E140
  have H140 := CHv.ext E140 H139
  have R140 := CHr.trans R139 (CHr.ext E140 H139)
  have F140_value : Fld Z h140 b140 "java/lang/AbstractStringBuilder" "value" "[B" .null := D140 (Or.inl (hw _ (List.mem_of_getElem? (i := 63) rfl))) (ty := (.array .byte)) (by decide)
  have F140_coder : Fld Z h140 b140 "java/lang/AbstractStringBuilder" "coder" "B" (.int (0 : Int32)) := D140 (Or.inl (hw _ (List.mem_of_getElem? (i := 65) rfl))) (ty := .byte) (by decide)
  have F140_count : Fld Z h140 b140 "java/lang/AbstractStringBuilder" "count" "I" (.int (0 : Int32)) := D140 (Or.inl (hw _ (List.mem_of_getElem? (i := 90) rfl))) (ty := .int) (by decide)
  refine OGo.step st140 ?_
  show OGo p e below _ T140 (mkF m 45 #[.val (.ref a1), .val .null, .val (.ref a3), .val (.ref a138)] [(.ref b140), (.ref b139), (.ref b139)])
  refine OGo.step (fun _ k => XS.dup X140.here hx rfl (hb hby d_prog_4_method_6_45) rfl rfl k) ?_
  show OGo p e below _ T140 (mkF m 46 #[.val (.ref a1), .val .null, .val (.ref a3), .val (.ref a138)] [(.ref b140), (.ref b140), (.ref b139), (.ref b139)])
  have q141 := (Safe.ext E140 H139 (Safe.new (Nat.le_of_eq g140.symm)))
  obtain ⟨v142, T142, L142, X142, hQ142, st142⟩ := icall X140 hx hZ138 rfl hown138 (hw _ (List.mem_of_getElem? (i := 51) rfl)) (hw _ (List.mem_of_getElem? (i := 52) rfl)) (hw _ (List.mem_of_getElem? (i := 50) rfl)) (hw _ (List.mem_of_getElem? (i := 53) rfl)) (by decide) (W := 3) (rm_sbInit l Z a0 hw [] b140 zc wf n0 h140 SS' (((O.ext E138).ext E139).ext E140) A140 F140_value F140_coder F140_count (Nat.le_trans Z0 sz_b140)) e140 (by decide) (by decide) (by decide) (by decide) (g := (mkF m 46 #[.val (.ref a1), .val .null, .val (.ref a3), .val (.ref a138)] [(.ref b140), (.ref b140), (.ref b139), (.ref b139)])) rfl (by rw [hml]; rfl) (a := b140) (argsL := []) (rest := [(.ref b140), (.ref b139), (.ref b139)]) opd_25 rfl rfl rfl (by show 2 * 0 + _ ≤ _; exact Nat.le_of_eq rfl) (hb hby d_prog_4_method_6_46)
  obtain ⟨rfl, N142, K142, d142, k142, sd142, J142⟩ := hQ142
  have NN142 := Fr.app N0 N142
  have KK142 : Keep h0 T142.heap [] := KK140.trans K142 (allS (Or.inr sz_b140) all0)
  have H142 := CHv.keep K142 (sfS q141 sf0) H140
  have R142 := CHr.trans R140 (CHr.keep K142 (sfS q141 sf0) H140)
  have sz_d142 : h0.size ≤ d142 := Nat.le_trans KK140.1 sd142
  refine OGo.step st142 ?_
  show OGo p e below _ T142 (mkF m 49 #[.val (.ref a1), .val .null, .val (.ref a3), .val (.ref a138)] [(.ref b140), (.ref b139), (.ref b139)])
  obtain ⟨JE142, JF142, JC142, JN142, JV142, JX142⟩ := J142
  have nb142 : b140 ≠ d142 := JE142.neArv JV142 (hw _ (List.mem_of_getElem? (i := 49) rfl))
  obtain ⟨a143, T143, h143, kk143, d143, kd143, X143, e143, E143, hS143, hk143, hZ143, hown143, A143, C143, F143, V143, lt143, ltd143, CR143, Li143, sf143, st143⟩ := ldcCH X142 hx hZ138 hown138 (hw _ (List.mem_of_getElem? (i := 184) rfl)) (own_wS hw) rfl hS138 (Nat.le_trans (Nat.le_trans (Nat.le_trans hk138 E139.1) E140.1) K142.1) (own_hEL hw) (List.mem_of_getElem? (i := 4) rfl) H142 (vs := [(.int (97 : Int32)), (.int (112 : Int32)), (.int (112 : Int32)), (.int (108 : Int32)), (.int (105 : Int32)), (.int (99 : Int32)), (.int (97 : Int32)), (.int (116 : Int32)), (.int (105 : Int32)), (.int (111 : Int32)), (.int (110 : Int32)), (.int (32 : Int32))]) (z := (12 : Int32)) (by decide) (by decide) (by decide) (g := (mkF m 49 #[.val (.ref a1), .val .null, .val (.ref a3), .val (.ref a138)] [(.ref b140), (.ref b139), (.ref b139)])) rfl (hb hby d_prog_4_method_6_49) (n := 48) (by decide) (by decide) (by decide) (by decide)
  have KK143 : Keep h0 h143 [] := KK142.ext E143
  have H143 := CR143.1
  have R143 := CHr.trans R142 CR143
  refine OGo.step st143 ?_
  show OGo p e below _ T143 (mkF m 51 #[.val (.ref a1), .val .null, .val (.ref a3), .val (.ref a138)] [(.ref a143), (.ref b140), (.ref b139), (.ref b139)])
  have LV143 : Arv Z h143 d143 kd143 .byte (Int32.ofNat own_l73.length) own_l73 (.int (0 : Int32)) := V143
  have q144 := (CHr.safe CR143 JV142.lt (Safe.keep K142 (sfS q141 sf0) H140 (Safe.new sd142)))
  have q145 := (((((O.ext E138).ext E139).ext E140).keep K142 (allS (Nat.le_trans Z0 sz_b140) all0)).ext E143)
  have q146 := (CHr.safe CR143 JF142.lt (Safe.keep K142 (sfS q141 sf0) H140 q141))
  obtain ⟨v147, T147, L147, X147, hQ147, st147⟩ := vcall X143 hx hZ143 hown143 (hw _ (List.mem_of_getElem? (i := 69) rfl)) (hw _ (List.mem_of_getElem? (i := 70) rfl)) (hw _ (List.mem_of_getElem? (i := 72) rfl)) rfl (hw _ (List.mem_of_getElem? (i := 72) rfl)) (hw _ (List.mem_of_getElem? (i := 71) rfl)) (hw _ (List.mem_of_getElem? (i := 50) rfl)) (hw _ (List.mem_of_getElem? (i := 73) rfl)) (by decide) (W := 2) (rm_sbAppG l Z a0 hw [] b140 d142 k142 16 [] a143 d143 kd143 own_l73 zc wf n0 h143 SS' q145 ⟨(JE142.ext E143), (JF142.ext E143), (JC142.ext E143), (JN142.ext E143), (JV142.ext E143), (JX142.ext E143)⟩ (by decide) (by rw [List.length_nil]; decide) ⟨A143, C143, F143, LV143⟩ (Nat.le_trans Z0 sz_b140) (Nat.le_trans Z0 sz_d142) (by rw [List.length_nil, own_n73]; decide) (Ne.symm (sf143 _ q144).2) (Ne.symm (sf143 _ q146).1)) e143 (by decide) (by decide) (by decide) (by decide) (g := (mkF m 51 #[.val (.ref a1), .val .null, .val (.ref a3), .val (.ref a138)] [(.ref a143), (.ref b140), (.ref b139), (.ref b139)])) rfl (by rw [hml]; rfl) (JE142.ext E143) (argsL := [(.ref a143)]) (rest := [(.ref b139), (.ref b139)]) opd_26 rfl rfl rfl (by show 2 * 0 + _ ≤ _; exact Nat.le_of_eq rfl) (hb hby d_prog_4_method_6_51)
  obtain ⟨rfl, N147, K147, d147, k147, hd147, J147⟩ := hQ147
  have NN147 := Fr.app NN142 N147
  have KK147 : Keep h0 T147.heap [] := KK143.trans K147 (allS (Or.inr sz_b140) (allS (Or.inr sz_d142) all0))
  have H147 := CHv.keep K147 (sfS q146 (sfS q144 sf0)) H143
  have R147 := CHr.trans R143 (CHr.keep K147 (sfS q146 (sfS q144 sf0)) H143)
  refine OGo.step st147 ?_
  show OGo p e below _ T147 (mkF m 54 #[.val (.ref a1), .val .null, .val (.ref a3), .val (.ref a138)] [(.ref b140), (.ref b139), (.ref b139)])
  obtain ⟨W147, hW147⟩ : ∃ z, z = [] ++ own_l73 := ⟨_, rfl⟩
  have lW147 : W147.length = 12 := by rw [hW147, List.length_append, List.length_nil, own_n73]
  rw [show own_cap 16 ([].length + own_l73.length) = 16 from (by rw [List.length_nil, own_n73]; rfl), ← hW147] at J147
  obtain ⟨JE147, JF147, JC147, JN147, JV147, JX147⟩ := J147
  have sz_d147 : h0.size ≤ d147 := hd147.elim (fun q => q ▸ sz_d142) (fun q => Nat.le_trans KK143.1 q)
  have nb147 : b140 ≠ d147 := JE147.neArv JV147 (hw _ (List.mem_of_getElem? (i := 49) rfl))
  refine OGo.step (fun _ k => XS.aloadN X147.here hx rfl (hb hby d_prog_4_method_6_54) rfl rfl k) ?_
  show OGo p e below _ T147 (mkF m 55 #[.val (.ref a1), .val .null, .val (.ref a3), .val (.ref a138)] [(.ref a1), (.ref b140), (.ref b139), (.ref b139)])
  have q148 := (Safe.keep K147 (sfS q146 (sfS q144 sf0)) H143 (own_safeAlt q144 hd147))
  have q149 := (q145.keep K147 (allS (Nat.le_trans Z0 sz_b140) (allS (Nat.le_trans Z0 sz_d142) all0)))
  have q150 := ((((((IE.ext E138).ext E139).ext E140).keep K142).ext E143).keep K147)
  have q151 := ((((((IC.ext E138).ext E139).ext E140).keep K142 (ninS (Nat.ne_of_lt (Nat.lt_of_lt_of_le IE.lt sz_b140)) nin0)).ext E143).keep K147 (ninS (Nat.ne_of_lt (Nat.lt_of_lt_of_le IE.lt sz_b140)) (ninS (Nat.ne_of_lt (Nat.lt_of_lt_of_le IE.lt sz_d142)) nin0)))
  have q152 := ((((((IF.ext E138).ext E139).ext E140).keep K142 (ninS (Nat.ne_of_lt (Nat.lt_of_lt_of_le IE.lt sz_b140)) nin0)).ext E143).keep K147 (ninS (Nat.ne_of_lt (Nat.lt_of_lt_of_le IE.lt sz_b140)) (ninS (Nat.ne_of_lt (Nat.lt_of_lt_of_le IE.lt sz_d142)) nin0)))
  have q153 := ((((((IV.ext E138).ext E139).ext E140).keep K142 (ninS (Nat.ne_of_lt (Nat.lt_of_lt_of_le IV.lt sz_b140)) nin0)).ext E143).keep K147 (ninS (Nat.ne_of_lt (Nat.lt_of_lt_of_le IV.lt sz_b140)) (ninS (Nat.ne_of_lt (Nat.lt_of_lt_of_le IV.lt sz_d142)) nin0)))
  have q154 := (Safe.keep K147 (sfS q146 (sfS q144 sf0)) H143 q146)
  obtain ⟨v155, T155, L155, X155, hQ155, st155⟩ := vcall X147 hx hZ143 hown143 (hw _ (List.mem_of_getElem? (i := 69) rfl)) (hw _ (List.mem_of_getElem? (i := 70) rfl)) (hw _ (List.mem_of_getElem? (i := 72) rfl)) rfl (hw _ (List.mem_of_getElem? (i := 72) rfl)) (hw _ (List.mem_of_getElem? (i := 71) rfl)) (hw _ (List.mem_of_getElem? (i := 50) rfl)) (hw _ (List.mem_of_getElem? (i := 73) rfl)) (by decide) (W := 2) (rm_sbAppG l Z a0 hw [] b140 d147 k147 16 W147 a1 e1 k1 us zc wf n0 T147.heap SS' q149 ⟨JE147, JF147, JC147, JN147, JV147, JX147⟩ (by decide) (by rw [lW147]; decide) ⟨q150, q151, q152, q153⟩ (Nat.le_trans Z0 sz_b140) (Nat.le_trans Z0 sz_d147) (by rw [lW147, hus]; decide) (Nat.ne_of_lt (Nat.lt_of_lt_of_le IV.lt sz_d147)) (Nat.ne_of_lt (Nat.lt_of_lt_of_le IE.lt sz_b140))) rfl (by decide) (by decide) (by decide) (by decide) (g := (mkF m 55 #[.val (.ref a1), .val .null, .val (.ref a3), .val (.ref a138)] [(.ref a1), (.ref b140), (.ref b139), (.ref b139)])) rfl (by rw [hml]; rfl) JE147 (argsL := [(.ref a1)]) (rest := [(.ref b139), (.ref b139)]) opd_26 rfl rfl rfl (by show 2 * 0 + _ ≤ _; exact Nat.le_of_eq rfl) (hb hby d_prog_4_method_6_55)
  obtain ⟨rfl, N155, K155, d155, k155, hd155, J155⟩ := hQ155
  have NN155 := Fr.app NN147 N155
  have KK155 : Keep h0 T155.heap [] := KK147.trans K155 (allS (Or.inr sz_b140) (allS (Or.inr sz_d147) all0))
  have H155 := CHv.keep K155 (sfS q154 (sfS q148 sf0)) H147
  have R155 := CHr.trans R147 (CHr.keep K155 (sfS q154 (sfS q148 sf0)) H147)
  refine OGo.step st155 ?_
  show OGo p e below _ T155 (mkF m 58 #[.val (.ref a1), .val .null, .val (.ref a3), .val (.ref a138)] [(.ref b140), (.ref b139), (.ref b139)])
  obtain ⟨W155, hW155⟩ : ∃ z, z = W147 ++ us := ⟨_, rfl⟩
  have lW155 : W155.length = 13 := by rw [hW155, List.length_append, lW147, hus]
  rw [show own_cap 16 (W147.length + us.length) = 16 from (by rw [lW147, hus]; rfl), ← hW155] at J155
  obtain ⟨JE155, JF155, JC155, JN155, JV155, JX155⟩ := J155
  have sz_d155 : h0.size ≤ d155 := hd155.elim (fun q => q ▸ sz_d147) (fun q => Nat.le_trans KK147.1 q)
  have nb155 : b140 ≠ d155 := JE155.neArv JV155 (hw _ (List.mem_of_getElem? (i := 49) rfl))
  obtain ⟨a156, T156, h156, kk156, d156, kd156, X156, e156, E156, hS156, hk156, hZ156, hown156, A156, C156, F156, V156, lt156, ltd156, CR156, Li156, sf156, st156⟩ := ldcCH X155 hx hZ143 hown143 (hw _ (List.mem_of_getElem? (i := 185) rfl)) (own_wS hw) rfl hS143 (Nat.le_trans (Nat.le_trans hk143 K147.1) K155.1) (own_hEL hw) (List.mem_of_getElem? (i := 0) rfl) H155 (vs := [(.int (32 : Int32))]) (z := (1 : Int32)) (by decide) (by decide) (by decide) (g := (mkF m 58 #[.val (.ref a1), .val .null, .val (.ref a3), .val (.ref a138)] [(.ref b140), (.ref b139), (.ref b139)])) rfl (hb hby d_prog_4_method_6_58) (n := 4) (by decide) (by decide) (by decide) (by decide)
  have KK156 : Keep h0 h156 [] := KK155.ext E156
  have H156 := CR156.1
  have R156 := CHr.trans R155 CR156
  refine OGo.step st156 ?_
  show OGo p e below _ T156 (mkF m 60 #[.val (.ref a1), .val .null, .val (.ref a3), .val (.ref a138)] [(.ref a156), (.ref b140), (.ref b139), (.ref b139)])
  have LV156 : Arv Z h156 d156 kd156 .byte (Int32.ofNat own_l54.length) own_l54 (.int (0 : Int32)) := V156
  have q157 := (CHr.safe CR156 JV155.lt (Safe.keep K155 (sfS q154 (sfS q148 sf0)) H147 (own_safeAlt q148 hd155)))
  have q158 := ((q149.keep K155 (allS (Nat.le_trans Z0 sz_b140) (allS (Nat.le_trans Z0 sz_d147) all0))).ext E156)
  have q159 := (CHr.safe CR156 JF155.lt (Safe.keep K155 (sfS q154 (sfS q148 sf0)) H147 q154))
  obtain ⟨v160, T160, L160, X160, hQ160, st160⟩ := vcall X156 hx hZ156 hown156 (hw _ (List.mem_of_getElem? (i := 69) rfl)) (hw _ (List.mem_of_getElem? (i := 70) rfl)) (hw _ (List.mem_of_getElem? (i := 72) rfl)) rfl (hw _ (List.mem_of_getElem? (i := 72) rfl)) (hw _ (List.mem_of_getElem? (i := 71) rfl)) (hw _ (List.mem_of_getElem? (i := 50) rfl)) (hw _ (List.mem_of_getElem? (i := 73) rfl)) (by decide) (W := 2) (rm_sbAppG l Z a0 hw [] b140 d155 k155 16 W155 a156 d156 kd156 own_l54 zc wf n0 h156 SS' q158 ⟨(JE155.ext E156), (JF155.ext E156), (JC155.ext E156), (JN155.ext E156), (JV155.ext E156), (JX155.ext E156)⟩ (by decide) (by rw [lW155]; decide) ⟨A156, C156, F156, LV156⟩ (Nat.le_trans Z0 sz_b140) (Nat.le_trans Z0 sz_d155) (by rw [lW155, own_n54]; decide) (Ne.symm (sf156 _ q157).2) (Ne.symm (sf156 _ q159).1)) e156 (by decide) (by decide) (by decide) (by decide) (g := (mkF m 60 #[.val (.ref a1), .val .null, .val (.ref a3), .val (.ref a138)] [(.ref a156), (.ref b140), (.ref b139), (.ref b139)])) rfl (by rw [hml]; rfl) (JE155.ext E156) (argsL := [(.ref a156)]) (rest := [(.ref b139), (.ref b139)]) opd_26 rfl rfl rfl (by show 2 * 0 + _ ≤ _; exact Nat.le_of_eq rfl) (hb hby d_prog_4_method_6_60)
  obtain ⟨rfl, N160, K160, d160, k160, hd160, J160⟩ := hQ160
  have NN160 := Fr.app NN155 N160
  have KK160 : Keep h0 T160.heap [] := KK156.trans K160 (allS (Or.inr sz_b140) (allS (Or.inr sz_d155) all0))
  have H160 := CHv.keep K160 (sfS q159 (sfS q157 sf0)) H156
  have R160 := CHr.trans R156 (CHr.keep K160 (sfS q159 (sfS q157 sf0)) H156)
  refine OGo.step st160 ?_
  show OGo p e below _ T160 (mkF m 63 #[.val (.ref a1), .val .null, .val (.ref a3), .val (.ref a138)] [(.ref b140), (.ref b139), (.ref b139)])
  obtain ⟨W160, hW160⟩ : ∃ z, z = W155 ++ own_l54 := ⟨_, rfl⟩
  have lW160 : W160.length = 14 := by rw [hW160, List.length_append, lW155, own_n54]
  rw [show own_cap 16 (W155.length + own_l54.length) = 16 from (by rw [lW155, own_n54]; rfl), ← hW160] at J160
  obtain ⟨JE160, JF160, JC160, JN160, JV160, JX160⟩ := J160
  have sz_d160 : h0.size ≤ d160 := hd160.elim (fun q => q ▸ sz_d155) (fun q => Nat.le_trans KK156.1 q)
  have nb160 : b140 ≠ d160 := JE160.neArv JV160 (hw _ (List.mem_of_getElem? (i := 49) rfl))
  refine OGo.step (fun _ k => XS.aloadN X160.here hx rfl (hb hby d_prog_4_method_6_63) rfl rfl k) ?_
  show OGo p e below _ T160 (mkF m 64 #[.val (.ref a1), .val .null, .val (.ref a3), .val (.ref a138)] [(.ref a138), (.ref b140), (.ref b139), (.ref b139)])
  have q161 := (Safe.keep K160 (sfS q159 (sfS q157 sf0)) H156 (own_safeAlt q157 hd160))
  have q162 := (q158.keep K160 (allS (Nat.le_trans Z0 sz_b140) (allS (Nat.le_trans Z0 sz_d155) all0)))
  have q163 := ((((((((A138.ext E139).ext E140).keep K142).ext E143).keep K147).keep K155).ext E156).keep K160)
  have ne164 : a138 ≠ b140 := (Nat.ne_of_lt (Nat.lt_of_lt_of_le (A138.ext E139).lt (Nat.le_of_eq g140.symm)))
  have ne165 : a138 ≠ d142 := (Nat.ne_of_lt (Nat.lt_of_lt_of_le ((A138.ext E139).ext E140).lt sd142))
  have ne166 : a138 ≠ d147 := (own_nen ((((A138.ext E139).ext E140).keep K142).ext E143).lt ne165 hd147)
  have ne167 : a138 ≠ d155 := (own_nen (((((A138.ext E139).ext E140).keep K142).ext E143).keep K147).lt ne166 hd155)
  have q168 := ((((((((C138.ext E139).ext E140).keep K142 (ninS ne164 nin0)).ext E143).keep K147 (ninS ne164 (ninS ne165 nin0))).keep K155 (ninS ne164 (ninS ne166 nin0))).ext E156).keep K160 (ninS ne164 (ninS ne167 nin0)))
  have q169 := ((((((((F138.ext E139).ext E140).keep K142 (ninS ne164 nin0)).ext E143).keep K147 (ninS ne164 (ninS ne165 nin0))).keep K155 (ninS ne164 (ninS ne166 nin0))).ext E156).keep K160 (ninS ne164 (ninS ne167 nin0)))
  have ne170 : d138 ≠ b140 := (Nat.ne_of_lt (Nat.lt_of_lt_of_le (LV138.ext E139).lt (Nat.le_of_eq g140.symm)))
  have ne171 : d138 ≠ d142 := (Nat.ne_of_lt (Nat.lt_of_lt_of_le ((LV138.ext E139).ext E140).lt sd142))
  have ne172 : d138 ≠ d147 := (own_nen ((((LV138.ext E139).ext E140).keep K142 (ninS ne170 nin0)).ext E143).lt ne171 hd147)
  have ne173 : d138 ≠ d155 := (own_nen (((((LV138.ext E139).ext E140).keep K142 (ninS ne170 nin0)).ext E143).keep K147 (ninS ne170 (ninS ne171 nin0))).lt ne172 hd155)
  have q174 := ((((((((LV138.ext E139).ext E140).keep K142 (ninS ne170 nin0)).ext E143).keep K147 (ninS ne170 (ninS ne171 nin0))).keep K155 (ninS ne170 (ninS ne172 nin0))).ext E156).keep K160 (ninS ne170 (ninS ne173 nin0)))
  have ne175 : d138 ≠ d160 := (own_nen (((((((LV138.ext E139).ext E140).keep K142 (ninS ne170 nin0)).ext E143).keep K147 (ninS ne170 (ninS ne171 nin0))).keep K155 (ninS ne170 (ninS ne172 nin0))).ext E156).lt ne173 hd160)
  have q176 := (Safe.keep K160 (sfS q159 (sfS q157 sf0)) H156 q159)
  obtain ⟨v177, T177, L177, X177, hQ177, st177⟩ := vcall X160 hx hZ156 hown156 (hw _ (List.mem_of_getElem? (i := 69) rfl)) (hw _ (List.mem_of_getElem? (i := 70) rfl)) (hw _ (List.mem_of_getElem? (i := 72) rfl)) rfl (hw _ (List.mem_of_getElem? (i := 72) rfl)) (hw _ (List.mem_of_getElem? (i := 71) rfl)) (hw _ (List.mem_of_getElem? (i := 50) rfl)) (hw _ (List.mem_of_getElem? (i := 73) rfl)) (by decide) (W := 2) (rm_sbAppG l Z a0 hw [] b140 d160 k160 16 W160 a138 d138 kd138 own_l67 zc wf n0 T160.heap SS' q162 ⟨JE160, JF160, JC160, JN160, JV160, JX160⟩ (by decide) (by rw [lW160]; decide) ⟨q163, q168, q169, q174⟩ (Nat.le_trans Z0 sz_b140) (Nat.le_trans Z0 sz_d160) (by rw [lW160, own_n67]; decide) ne175 ne164) rfl (by decide) (by decide) (by decide) (by decide) (g := (mkF m 64 #[.val (.ref a1), .val .null, .val (.ref a3), .val (.ref a138)] [(.ref a138), (.ref b140), (.ref b139), (.ref b139)])) rfl (by rw [hml]; rfl) JE160 (argsL := [(.ref a138)]) (rest := [(.ref b139), (.ref b139)]) opd_26 rfl rfl rfl (by show 2 * 0 + _ ≤ _; exact Nat.le_of_eq rfl) (hb hby d_prog_4_method_6_64)
  obtain ⟨rfl, N177, K177, d177, k177, hd177, J177⟩ := hQ177
  have NN177 := Fr.app NN160 N177
  have KK177 : Keep h0 T177.heap [] := KK160.trans K177 (allS (Or.inr sz_b140) (allS (Or.inr sz_d160) all0))
  have H177 := CHv.keep K177 (sfS q176 (sfS q161 sf0)) H160
  have R177 := CHr.trans R160 (CHr.keep K177 (sfS q176 (sfS q161 sf0)) H160)
  refine OGo.step st177 ?_
  show OGo p e below _ T177 (mkF m 67 #[.val (.ref a1), .val .null, .val (.ref a3), .val (.ref a138)] [(.ref b140), (.ref b139), (.ref b139)])
  obtain ⟨W177, hW177⟩ : ∃ z, z = W160 ++ own_l67 := ⟨_, rfl⟩
  have lW177 : W177.length = 55 := by rw [hW177, List.length_append, lW160, own_n67]
  rw [show own_cap 16 (W160.length + own_l67.length) = 55 from (by rw [lW160, own_n67]; rfl), ← hW177] at J177
  obtain ⟨JE177, JF177, JC177, JN177, JV177, JX177⟩ := J177
  have sz_d177 : h0.size ≤ d177 := hd177.elim (fun q => q ▸ sz_d160) (fun q => Nat.le_trans KK160.1 q)
  have nb177 : b140 ≠ d177 := JE177.neArv JV177 (hw _ (List.mem_of_getElem? (i := 49) rfl))
  obtain ⟨a178, T178, h178, kk178, d178, kd178, X178, e178, E178, hS178, hk178, hZ178, hown178, A178, C178, F178, V178, lt178, ltd178, CR178, Li178, sf178, st178⟩ := ldcCH X177 hx hZ156 hown156 (hw _ (List.mem_of_getElem? (i := 186) rfl)) (own_wS hw) rfl hS156 (Nat.le_trans (Nat.le_trans hk156 K160.1) K177.1) (own_hEL hw) (List.mem_of_getElem? (i := 5) rfl) H177 (vs := [(.int (59 : Int32)), (.int (32 : Int32)), (.int (114 : Int32)), (.int (101 : Int32)), (.int (97 : Int32)), (.int (100 : Int32)), (.int (32 : Int32))]) (z := (7 : Int32)) (by decide) (by decide) (by decide) (g := (mkF m 67 #[.val (.ref a1), .val .null, .val (.ref a3), .val (.ref a138)] [(.ref b140), (.ref b139), (.ref b139)])) rfl (hb hby d_prog_4_method_6_67) (n := 28) (by decide) (by decide) (by decide) (by decide)
  have KK178 : Keep h0 h178 [] := KK177.ext E178
  have H178 := CR178.1
  have R178 := CHr.trans R177 CR178
  refine OGo.step st178 ?_
  show OGo p e below _ T178 (mkF m 69 #[.val (.ref a1), .val .null, .val (.ref a3), .val (.ref a138)] [(.ref a178), (.ref b140), (.ref b139), (.ref b139)])
  have LV178 : Arv Z h178 d178 kd178 .byte (Int32.ofNat own_l75.length) own_l75 (.int (0 : Int32)) := V178
  have q179 := (CHr.safe CR178 JV177.lt (Safe.keep K177 (sfS q176 (sfS q161 sf0)) H160 (own_safeAlt q161 hd177)))
  have q180 := ((q162.keep K177 (allS (Nat.le_trans Z0 sz_b140) (allS (Nat.le_trans Z0 sz_d160) all0))).ext E178)
  have q181 := (CHr.safe CR178 JF177.lt (Safe.keep K177 (sfS q176 (sfS q161 sf0)) H160 q176))
  obtain ⟨v182, T182, L182, X182, hQ182, st182⟩ := vcall X178 hx hZ178 hown178 (hw _ (List.mem_of_getElem? (i := 69) rfl)) (hw _ (List.mem_of_getElem? (i := 70) rfl)) (hw _ (List.mem_of_getElem? (i := 72) rfl)) rfl (hw _ (List.mem_of_getElem? (i := 72) rfl)) (hw _ (List.mem_of_getElem? (i := 71) rfl)) (hw _ (List.mem_of_getElem? (i := 50) rfl)) (hw _ (List.mem_of_getElem? (i := 73) rfl)) (by decide) (W := 2) (rm_sbAppG l Z a0 hw [] b140 d177 k177 55 W177 a178 d178 kd178 own_l75 zc wf n0 h178 SS' q180 ⟨(JE177.ext E178), (JF177.ext E178), (JC177.ext E178), (JN177.ext E178), (JV177.ext E178), (JX177.ext E178)⟩ (by decide) (by rw [lW177]; decide) ⟨A178, C178, F178, LV178⟩ (Nat.le_trans Z0 sz_b140) (Nat.le_trans Z0 sz_d177) (by rw [lW177, own_n75]; decide) (Ne.symm (sf178 _ q179).2) (Ne.symm (sf178 _ q181).1)) e178 (by decide) (by decide) (by decide) (by decide) (g := (mkF m 69 #[.val (.ref a1), .val .null, .val (.ref a3), .val (.ref a138)] [(.ref a178), (.ref b140), (.ref b139), (.ref b139)])) rfl (by rw [hml]; rfl) (JE177.ext E178) (argsL := [(.ref a178)]) (rest := [(.ref b139), (.ref b139)]) opd_26 rfl rfl rfl (by show 2 * 0 + _ ≤ _; exact Nat.le_of_eq rfl) (hb hby d_prog_4_method_6_69)
  obtain ⟨rfl, N182, K182, d182, k182, hd182, J182⟩ := hQ182
  have NN182 := Fr.app NN177 N182
  have KK182 : Keep h0 T182.heap [] := KK178.trans K182 (allS (Or.inr sz_b140) (allS (Or.inr sz_d177) all0))
  have H182 := CHv.keep K182 (sfS q181 (sfS q179 sf0)) H178
  have R182 := CHr.trans R178 (CHr.keep K182 (sfS q181 (sfS q179 sf0)) H178)
  refine OGo.step st182 ?_
  show OGo p e below _ T182 (mkF m 72 #[.val (.ref a1), .val .null, .val (.ref a3), .val (.ref a138)] [(.ref b140), (.ref b139), (.ref b139)])
  obtain ⟨W182, hW182⟩ : ∃ z, z = W177 ++ own_l75 := ⟨_, rfl⟩
  have lW182 : W182.length = 62 := by rw [hW182, List.length_append, lW177, own_n75]
  rw [show own_cap 55 (W177.length + own_l75.length) = 112 from (by rw [lW177, own_n75]; rfl), ← hW182] at J182
  obtain ⟨JE182, JF182, JC182, JN182, JV182, JX182⟩ := J182
  have sz_d182 : h0.size ≤ d182 := hd182.elim (fun q => q ▸ sz_d177) (fun q => Nat.le_trans KK178.1 q)
  have nb182 : b140 ≠ d182 := JE182.neArv JV182 (hw _ (List.mem_of_getElem? (i := 49) rfl))
  refine OGo.step (fun _ k => XS.aloadN X182.here hx rfl (hb hby d_prog_4_method_6_72) rfl rfl k) ?_
  show OGo p e below _ T182 (mkF m 73 #[.val (.ref a1), .val .null, .val (.ref a3), .val (.ref a138)] [(.ref a3), (.ref b140), (.ref b139), (.ref b139)])
  have q183 := (Safe.keep K182 (sfS q181 (sfS q179 sf0)) H178 (own_safeAlt q179 hd182))
  have q184 := (q180.keep K182 (allS (Nat.le_trans Z0 sz_b140) (allS (Nat.le_trans Z0 sz_d177) all0)))
  have q185 := ((((((((((((I3E.ext E138).ext E139).ext E140).keep K142).ext E143).keep K147).keep K155).ext E156).keep K160).keep K177).ext E178).keep K182)
  have q186 := ((((((((((((I3C.ext E138).ext E139).ext E140).keep K142 (ninS (Nat.ne_of_lt (Nat.lt_of_lt_of_le I3E.lt sz_b140)) nin0)).ext E143).keep K147 (ninS (Nat.ne_of_lt (Nat.lt_of_lt_of_le I3E.lt sz_b140)) (ninS (Nat.ne_of_lt (Nat.lt_of_lt_of_le I3E.lt sz_d142)) nin0))).keep K155 (ninS (Nat.ne_of_lt (Nat.lt_of_lt_of_le I3E.lt sz_b140)) (ninS (Nat.ne_of_lt (Nat.lt_of_lt_of_le I3E.lt sz_d147)) nin0))).ext E156).keep K160 (ninS (Nat.ne_of_lt (Nat.lt_of_lt_of_le I3E.lt sz_b140)) (ninS (Nat.ne_of_lt (Nat.lt_of_lt_of_le I3E.lt sz_d155)) nin0))).keep K177 (ninS (Nat.ne_of_lt (Nat.lt_of_lt_of_le I3E.lt sz_b140)) (ninS (Nat.ne_of_lt (Nat.lt_of_lt_of_le I3E.lt sz_d160)) nin0))).ext E178).keep K182 (ninS (Nat.ne_of_lt (Nat.lt_of_lt_of_le I3E.lt sz_b140)) (ninS (Nat.ne_of_lt (Nat.lt_of_lt_of_le I3E.lt sz_d177)) nin0)))
  have q187 := ((((((((((((I3F.ext E138).ext E139).ext E140).keep K142 (ninS (Nat.ne_of_lt (Nat.lt_of_lt_of_le I3E.lt sz_b140)) nin0)).ext E143).keep K147 (ninS (Nat.ne_of_lt (Nat.lt_of_lt_of_le I3E.lt sz_b140)) (ninS (Nat.ne_of_lt (Nat.lt_of_lt_of_le I3E.lt sz_d142)) nin0))).keep K155 (ninS (Nat.ne_of_lt (Nat.lt_of_lt_of_le I3E.lt sz_b140)) (ninS (Nat.ne_of_lt (Nat.lt_of_lt_of_le I3E.lt sz_d147)) nin0))).ext E156).keep K160 (ninS (Nat.ne_of_lt (Nat.lt_of_lt_of_le I3E.lt sz_b140)) (ninS (Nat.ne_of_lt (Nat.lt_of_lt_of_le I3E.lt sz_d155)) nin0))).keep K177 (ninS (Nat.ne_of_lt (Nat.lt_of_lt_of_le I3E.lt sz_b140)) (ninS (Nat.ne_of_lt (Nat.lt_of_lt_of_le I3E.lt sz_d160)) nin0))).ext E178).keep K182 (ninS (Nat.ne_of_lt (Nat.lt_of_lt_of_le I3E.lt sz_b140)) (ninS (Nat.ne_of_lt (Nat.lt_of_lt_of_le I3E.lt sz_d177)) nin0)))
  have q188 := ((((((((((((I3V.ext E138).ext E139).ext E140).keep K142 (ninS (Nat.ne_of_lt (Nat.lt_of_lt_of_le I3V.lt sz_b140)) nin0)).ext E143).keep K147 (ninS (Nat.ne_of_lt (Nat.lt_of_lt_of_le I3V.lt sz_b140)) (ninS (Nat.ne_of_lt (Nat.lt_of_lt_of_le I3V.lt sz_d142)) nin0))).keep K155 (ninS (Nat.ne_of_lt (Nat.lt_of_lt_of_le I3V.lt sz_b140)) (ninS (Nat.ne_of_lt (Nat.lt_of_lt_of_le I3V.lt sz_d147)) nin0))).ext E156).keep K160 (ninS (Nat.ne_of_lt (Nat.lt_of_lt_of_le I3V.lt sz_b140)) (ninS (Nat.ne_of_lt (Nat.lt_of_lt_of_le I3V.lt sz_d155)) nin0))).keep K177 (ninS (Nat.ne_of_lt (Nat.lt_of_lt_of_le I3V.lt sz_b140)) (ninS (Nat.ne_of_lt (Nat.lt_of_lt_of_le I3V.lt sz_d160)) nin0))).ext E178).keep K182 (ninS (Nat.ne_of_lt (Nat.lt_of_lt_of_le I3V.lt sz_b140)) (ninS (Nat.ne_of_lt (Nat.lt_of_lt_of_le I3V.lt sz_d177)) nin0)))
  have q189 := (Safe.keep K182 (sfS q181 (sfS q179 sf0)) H178 q181)
  obtain ⟨v190, T190, L190, X190, hQ190, st190⟩ := vcall X182 hx hZ178 hown178 (hw _ (List.mem_of_getElem? (i := 69) rfl)) (hw _ (List.mem_of_getElem? (i := 70) rfl)) (hw _ (List.mem_of_getElem? (i := 72) rfl)) rfl (hw _ (List.mem_of_getElem? (i := 72) rfl)) (hw _ (List.mem_of_getElem? (i := 71) rfl)) (hw _ (List.mem_of_getElem? (i := 50) rfl)) (hw _ (List.mem_of_getElem? (i := 73) rfl)) (by decide) (W := 2) (rm_sbAppG l Z a0 hw [] b140 d182 k182 112 W182 a3 e3 k3 ts zc wf n0 T182.heap SS' q184 ⟨JE182, JF182, JC182, JN182, JV182, JX182⟩ (by decide) (by rw [lW182]; decide) ⟨q185, q186, q187, q188⟩ (Nat.le_trans Z0 sz_b140) (Nat.le_trans Z0 sz_d182) (by rw [lW182, hts]; decide) (Nat.ne_of_lt (Nat.lt_of_lt_of_le I3V.lt sz_d182)) (Nat.ne_of_lt (Nat.lt_of_lt_of_le I3E.lt sz_b140))) rfl (by decide) (by decide) (by decide) (by decide) (g := (mkF m 73 #[.val (.ref a1), .val .null, .val (.ref a3), .val (.ref a138)] [(.ref a3), (.ref b140), (.ref b139), (.ref b139)])) rfl (by rw [hml]; rfl) JE182 (argsL := [(.ref a3)]) (rest := [(.ref b139), (.ref b139)]) opd_26 rfl rfl rfl (by show 2 * 0 + _ ≤ _; exact Nat.le_of_eq rfl) (hb hby d_prog_4_method_6_73)
  obtain ⟨rfl, N190, K190, d190, k190, hd190, J190⟩ := hQ190
  have NN190 := Fr.app NN182 N190
  have KK190 : Keep h0 T190.heap [] := KK182.trans K190 (allS (Or.inr sz_b140) (allS (Or.inr sz_d182) all0))
  have H190 := CHv.keep K190 (sfS q189 (sfS q183 sf0)) H182
  have R190 := CHr.trans R182 (CHr.keep K190 (sfS q189 (sfS q183 sf0)) H182)
  refine OGo.step st190 ?_
  show OGo p e below _ T190 (mkF m 76 #[.val (.ref a1), .val .null, .val (.ref a3), .val (.ref a138)] [(.ref b140), (.ref b139), (.ref b139)])
  obtain ⟨W190, hW190⟩ : ∃ z, z = W182 ++ ts := ⟨_, rfl⟩
  have lW190 : W190.length = 63 := by rw [hW190, List.length_append, lW182, hts]
  rw [show own_cap 112 (W182.length + ts.length) = 112 from (by rw [lW182, hts]; rfl), ← hW190] at J190
  obtain ⟨JE190, JF190, JC190, JN190, JV190, JX190⟩ := J190
  have sz_d190 : h0.size ≤ d190 := hd190.elim (fun q => q ▸ sz_d182) (fun q => Nat.le_trans KK182.1 q)
  have nb190 : b140 ≠ d190 := JE190.neArv JV190 (hw _ (List.mem_of_getElem? (i := 49) rfl))
  obtain ⟨a191, T191, h191, kk191, d191, kd191, X191, e191, E191, hS191, hk191, hZ191, hown191, A191, C191, F191, V191, lt191, ltd191, CR191, Li191, sf191, st191⟩ := ldcCH X190 hx hZ178 hown178 (hw _ (List.mem_of_getElem? (i := 187) rfl)) (own_wS hw) rfl hS178 (Nat.le_trans (Nat.le_trans hk178 K182.1) K190.1) (own_hEL hw) (List.mem_of_getElem? (i := 6) rfl) H190 (vs := [(.int (32 : Int32)), (.int (117 : Int32)), (.int (110 : Int32)), (.int (100 : Int32)), (.int (101 : Int32)), (.int (114 : Int32)), (.int (32 : Int32)), (.int (97 : Int32)), (.int (110 : Int32)), (.int (111 : Int32)), (.int (116 : Int32)), (.int (104 : Int32)), (.int (101 : Int32)), (.int (114 : Int32)), (.int (32 : Int32)), (.int (97 : Int32)), (.int (112 : Int32)), (.int (112 : Int32)), (.int (108 : Int32)), (.int (105 : Int32)), (.int (99 : Int32)), (.int (97 : Int32)), (.int (116 : Int32)), (.int (105 : Int32)), (.int (111 : Int32)), (.int (110 : Int32)), (.int (78 : Int32)), (.int (97 : Int32)), (.int (109 : Int32)), (.int (101 : Int32))]) (z := (30 : Int32)) (by decide) (by decide) (by decide) (g := (mkF m 76 #[.val (.ref a1), .val .null, .val (.ref a3), .val (.ref a138)] [(.ref b140), (.ref b139), (.ref b139)])) rfl (hb hby d_prog_4_method_6_76) (n := 120) (by decide) (by decide) (by decide) (by decide)
  have KK191 : Keep h0 h191 [] := KK190.ext E191
  have H191 := CR191.1
  have R191 := CHr.trans R190 CR191
  refine OGo.step st191 ?_
  show OGo p e below _ T191 (mkF m 78 #[.val (.ref a1), .val .null, .val (.ref a3), .val (.ref a138)] [(.ref a191), (.ref b140), (.ref b139), (.ref b139)])
  have LV191 : Arv Z h191 d191 kd191 .byte (Int32.ofNat own_l77.length) own_l77 (.int (0 : Int32)) := V191
  have q192 := (CHr.safe CR191 JV190.lt (Safe.keep K190 (sfS q189 (sfS q183 sf0)) H182 (own_safeAlt q183 hd190)))
  have q193 := ((q184.keep K190 (allS (Nat.le_trans Z0 sz_b140) (allS (Nat.le_trans Z0 sz_d182) all0))).ext E191)
  have q194 := (CHr.safe CR191 JF190.lt (Safe.keep K190 (sfS q189 (sfS q183 sf0)) H182 q189))
  obtain ⟨v195, T195, L195, X195, hQ195, st195⟩ := vcall X191 hx hZ191 hown191 (hw _ (List.mem_of_getElem? (i := 69) rfl)) (hw _ (List.mem_of_getElem? (i := 70) rfl)) (hw _ (List.mem_of_getElem? (i := 72) rfl)) rfl (hw _ (List.mem_of_getElem? (i := 72) rfl)) (hw _ (List.mem_of_getElem? (i := 71) rfl)) (hw _ (List.mem_of_getElem? (i := 50) rfl)) (hw _ (List.mem_of_getElem? (i := 73) rfl)) (by decide) (W := 2) (rm_sbAppG l Z a0 hw [] b140 d190 k190 112 W190 a191 d191 kd191 own_l77 zc wf n0 h191 SS' q193 ⟨(JE190.ext E191), (JF190.ext E191), (JC190.ext E191), (JN190.ext E191), (JV190.ext E191), (JX190.ext E191)⟩ (by decide) (by rw [lW190]; decide) ⟨A191, C191, F191, LV191⟩ (Nat.le_trans Z0 sz_b140) (Nat.le_trans Z0 sz_d190) (by rw [lW190, own_n77]; decide) (Ne.symm (sf191 _ q192).2) (Ne.symm (sf191 _ q194).1)) e191 (by decide) (by decide) (by decide) (by decide) (g := (mkF m 78 #[.val (.ref a1), .val .null, .val (.ref a3), .val (.ref a138)] [(.ref a191), (.ref b140), (.ref b139), (.ref b139)])) rfl (by rw [hml]; rfl) (JE190.ext E191) (argsL := [(.ref a191)]) (rest := [(.ref b139), (.ref b139)]) opd_26 rfl rfl rfl (by show 2 * 0 + _ ≤ _; exact Nat.le_of_eq rfl) (hb hby d_prog_4_method_6_78)
  obtain ⟨rfl, N195, K195, d195, k195, hd195, J195⟩ := hQ195
  have NN195 := Fr.app NN190 N195
  have KK195 : Keep h0 T195.heap [] := KK191.trans K195 (allS (Or.inr sz_b140) (allS (Or.inr sz_d190) all0))
  have H195 := CHv.keep K195 (sfS q194 (sfS q192 sf0)) H191
  have R195 := CHr.trans R191 (CHr.keep K195 (sfS q194 (sfS q192 sf0)) H191)
  refine OGo.step st195 ?_
  show OGo p e below _ T195 (mkF m 81 #[.val (.ref a1), .val .null, .val (.ref a3), .val (.ref a138)] [(.ref b140), (.ref b139), (.ref b139)])
  obtain ⟨W195, hW195⟩ : ∃ z, z = W190 ++ own_l77 := ⟨_, rfl⟩
  have lW195 : W195.length = 93 := by rw [hW195, List.length_append, lW190, own_n77]
  rw [show own_cap 112 (W190.length + own_l77.length) = 112 from (by rw [lW190, own_n77]; rfl), ← hW195] at J195
  obtain ⟨JE195, JF195, JC195, JN195, JV195, JX195⟩ := J195
  have sz_d195 : h0.size ≤ d195 := hd195.elim (fun q => q ▸ sz_d190) (fun q => Nat.le_trans KK191.1 q)
  have nb195 : b140 ≠ d195 := JE195.neArv JV195 (hw _ (List.mem_of_getElem? (i := 49) rfl))
  have q196 := (q193.keep K195 (allS (Nat.le_trans Z0 sz_b140) (allS (Nat.le_trans Z0 sz_d190) all0)))
  obtain ⟨v197, T197, L197, X197, hQ197, st197⟩ := vcall X195 hx hZ191 hown191 (hw _ (List.mem_of_getElem? (i := 140) rfl)) (hw _ (List.mem_of_getElem? (i := 141) rfl)) (hw _ (List.mem_of_getElem? (i := 143) rfl)) rfl (hw _ (List.mem_of_getElem? (i := 143) rfl)) (hw _ (List.mem_of_getElem? (i := 142) rfl)) (hw _ (List.mem_of_getElem? (i := 50) rfl)) (hw _ (List.mem_of_getElem? (i := 144) rfl)) (by decide) (W := 2) (rm_toS l Z a0 hw [] b140 d195 k195 112 W195 zc wf n0 T195.heap SS' q196 ⟨JE195, JF195, JC195, JN195, JV195, JX195⟩ (by decide) (by rw [lW195]; decide) (by rw [lW195]; decide)) rfl (by decide) (by decide) (by decide) (by decide) (g := (mkF m 81 #[.val (.ref a1), .val .null, .val (.ref a3), .val (.ref a138)] [(.ref b140), (.ref b139), (.ref b139)])) rfl (by rw [hml]; rfl) JE195 (argsL := []) (rest := [(.ref b139), (.ref b139)]) opd_27 rfl rfl rfl (by show 2 * 0 + _ ≤ _; exact Nat.le_of_eq rfl) (hb hby d_prog_4_method_6_81)
  obtain ⟨a197, r197, kr197, rfl, sa197, sr197, N197, K197, I197⟩ := hQ197
  have NN197 := Fr.app NN195 N197
  have KK197 : Keep h0 T197.heap [] := KK195.trans K197 all0
  have H197 := CHv.keep K197 sf0 H195
  have R197 := CHr.trans R195 (CHr.keep K197 sf0 H195)
  have sz_a197 : h0.size ≤ a197 := Nat.le_trans KK195.1 sa197
  have sz_r197 : h0.size ≤ r197 := Nat.le_trans KK195.1 sr197
  refine OGo.step st197 ?_
  show OGo p e below _ T197 (mkF m 84 #[.val (.ref a1), .val .null, .val (.ref a3), .val (.ref a138)] [(.ref a197), (.ref b139), (.ref b139)])
  obtain ⟨IE197, IC197, IF197, IV197⟩ := I197
  have q198 := ((((((((((((((A139.ext E140).keep K142).ext E143).keep K147).keep K155).ext E156).keep K160).keep K177).ext E178).keep K182).keep K190).ext E191).keep K195).keep K197)
  have ne199 : b139 ≠ b140 := (Nat.ne_of_lt (Nat.lt_of_lt_of_le F139_cause.lt (Nat.le_of_eq g140.symm)))
  have ne200 : b139 ≠ d142 := (Nat.ne_of_lt (Nat.lt_of_lt_of_le (F139_cause.ext E140).lt sd142))
  have ne201 : b139 ≠ d147 := (own_nen (((F139_cause.ext E140).keep K142 (ninS ne199 nin0)).ext E143).lt ne200 hd147)
  have ne202 : b139 ≠ d155 := (own_nen ((((F139_cause.ext E140).keep K142 (ninS ne199 nin0)).ext E143).keep K147 (ninS ne199 (ninS ne200 nin0))).lt ne201 hd155)
  have ne203 : b139 ≠ d160 := (own_nen ((((((F139_cause.ext E140).keep K142 (ninS ne199 nin0)).ext E143).keep K147 (ninS ne199 (ninS ne200 nin0))).keep K155 (ninS ne199 (ninS ne201 nin0))).ext E156).lt ne202 hd160)
  have ne204 : b139 ≠ d177 := (own_nen (((((((F139_cause.ext E140).keep K142 (ninS ne199 nin0)).ext E143).keep K147 (ninS ne199 (ninS ne200 nin0))).keep K155 (ninS ne199 (ninS ne201 nin0))).ext E156).keep K160 (ninS ne199 (ninS ne202 nin0))).lt ne203 hd177)
  have ne205 : b139 ≠ d182 := (own_nen (((((((((F139_cause.ext E140).keep K142 (ninS ne199 nin0)).ext E143).keep K147 (ninS ne199 (ninS ne200 nin0))).keep K155 (ninS ne199 (ninS ne201 nin0))).ext E156).keep K160 (ninS ne199 (ninS ne202 nin0))).keep K177 (ninS ne199 (ninS ne203 nin0))).ext E178).lt ne204 hd182)
  have ne206 : b139 ≠ d190 := (own_nen ((((((((((F139_cause.ext E140).keep K142 (ninS ne199 nin0)).ext E143).keep K147 (ninS ne199 (ninS ne200 nin0))).keep K155 (ninS ne199 (ninS ne201 nin0))).ext E156).keep K160 (ninS ne199 (ninS ne202 nin0))).keep K177 (ninS ne199 (ninS ne203 nin0))).ext E178).keep K182 (ninS ne199 (ninS ne204 nin0))).lt ne205 hd190)
  have q207 := (Unt.keep K197 nin0 (Unt.keep K195 (ninS ne199 (ninS ne206 nin0)) (Unt.ext E191 (Unt.keep K190 (ninS ne199 (ninS ne205 nin0)) (Unt.keep K182 (ninS ne199 (ninS ne204 nin0)) (Unt.ext E178 (Unt.keep K177 (ninS ne199 (ninS ne203 nin0)) (Unt.keep K160 (ninS ne199 (ninS ne202 nin0)) (Unt.ext E156 (Unt.keep K155 (ninS ne199 (ninS ne201 nin0)) (Unt.keep K147 (ninS ne199 (ninS ne200 nin0)) (Unt.ext E143 (Unt.keep K142 (ninS ne199 nin0) (Unt.ext E140 UN139))))))))))))))
  have q208 := ((((((((((((((F139_cause.ext E140).keep K142 (ninS ne199 nin0)).ext E143).keep K147 (ninS ne199 (ninS ne200 nin0))).keep K155 (ninS ne199 (ninS ne201 nin0))).ext E156).keep K160 (ninS ne199 (ninS ne202 nin0))).keep K177 (ninS ne199 (ninS ne203 nin0))).ext E178).keep K182 (ninS ne199 (ninS ne204 nin0))).keep K190 (ninS ne199 (ninS ne205 nin0))).ext E191).keep K195 (ninS ne199 (ninS ne206 nin0))).keep K197 nin0)
  have q209 := ((((((((((((((F139_stackTrace.ext E140).keep K142 (ninS ne199 nin0)).ext E143).keep K147 (ninS ne199 (ninS ne200 nin0))).keep K155 (ninS ne199 (ninS ne201 nin0))).ext E156).keep K160 (ninS ne199 (ninS ne202 nin0))).keep K177 (ninS ne199 (ninS ne203 nin0))).ext E178).keep K182 (ninS ne199 (ninS ne204 nin0))).keep K190 (ninS ne199 (ninS ne205 nin0))).ext E191).keep K195 (ninS ne199 (ninS ne206 nin0))).keep K197 nin0)
  have q210 := ((((((((((((((F139_suppressedExceptions.ext E140).keep K142 (ninS ne199 nin0)).ext E143).keep K147 (ninS ne199 (ninS ne200 nin0))).keep K155 (ninS ne199 (ninS ne201 nin0))).ext E156).keep K160 (ninS ne199 (ninS ne202 nin0))).keep K177 (ninS ne199 (ninS ne203 nin0))).ext E178).keep K182 (ninS ne199 (ninS ne204 nin0))).keep K190 (ninS ne199 (ninS ne205 nin0))).ext E191).keep K195 (ninS ne199 (ninS ne206 nin0))).keep K197 nin0)
  have q211 := ((((((((((((((F139_backtrace.ext E140).keep K142 (ninS ne199 nin0)).ext E143).keep K147 (ninS ne199 (ninS ne200 nin0))).keep K155 (ninS ne199 (ninS ne201 nin0))).ext E156).keep K160 (ninS ne199 (ninS ne202 nin0))).keep K177 (ninS ne199 (ninS ne203 nin0))).ext E178).keep K182 (ninS ne199 (ninS ne204 nin0))).keep K190 (ninS ne199 (ninS ne205 nin0))).ext E191).keep K195 (ninS ne199 (ninS ne206 nin0))).keep K197 nin0)
  have q212 := ((((((((((((((F139_detailMessage.ext E140).keep K142 (ninS ne199 nin0)).ext E143).keep K147 (ninS ne199 (ninS ne200 nin0))).keep K155 (ninS ne199 (ninS ne201 nin0))).ext E156).keep K160 (ninS ne199 (ninS ne202 nin0))).keep K177 (ninS ne199 (ninS ne203 nin0))).ext E178).keep K182 (ninS ne199 (ninS ne204 nin0))).keep K190 (ninS ne199 (ninS ne205 nin0))).ext E191).keep K195 (ninS ne199 (ninS ne206 nin0))).keep K197 nin0)
  obtain ⟨v213, T213, L213, kk213, X213, hS213, hk213, hZ213, hown213, CR213, hQ213, st213⟩ := icallK X197 hx hZ191 rfl hown191 (own_hEL hw) hS191 (Nat.le_trans (Nat.le_trans hk191 K195.1) K197.1) H197 hTK hBl (hw _ (List.mem_of_getElem? (i := 194) rfl)) (hw _ (List.mem_of_getElem? (i := 195) rfl)) (hw _ (List.mem_of_getElem? (i := 46) rfl)) (hw _ (List.mem_of_getElem? (i := 196) rfl)) (by decide) (W := 1) (rm_dse l Z a0 hw [] b139 a197 zc wf n0 u0 u1 T197.heap SS' (q196.keep K197 all0) TS hlt q198 q207 (Nat.le_trans Z0 sz_b139) q208 q209 q210 q211 q212) rfl (by decide) (by decide) (by decide) (by decide) (g := (mkF m 84 #[.val (.ref a1), .val .null, .val (.ref a3), .val (.ref a138)] [(.ref a197), (.ref b139), (.ref b139)])) rfl (by rw [hml]; rfl) (a := b139) (argsL := [(.ref a197)]) (rest := [(.ref b139)]) opd_5 rfl rfl rfl (by show 2 * 0 + _ ≤ _; exact Nat.le_of_eq rfl) (hb hby d_prog_4_method_6_84)
  obtain ⟨rfl, N213, K213, U213, FC213, FM213⟩ := hQ213
  have NN213 := Fr.app NN197 N213
  have KK213 : Keep h0 T213.heap [] := KK197.trans K213 (allS (Or.inr sz_b139) all0)
  have H213 := CR213.1
  have R213 := CHr.trans R197 CR213
  refine OGo.step st213 ?_
  show OGo p e below _ T213 (mkF m 87 #[.val (.ref a1), .val .null, .val (.ref a3), .val (.ref a138)] [(.ref b139)])
  have hWf : W195 = own_l73 ++ us ++ own_l54 ++ (own_l67) ++ own_l75 ++ ts ++ own_l77 := by
    rw [hW195, hW190, hW182, hW177, hW160, hW155, hW147]; simp only [List.nil_append, List.append_assoc]
  have ne214 : a197 ≠ b139 := (Ne.symm (Nat.ne_of_lt (Nat.lt_of_lt_of_le (((((((((((((F139_cause.ext E140).keep K142 (ninS ne199 nin0)).ext E143).keep K147 (ninS ne199 (ninS ne200 nin0))).keep K155 (ninS ne199 (ninS ne201 nin0))).ext E156).keep K160 (ninS ne199 (ninS ne202 nin0))).keep K177 (ninS ne199 (ninS ne203 nin0))).ext E178).keep K182 (ninS ne199 (ninS ne204 nin0))).keep K190 (ninS ne199 (ninS ne205 nin0))).ext E191).keep K195 (ninS ne199 (ninS ne206 nin0))).lt sa197)))
  have ne215 : r197 ≠ b139 := (Ne.symm (Nat.ne_of_lt (Nat.lt_of_lt_of_le (((((((((((((F139_cause.ext E140).keep K142 (ninS ne199 nin0)).ext E143).keep K147 (ninS ne199 (ninS ne200 nin0))).keep K155 (ninS ne199 (ninS ne201 nin0))).ext E156).keep K160 (ninS ne199 (ninS ne202 nin0))).keep K177 (ninS ne199 (ninS ne203 nin0))).ext E178).keep K182 (ninS ne199 (ninS ne204 nin0))).keep K190 (ninS ne199 (ninS ne205 nin0))).ext E191).keep K195 (ninS ne199 (ninS ne206 nin0))).lt sr197)))
  exact OGo.retH X213 hx hZ213 (own_hEL hw) hs0 rfl hS213 hk213 H213 R213 (t := (.object "com/example/drain_shards/drainshards/DrainShardsException")) hret hlk rfl (Or.inr (Or.inr (Or.inr (Or.inr ⟨rfl, rfl, rfl⟩)))) (hb hby d_prog_4_method_6_87) (by decide) (by decide) ⟨b139, a197, r197, _, rfl, sz_b139, sz_a197, NN213, KK213, (q198.keep K213), U213, FC213, FM213, by rw [← hWf]; exact ⟨(IE197.keep K213), (IC197.keep K213 (ninS ne214 nin0)), (IF197.keep K213 (ninS ne214 nin0)), (IV197.keep K213 (ninS ne215 nin0))⟩⟩
theorem d_prog_4_method_6_9 : decode prog_4_method_6_code 9 = .ok (.new 32, 3) := by decide +kernel
theorem d_prog_4_method_6_12 : decode prog_4_method_6_code 12 = .ok (.dup, 1) := by decide +kernel
theorem d_prog_4_method_6_13 : decode prog_4_method_6_code 13 = .ok (.invokespecial 34, 3) := by decide +kernel
theorem d_prog_4_method_6_16 : decode prog_4_method_6_code 16 = .ok (.ldc 69, 2) := by decide +kernel
theorem d_prog_4_method_6_18 : decode prog_4_method_6_code 18 = .ok (.invokevirtual 39, 3) := by decide +kernel
theorem d_prog_4_method_6_21 : decode prog_4_method_6_code 21 = .ok (.aload_n 1, 1) := by decide +kernel
theorem d_prog_4_method_6_22 : decode prog_4_method_6_code 22 = .ok (.invokevirtual 39, 3) := by decide +kernel
theorem d_prog_4_method_6_25 : decode prog_4_method_6_code 25 = .ok (.ldc 71, 2) := by decide +kernel
theorem d_prog_4_method_6_27 : decode prog_4_method_6_code 27 = .ok (.invokevirtual 39, 3) := by decide +kernel
theorem d_prog_4_method_6_30 : decode prog_4_method_6_code 30 = .ok (.aload_n 2, 1) := by decide +kernel
theorem d_prog_4_method_6_31 : decode prog_4_method_6_code 31 = .ok (.invokevirtual 39, 3) := by decide +kernel
theorem d_prog_4_method_6_34 : decode prog_4_method_6_code 34 = .ok (.invokevirtual 45, 3) := by decide +kernel
theorem opl_rm_oosL : plainFor (⟨"com/example/drain_shards/drainshards/DrainShardsException", "ofOtherStream", "(Ljava/lang/String;Ljava/lang/String;Ljava/lang/String;)Lcom/example/drain_shards/drainshards/DrainShardsException;"⟩ : MethodName) = true := plainFor_of_name (by first | (simp [plainName, overriddenIn]; done) | decide +kernel)
set_option maxRecDepth 65536 in
set_option maxHeartbeats 40000000 in
theorem rm_oosL (l : Launch) (Z : State) (a0 : Array Value) (hw : ∀ d ∈ tables_1, d.before a0 Z = true) (ws : List Jvm.Cond) (a1 e1 a3 e3 : Addr) (k1 k3 : ClassId) (a2 e2 : Addr) (k2 : ClassId) (us vs ts : List Value) (zc : Int32) (wf : Value) (n0 : Nat) (u0 u1 : RefV) (h0 : Heap) (SS : own_SS Z zc wf) (O : Old Z n0 h0) (TS : own_TS Z u0 u1) (hlt : l.stackTraces = true) (I : STI Z h0 a1 e1 k1 us) (I3 : STI Z h0 a3 e3 k3 ts) (hus : us.length = 1) (hts : ts.length = 1) (I2 : STI Z h0 a2 e2 k2 vs) (hvs : vs.length = 1) :
    ConK l Z own_EL (⟨"com/example/drain_shards/drainshards/DrainShardsException", "ofOtherStream", "(Ljava/lang/String;Ljava/lang/String;Ljava/lang/String;)Lcom/example/drain_shards/drainshards/DrainShardsException;"⟩ : MethodName) prog_4_method_6_code 4 (some (.object "com/example/drain_shards/drainshards/DrainShardsException")) ws ({ frames := 7, cells := 33, slots := 5868, locals := 104 } : Room) #[(.ref a1), (.ref a2), (.ref a3)] h0 (fun v h L => ∃ x m r k', v = some (.ref x) ∧ h0.size ≤ x ∧ h0.size ≤ m ∧ Fr n0 L ∧ Keep h0 h [] ∧ Exa Z h x "com/example/drain_shards/drainshards/DrainShardsException" ∧ Unt h x ∧ Fld Z h x "java/lang/Throwable" "cause" "Ljava/lang/Throwable;" (.ref x) ∧ Fld Z h x "java/lang/Throwable" "detailMessage" "Ljava/lang/String;" (.ref m) ∧ STI Z h m r k' (own_l73 ++ us ++ own_l54 ++ (own_l69 ++ vs ++ own_l71 ++ ts) ++ own_l75 ++ ts ++ own_l77)) := by
  refine ConK.intro opl_rm_oosL ?_
  intro p e s m below meth c s₁ hx hby hml hown hret hlk hZ hnm X0 e0 hs0 hS0 H0 R0 hTK hBl
  have SS' := SS
  obtain ⟨hzc, SC, hwf, SF⟩ := SS
  have Z0 : n0 ≤ h0.size := O.1 ▸ O.2.1
  have N0 := Fr.nil n0
  obtain ⟨IE, IC, IF, IV⟩ := I
  obtain ⟨I3E, I3C, I3F, I3V⟩ := I3
  obtain ⟨I2E, I2C, I2F, I2V⟩ := I2
  refine OGo.cast (g' := (mkF m 0 #[.val (.ref a1), .val (.ref a2), .val (.ref a3), .unset] [])) (by first | (simp [entryFrame, mkF, argsToLocals, Value.category]; done) | rfl) ?_
  show OGo p e below _ s₁ (mkF m 0 #[.val (.ref a1), .val (.ref a2), .val (.ref a3), .unset] [])
  refine OGo.step (fun _ k => XS.aloadN X0.here hx rfl (hb hby d_prog_4_method_6_0) rfl rfl k) ?_
  show OGo p e below _ s₁ (mkF m 1 #[.val (.ref a1), .val (.ref a2), .val (.ref a3), .unset] [(.ref a2)])
  refine OGo.step (fun _ k => XS.ifnonnullYes X0.here hx rfl (pc0 := 1) (pc' := 9) rfl (hb hby d_prog_4_method_6_1) rfl (by decide) (by decide) k) ?_
  show OGo p e below _ s₁ (mkF m 9 #[.val (.ref a1), .val (.ref a2), .val (.ref a3), .unset] [])
  obtain ⟨T216, h216, X216, e216, E216, A216, D216, UN216, st216⟩ := newO X0 hx hZ hown (hw _ (List.mem_of_getElem? (i := 48) rfl)) (hw _ (List.mem_of_getElem? (i := 49) rfl)) (hw _ (List.mem_of_getElem? (i := 50) rfl)) e0 (g := (mkF m 9 #[.val (.ref a1), .val (.ref a2), .val (.ref a3), .unset] [])) rfl (hb hby d_prog_4_method_6_9) (by decide) (by decide)
  obtain ⟨b216, g216⟩ : ∃ z, z = h0.size := ⟨_, rfl⟩
  rw [← g216] at A216 D216 UN216 st216
  have sz_b216 : h0.size ≤ b216 := Nat.le_trans (Keep.refl h0 []).1 (Nat.le_of_eq g216.symm)
  have KK216 : Keep h0 h216 [] := (Keep.refl h0 []).ext E216
  have H216 := CHv.ext E216 H0
  have R216 := CHr.trans R0 (CHr.ext E216 H0)
  have F216_value : Fld Z h216 b216 "java/lang/AbstractStringBuilder" "value" "[B" .null := D216 (Or.inl (hw _ (List.mem_of_getElem? (i := 63) rfl))) (ty := (.array .byte)) (by decide)
  have F216_coder : Fld Z h216 b216 "java/lang/AbstractStringBuilder" "coder" "B" (.int (0 : Int32)) := D216 (Or.inl (hw _ (List.mem_of_getElem? (i := 65) rfl))) (ty := .byte) (by decide)
  have F216_count : Fld Z h216 b216 "java/lang/AbstractStringBuilder" "count" "I" (.int (0 : Int32)) := D216 (Or.inl (hw _ (List.mem_of_getElem? (i := 90) rfl))) (ty := .int) (by decide)
  refine OGo.step st216 ?_
  show OGo p e below _ T216 (mkF m 12 #[.val (.ref a1), .val (.ref a2), .val (.ref a3), .unset] [(.ref b216)])
  refine OGo.step (fun _ k => XS.dup X216.here hx rfl (hb hby d_prog_4_method_6_12) rfl rfl k) ?_
  show OGo p e below _ T216 (mkF m 13 #[.val (.ref a1), .val (.ref a2), .val (.ref a3), .unset] [(.ref b216), (.ref b216)])
  have q217 := (Safe.ext E216 H0 (Safe.new (Nat.le_of_eq g216.symm)))
  obtain ⟨v218, T218, L218, X218, hQ218, st218⟩ := icall X216 hx hZ rfl hown (hw _ (List.mem_of_getElem? (i := 51) rfl)) (hw _ (List.mem_of_getElem? (i := 52) rfl)) (hw _ (List.mem_of_getElem? (i := 50) rfl)) (hw _ (List.mem_of_getElem? (i := 53) rfl)) (by decide) (W := 1) (rm_sbInit l Z a0 hw [] b216 zc wf n0 h216 SS' (O.ext E216) A216 F216_value F216_coder F216_count (Nat.le_trans Z0 sz_b216)) e216 (by decide) (by decide) (by decide) (by decide) (g := (mkF m 13 #[.val (.ref a1), .val (.ref a2), .val (.ref a3), .unset] [(.ref b216), (.ref b216)])) rfl (by rw [hml]; rfl) (a := b216) (argsL := []) (rest := [(.ref b216)]) opd_25 rfl rfl rfl (by show 2 * 0 + _ ≤ _; exact Nat.le_of_eq rfl) (hb hby d_prog_4_method_6_13)
  obtain ⟨rfl, N218, K218, d218, k218, sd218, J218⟩ := hQ218
  have NN218 := Fr.app N0 N218
  have KK218 : Keep h0 T218.heap [] := KK216.trans K218 (allS (Or.inr sz_b216) all0)
  have H218 := CHv.keep K218 (sfS q217 sf0) H216
  have R218 := CHr.trans R216 (CHr.keep K218 (sfS q217 sf0) H216)
  have sz_d218 : h0.size ≤ d218 := Nat.le_trans KK216.1 sd218
  refine OGo.step st218 ?_
  show OGo p e below _ T218 (mkF m 16 #[.val (.ref a1), .val (.ref a2), .val (.ref a3), .unset] [(.ref b216)])
  obtain ⟨JE218, JF218, JC218, JN218, JV218, JX218⟩ := J218
  have nb218 : b216 ≠ d218 := JE218.neArv JV218 (hw _ (List.mem_of_getElem? (i := 49) rfl))
  obtain ⟨a219, T219, h219, kk219, d219, kd219, X219, e219, E219, hS219, hk219, hZ219, hown219, A219, C219, F219, V219, lt219, ltd219, CR219, Li219, sf219, st219⟩ := ldcCH X218 hx hZ hown (hw _ (List.mem_of_getElem? (i := 66) rfl)) (own_wS hw) rfl hS0 (Nat.le_trans (Nat.le_trans (Nat.zero_le _) E216.1) K218.1) (own_hEL hw) (List.mem_of_getElem? (i := 2) rfl) H218 (vs := [(.int (104 : Int32)), (.int (97 : Int32)), (.int (115 : Int32)), (.int (32 : Int32)), (.int (105 : Int32)), (.int (116 : Int32)), (.int (115 : Int32)), (.int (32 : Int32)), (.int (108 : Int32)), (.int (101 : Int32)), (.int (97 : Int32)), (.int (115 : Int32)), (.int (101 : Int32)), (.int (115 : Int32)), (.int (32 : Int32)), (.int (102 : Int32)), (.int (111 : Int32)), (.int (114 : Int32)), (.int (32 : Int32)), (.int (115 : Int32)), (.int (116 : Int32)), (.int (114 : Int32)), (.int (101 : Int32)), (.int (97 : Int32)), (.int (109 : Int32)), (.int (32 : Int32))]) (z := (26 : Int32)) (by decide) (by decide) (by decide) (g := (mkF m 16 #[.val (.ref a1), .val (.ref a2), .val (.ref a3), .unset] [(.ref b216)])) rfl (hb hby d_prog_4_method_6_16) (n := 104) (by decide) (by decide) (by decide) (by decide)
  have KK219 : Keep h0 h219 [] := KK218.ext E219
  have H219 := CR219.1
  have R219 := CHr.trans R218 CR219
  refine OGo.step st219 ?_
  show OGo p e below _ T219 (mkF m 18 #[.val (.ref a1), .val (.ref a2), .val (.ref a3), .unset] [(.ref a219), (.ref b216)])
  have LV219 : Arv Z h219 d219 kd219 .byte (Int32.ofNat own_l69.length) own_l69 (.int (0 : Int32)) := V219
  have q220 := (CHr.safe CR219 JV218.lt (Safe.keep K218 (sfS q217 sf0) H216 (Safe.new sd218)))
  have q221 := (((O.ext E216).keep K218 (allS (Nat.le_trans Z0 sz_b216) all0)).ext E219)
  have q222 := (CHr.safe CR219 JF218.lt (Safe.keep K218 (sfS q217 sf0) H216 q217))
  obtain ⟨v223, T223, L223, X223, hQ223, st223⟩ := vcall X219 hx hZ219 hown219 (hw _ (List.mem_of_getElem? (i := 69) rfl)) (hw _ (List.mem_of_getElem? (i := 70) rfl)) (hw _ (List.mem_of_getElem? (i := 72) rfl)) rfl (hw _ (List.mem_of_getElem? (i := 72) rfl)) (hw _ (List.mem_of_getElem? (i := 71) rfl)) (hw _ (List.mem_of_getElem? (i := 50) rfl)) (hw _ (List.mem_of_getElem? (i := 73) rfl)) (by decide) (W := 0) (rm_sbAppG l Z a0 hw [] b216 d218 k218 16 [] a219 d219 kd219 own_l69 zc wf n0 h219 SS' q221 ⟨(JE218.ext E219), (JF218.ext E219), (JC218.ext E219), (JN218.ext E219), (JV218.ext E219), (JX218.ext E219)⟩ (by decide) (by rw [List.length_nil]; decide) ⟨A219, C219, F219, LV219⟩ (Nat.le_trans Z0 sz_b216) (Nat.le_trans Z0 sz_d218) (by rw [List.length_nil, own_n69]; decide) (Ne.symm (sf219 _ q220).2) (Ne.symm (sf219 _ q222).1)) e219 (by decide) (by decide) (by decide) (by decide) (g := (mkF m 18 #[.val (.ref a1), .val (.ref a2), .val (.ref a3), .unset] [(.ref a219), (.ref b216)])) rfl (by rw [hml]; rfl) (JE218.ext E219) (argsL := [(.ref a219)]) (rest := []) opd_26 rfl rfl rfl (by show 2 * 0 + _ ≤ _; exact Nat.le_of_eq rfl) (hb hby d_prog_4_method_6_18)
  obtain ⟨rfl, N223, K223, d223, k223, hd223, J223⟩ := hQ223
  have NN223 := Fr.app NN218 N223
  have KK223 : Keep h0 T223.heap [] := KK219.trans K223 (allS (Or.inr sz_b216) (allS (Or.inr sz_d218) all0))
  have H223 := CHv.keep K223 (sfS q222 (sfS q220 sf0)) H219
  have R223 := CHr.trans R219 (CHr.keep K223 (sfS q222 (sfS q220 sf0)) H219)
  refine OGo.step st223 ?_
  show OGo p e below _ T223 (mkF m 21 #[.val (.ref a1), .val (.ref a2), .val (.ref a3), .unset] [(.ref b216)])
  obtain ⟨W223, hW223⟩ : ∃ z, z = [] ++ own_l69 := ⟨_, rfl⟩
  have lW223 : W223.length = 26 := by rw [hW223, List.length_append, List.length_nil, own_n69]
  rw [show own_cap 16 ([].length + own_l69.length) = 34 from (by rw [List.length_nil, own_n69]; rfl), ← hW223] at J223
  obtain ⟨JE223, JF223, JC223, JN223, JV223, JX223⟩ := J223
  have sz_d223 : h0.size ≤ d223 := hd223.elim (fun q => q ▸ sz_d218) (fun q => Nat.le_trans KK219.1 q)
  have nb223 : b216 ≠ d223 := JE223.neArv JV223 (hw _ (List.mem_of_getElem? (i := 49) rfl))
  refine OGo.step (fun _ k => XS.aloadN X223.here hx rfl (hb hby d_prog_4_method_6_21) rfl rfl k) ?_
  show OGo p e below _ T223 (mkF m 22 #[.val (.ref a1), .val (.ref a2), .val (.ref a3), .unset] [(.ref a2), (.ref b216)])
  have q224 := (Safe.keep K223 (sfS q222 (sfS q220 sf0)) H219 (own_safeAlt q220 hd223))
  have q225 := (q221.keep K223 (allS (Nat.le_trans Z0 sz_b216) (allS (Nat.le_trans Z0 sz_d218) all0)))
  have q226 := ((((I2E.ext E216).keep K218).ext E219).keep K223)
  have q227 := ((((I2C.ext E216).keep K218 (ninS (Nat.ne_of_lt (Nat.lt_of_lt_of_le I2E.lt sz_b216)) nin0)).ext E219).keep K223 (ninS (Nat.ne_of_lt (Nat.lt_of_lt_of_le I2E.lt sz_b216)) (ninS (Nat.ne_of_lt (Nat.lt_of_lt_of_le I2E.lt sz_d218)) nin0)))
  have q228 := ((((I2F.ext E216).keep K218 (ninS (Nat.ne_of_lt (Nat.lt_of_lt_of_le I2E.lt sz_b216)) nin0)).ext E219).keep K223 (ninS (Nat.ne_of_lt (Nat.lt_of_lt_of_le I2E.lt sz_b216)) (ninS (Nat.ne_of_lt (Nat.lt_of_lt_of_le I2E.lt sz_d218)) nin0)))
  have q229 := ((((I2V.ext E216).keep K218 (ninS (Nat.ne_of_lt (Nat.lt_of_lt_of_le I2V.lt sz_b216)) nin0)).ext E219).keep K223 (ninS (Nat.ne_of_lt (Nat.lt_of_lt_of_le I2V.lt sz_b216)) (ninS (Nat.ne_of_lt (Nat.lt_of_lt_of_le I2V.lt sz_d218)) nin0)))
  have q230 := (Safe.keep K223 (sfS q222 (sfS q220 sf0)) H219 q222)
  obtain ⟨v231, T231, L231, X231, hQ231, st231⟩ := vcall X223 hx hZ219 hown219 (hw _ (List.mem_of_getElem? (i := 69) rfl)) (hw _ (List.mem_of_getElem? (i := 70) rfl)) (hw _ (List.mem_of_getElem? (i := 72) rfl)) rfl (hw _ (List.mem_of_getElem? (i := 72) rfl)) (hw _ (List.mem_of_getElem? (i := 71) rfl)) (hw _ (List.mem_of_getElem? (i := 50) rfl)) (hw _ (List.mem_of_getElem? (i := 73) rfl)) (by decide) (W := 0) (rm_sbAppG l Z a0 hw [] b216 d223 k223 34 W223 a2 e2 k2 vs zc wf n0 T223.heap SS' q225 ⟨JE223, JF223, JC223, JN223, JV223, JX223⟩ (by decide) (by rw [lW223]; decide) ⟨q226, q227, q228, q229⟩ (Nat.le_trans Z0 sz_b216) (Nat.le_trans Z0 sz_d223) (by rw [lW223, hvs]; decide) (Nat.ne_of_lt (Nat.lt_of_lt_of_le I2V.lt sz_d223)) (Nat.ne_of_lt (Nat.lt_of_lt_of_le I2E.lt sz_b216))) rfl (by decide) (by decide) (by decide) (by decide) (g := (mkF m 22 #[.val (.ref a1), .val (.ref a2), .val (.ref a3), .unset] [(.ref a2), (.ref b216)])) rfl (by rw [hml]; rfl) JE223 (argsL := [(.ref a2)]) (rest := []) opd_26 rfl rfl rfl (by show 2 * 0 + _ ≤ _; exact Nat.le_of_eq rfl) (hb hby d_prog_4_method_6_22)
  obtain ⟨rfl, N231, K231, d231, k231, hd231, J231⟩ := hQ231
  have NN231 := Fr.app NN223 N231
  have KK231 : Keep h0 T231.heap [] := KK223.trans K231 (allS (Or.inr sz_b216) (allS (Or.inr sz_d223) all0))
  have H231 := CHv.keep K231 (sfS q230 (sfS q224 sf0)) H223
  have R231 := CHr.trans R223 (CHr.keep K231 (sfS q230 (sfS q224 sf0)) H223)
  refine OGo.step st231 ?_
  show OGo p e below _ T231 (mkF m 25 #[.val (.ref a1), .val (.ref a2), .val (.ref a3), .unset] [(.ref b216)])
  obtain ⟨W231, hW231⟩ : ∃ z, z = W223 ++ vs := ⟨_, rfl⟩
  have lW231 : W231.length = 27 := by rw [hW231, List.length_append, lW223, hvs]
  rw [show own_cap 34 (W223.length + vs.length) = 34 from (by rw [lW223, hvs]; rfl), ← hW231] at J231
  obtain ⟨JE231, JF231, JC231, JN231, JV231, JX231⟩ := J231
  have sz_d231 : h0.size ≤ d231 := hd231.elim (fun q => q ▸ sz_d223) (fun q => Nat.le_trans KK223.1 q)
  have nb231 : b216 ≠ d231 := JE231.neArv JV231 (hw _ (List.mem_of_getElem? (i := 49) rfl))
  obtain ⟨a232, T232, h232, kk232, d232, kd232, X232, e232, E232, hS232, hk232, hZ232, hown232, A232, C232, F232, V232, lt232, ltd232, CR232, Li232, sf232, st232⟩ := ldcCH X231 hx hZ219 hown219 (hw _ (List.mem_of_getElem? (i := 139) rfl)) (own_wS hw) rfl hS219 (Nat.le_trans (Nat.le_trans hk219 K223.1) K231.1) (own_hEL hw) (List.mem_of_getElem? (i := 3) rfl) H231 (vs := [(.int (44 : Int32)), (.int (32 : Int32)), (.int (110 : Int32)), (.int (111 : Int32)), (.int (116 : Int32)), (.int (32 : Int32))]) (z := (6 : Int32)) (by decide) (by decide) (by decide) (g := (mkF m 25 #[.val (.ref a1), .val (.ref a2), .val (.ref a3), .unset] [(.ref b216)])) rfl (hb hby d_prog_4_method_6_25) (n := 24) (by decide) (by decide) (by decide) (by decide)
  have KK232 : Keep h0 h232 [] := KK231.ext E232
  have H232 := CR232.1
  have R232 := CHr.trans R231 CR232
  refine OGo.step st232 ?_
  show OGo p e below _ T232 (mkF m 27 #[.val (.ref a1), .val (.ref a2), .val (.ref a3), .unset] [(.ref a232), (.ref b216)])
  have LV232 : Arv Z h232 d232 kd232 .byte (Int32.ofNat own_l71.length) own_l71 (.int (0 : Int32)) := V232
  have q233 := (CHr.safe CR232 JV231.lt (Safe.keep K231 (sfS q230 (sfS q224 sf0)) H223 (own_safeAlt q224 hd231)))
  have q234 := ((q225.keep K231 (allS (Nat.le_trans Z0 sz_b216) (allS (Nat.le_trans Z0 sz_d223) all0))).ext E232)
  have q235 := (CHr.safe CR232 JF231.lt (Safe.keep K231 (sfS q230 (sfS q224 sf0)) H223 q230))
  obtain ⟨v236, T236, L236, X236, hQ236, st236⟩ := vcall X232 hx hZ232 hown232 (hw _ (List.mem_of_getElem? (i := 69) rfl)) (hw _ (List.mem_of_getElem? (i := 70) rfl)) (hw _ (List.mem_of_getElem? (i := 72) rfl)) rfl (hw _ (List.mem_of_getElem? (i := 72) rfl)) (hw _ (List.mem_of_getElem? (i := 71) rfl)) (hw _ (List.mem_of_getElem? (i := 50) rfl)) (hw _ (List.mem_of_getElem? (i := 73) rfl)) (by decide) (W := 0) (rm_sbAppG l Z a0 hw [] b216 d231 k231 34 W231 a232 d232 kd232 own_l71 zc wf n0 h232 SS' q234 ⟨(JE231.ext E232), (JF231.ext E232), (JC231.ext E232), (JN231.ext E232), (JV231.ext E232), (JX231.ext E232)⟩ (by decide) (by rw [lW231]; decide) ⟨A232, C232, F232, LV232⟩ (Nat.le_trans Z0 sz_b216) (Nat.le_trans Z0 sz_d231) (by rw [lW231, own_n71]; decide) (Ne.symm (sf232 _ q233).2) (Ne.symm (sf232 _ q235).1)) e232 (by decide) (by decide) (by decide) (by decide) (g := (mkF m 27 #[.val (.ref a1), .val (.ref a2), .val (.ref a3), .unset] [(.ref a232), (.ref b216)])) rfl (by rw [hml]; rfl) (JE231.ext E232) (argsL := [(.ref a232)]) (rest := []) opd_26 rfl rfl rfl (by show 2 * 0 + _ ≤ _; exact Nat.le_of_eq rfl) (hb hby d_prog_4_method_6_27)
  obtain ⟨rfl, N236, K236, d236, k236, hd236, J236⟩ := hQ236
  have NN236 := Fr.app NN231 N236
  have KK236 : Keep h0 T236.heap [] := KK232.trans K236 (allS (Or.inr sz_b216) (allS (Or.inr sz_d231) all0))
  have H236 := CHv.keep K236 (sfS q235 (sfS q233 sf0)) H232
  have R236 := CHr.trans R232 (CHr.keep K236 (sfS q235 (sfS q233 sf0)) H232)
  refine OGo.step st236 ?_
  show OGo p e below _ T236 (mkF m 30 #[.val (.ref a1), .val (.ref a2), .val (.ref a3), .unset] [(.ref b216)])
  obtain ⟨W236, hW236⟩ : ∃ z, z = W231 ++ own_l71 := ⟨_, rfl⟩
  have lW236 : W236.length = 33 := by rw [hW236, List.length_append, lW231, own_n71]
  rw [show own_cap 34 (W231.length + own_l71.length) = 34 from (by rw [lW231, own_n71]; rfl), ← hW236] at J236
  obtain ⟨JE236, JF236, JC236, JN236, JV236, JX236⟩ := J236
  have sz_d236 : h0.size ≤ d236 := hd236.elim (fun q => q ▸ sz_d231) (fun q => Nat.le_trans KK232.1 q)
  have nb236 : b216 ≠ d236 := JE236.neArv JV236 (hw _ (List.mem_of_getElem? (i := 49) rfl))
  refine OGo.step (fun _ k => XS.aloadN X236.here hx rfl (hb hby d_prog_4_method_6_30) rfl rfl k) ?_
  show OGo p e below _ T236 (mkF m 31 #[.val (.ref a1), .val (.ref a2), .val (.ref a3), .unset] [(.ref a3), (.ref b216)])
  have q237 := (Safe.keep K236 (sfS q235 (sfS q233 sf0)) H232 (own_safeAlt q233 hd236))
  have q238 := (q234.keep K236 (allS (Nat.le_trans Z0 sz_b216) (allS (Nat.le_trans Z0 sz_d231) all0)))
  have q239 := (((((((I3E.ext E216).keep K218).ext E219).keep K223).keep K231).ext E232).keep K236)
  have q240 := (((((((I3C.ext E216).keep K218 (ninS (Nat.ne_of_lt (Nat.lt_of_lt_of_le I3E.lt sz_b216)) nin0)).ext E219).keep K223 (ninS (Nat.ne_of_lt (Nat.lt_of_lt_of_le I3E.lt sz_b216)) (ninS (Nat.ne_of_lt (Nat.lt_of_lt_of_le I3E.lt sz_d218)) nin0))).keep K231 (ninS (Nat.ne_of_lt (Nat.lt_of_lt_of_le I3E.lt sz_b216)) (ninS (Nat.ne_of_lt (Nat.lt_of_lt_of_le I3E.lt sz_d223)) nin0))).ext E232).keep K236 (ninS (Nat.ne_of_lt (Nat.lt_of_lt_of_le I3E.lt sz_b216)) (ninS (Nat.ne_of_lt (Nat.lt_of_lt_of_le I3E.lt sz_d231)) nin0)))
  have q241 := (((((((I3F.ext E216).keep K218 (ninS (Nat.ne_of_lt (Nat.lt_of_lt_of_le I3E.lt sz_b216)) nin0)).ext E219).keep K223 (ninS (Nat.ne_of_lt (Nat.lt_of_lt_of_le I3E.lt sz_b216)) (ninS (Nat.ne_of_lt (Nat.lt_of_lt_of_le I3E.lt sz_d218)) nin0))).keep K231 (ninS (Nat.ne_of_lt (Nat.lt_of_lt_of_le I3E.lt sz_b216)) (ninS (Nat.ne_of_lt (Nat.lt_of_lt_of_le I3E.lt sz_d223)) nin0))).ext E232).keep K236 (ninS (Nat.ne_of_lt (Nat.lt_of_lt_of_le I3E.lt sz_b216)) (ninS (Nat.ne_of_lt (Nat.lt_of_lt_of_le I3E.lt sz_d231)) nin0)))
  have q242 := (((((((I3V.ext E216).keep K218 (ninS (Nat.ne_of_lt (Nat.lt_of_lt_of_le I3V.lt sz_b216)) nin0)).ext E219).keep K223 (ninS (Nat.ne_of_lt (Nat.lt_of_lt_of_le I3V.lt sz_b216)) (ninS (Nat.ne_of_lt (Nat.lt_of_lt_of_le I3V.lt sz_d218)) nin0))).keep K231 (ninS (Nat.ne_of_lt (Nat.lt_of_lt_of_le I3V.lt sz_b216)) (ninS (Nat.ne_of_lt (Nat.lt_of_lt_of_le I3V.lt sz_d223)) nin0))).ext E232).keep K236 (ninS (Nat.ne_of_lt (Nat.lt_of_lt_of_le I3V.lt sz_b216)) (ninS (Nat.ne_of_lt (Nat.lt_of_lt_of_le I3V.lt sz_d231)) nin0)))
  have q243 := (Safe.keep K236 (sfS q235 (sfS q233 sf0)) H232 q235)
  obtain ⟨v244, T244, L244, X244, hQ244, st244⟩ := vcall X236 hx hZ232 hown232 (hw _ (List.mem_of_getElem? (i := 69) rfl)) (hw _ (List.mem_of_getElem? (i := 70) rfl)) (hw _ (List.mem_of_getElem? (i := 72) rfl)) rfl (hw _ (List.mem_of_getElem? (i := 72) rfl)) (hw _ (List.mem_of_getElem? (i := 71) rfl)) (hw _ (List.mem_of_getElem? (i := 50) rfl)) (hw _ (List.mem_of_getElem? (i := 73) rfl)) (by decide) (W := 0) (rm_sbAppG l Z a0 hw [] b216 d236 k236 34 W236 a3 e3 k3 ts zc wf n0 T236.heap SS' q238 ⟨JE236, JF236, JC236, JN236, JV236, JX236⟩ (by decide) (by rw [lW236]; decide) ⟨q239, q240, q241, q242⟩ (Nat.le_trans Z0 sz_b216) (Nat.le_trans Z0 sz_d236) (by rw [lW236, hts]; decide) (Nat.ne_of_lt (Nat.lt_of_lt_of_le I3V.lt sz_d236)) (Nat.ne_of_lt (Nat.lt_of_lt_of_le I3E.lt sz_b216))) rfl (by decide) (by decide) (by decide) (by decide) (g := (mkF m 31 #[.val (.ref a1), .val (.ref a2), .val (.ref a3), .unset] [(.ref a3), (.ref b216)])) rfl (by rw [hml]; rfl) JE236 (argsL := [(.ref a3)]) (rest := []) opd_26 rfl rfl rfl (by show 2 * 0 + _ ≤ _; exact Nat.le_of_eq rfl) (hb hby d_prog_4_method_6_31)
  obtain ⟨rfl, N244, K244, d244, k244, hd244, J244⟩ := hQ244
  have NN244 := Fr.app NN236 N244
  have KK244 : Keep h0 T244.heap [] := KK236.trans K244 (allS (Or.inr sz_b216) (allS (Or.inr sz_d236) all0))
  have H244 := CHv.keep K244 (sfS q243 (sfS q237 sf0)) H236
  have R244 := CHr.trans R236 (CHr.keep K244 (sfS q243 (sfS q237 sf0)) H236)
  refine OGo.step st244 ?_
  show OGo p e below _ T244 (mkF m 34 #[.val (.ref a1), .val (.ref a2), .val (.ref a3), .unset] [(.ref b216)])
  obtain ⟨W244, hW244⟩ : ∃ z, z = W236 ++ ts := ⟨_, rfl⟩
  have lW244 : W244.length = 34 := by rw [hW244, List.length_append, lW236, hts]
  rw [show own_cap 34 (W236.length + ts.length) = 34 from (by rw [lW236, hts]; rfl), ← hW244] at J244
  obtain ⟨JE244, JF244, JC244, JN244, JV244, JX244⟩ := J244
  have sz_d244 : h0.size ≤ d244 := hd244.elim (fun q => q ▸ sz_d236) (fun q => Nat.le_trans KK236.1 q)
  have nb244 : b216 ≠ d244 := JE244.neArv JV244 (hw _ (List.mem_of_getElem? (i := 49) rfl))
  have q245 := (q238.keep K244 (allS (Nat.le_trans Z0 sz_b216) (allS (Nat.le_trans Z0 sz_d236) all0)))
  obtain ⟨v246, T246, L246, X246, hQ246, st246⟩ := vcall X244 hx hZ232 hown232 (hw _ (List.mem_of_getElem? (i := 140) rfl)) (hw _ (List.mem_of_getElem? (i := 141) rfl)) (hw _ (List.mem_of_getElem? (i := 143) rfl)) rfl (hw _ (List.mem_of_getElem? (i := 143) rfl)) (hw _ (List.mem_of_getElem? (i := 142) rfl)) (hw _ (List.mem_of_getElem? (i := 50) rfl)) (hw _ (List.mem_of_getElem? (i := 144) rfl)) (by decide) (W := 0) (rm_toS l Z a0 hw [] b216 d244 k244 34 W244 zc wf n0 T244.heap SS' q245 ⟨JE244, JF244, JC244, JN244, JV244, JX244⟩ (by decide) (by rw [lW244]; decide) (by rw [lW244]; decide)) rfl (by decide) (by decide) (by decide) (by decide) (g := (mkF m 34 #[.val (.ref a1), .val (.ref a2), .val (.ref a3), .unset] [(.ref b216)])) rfl (by rw [hml]; rfl) JE244 (argsL := []) (rest := []) opd_27 rfl rfl rfl (by show 2 * 0 + _ ≤ _; exact Nat.le_of_eq rfl) (hb hby d_prog_4_method_6_34)
  obtain ⟨a246, r246, kr246, rfl, sa246, sr246, N246, K246, I246⟩ := hQ246
  have NN246 := Fr.app NN244 N246
  have KK246 : Keep h0 T246.heap [] := KK244.trans K246 all0
  have H246 := CHv.keep K246 sf0 H244
  have R246 := CHr.trans R244 (CHr.keep K246 sf0 H244)
  have sz_a246 : h0.size ≤ a246 := Nat.le_trans KK244.1 sa246
  have sz_r246 : h0.size ≤ r246 := Nat.le_trans KK244.1 sr246
  refine OGo.step st246 ?_
  show OGo p e below _ T246 (mkF m 37 #[.val (.ref a1), .val (.ref a2), .val (.ref a3), .unset] [(.ref a246)])
  obtain ⟨IE246, IC246, IF246, IV246⟩ := I246
  refine OGo.step (fun _ k => XS.astoreN X246.here hx rfl (hb hby d_prog_4_method_6_37) rfl rfl (l' := #[.val (.ref a1), .val (.ref a2), .val (.ref a3), .val (.ref a246)]) rfl k) ?_
  show OGo p e below _ T246 (mkF m 38 #[.val (.ref a1), .val (.ref a2), .val (.ref a3), .val (.ref a246)] [])
  obtain ⟨T247, h247, X247, e247, E247, A247, D247, UN247, st247⟩ := newO X246 hx hZ232 hown232 (hw _ (List.mem_of_getElem? (i := 182) rfl)) (hw _ (List.mem_of_getElem? (i := 183) rfl)) (hw _ (List.mem_of_getElem? (i := 46) rfl)) rfl (g := (mkF m 38 #[.val (.ref a1), .val (.ref a2), .val (.ref a3), .val (.ref a246)] [])) rfl (hb hby d_prog_4_method_6_38) (by decide) (by decide)
  obtain ⟨b247, g247⟩ : ∃ z, z = T246.heap.size := ⟨_, rfl⟩
  rw [← g247] at A247 D247 UN247 st247
  have sz_b247 : h0.size ≤ b247 := Nat.le_trans KK246.1 (Nat.le_of_eq g247.symm)
  have KK247 : Keep h0 h247 [] := KK246.ext E247
  have H247 := CHv.ext E247 H246
  have R247 := CHr.trans R246 (CHr.ext E247 H246)
  have F247_cause : Fld Z h247 b247 "java/lang/Throwable" "cause" "Ljava/lang/Throwable;" .null := D247 (Or.inl (hw _ (List.mem_of_getElem? (i := 216) rfl))) (ty := (.object "java/lang/Throwable")) (by decide)
  have F247_stackTrace : Fld Z h247 b247 "java/lang/Throwable" "stackTrace" "[Ljava/lang/StackTraceElement;" .null := D247 (Or.inl (hw _ (List.mem_of_getElem? (i := 219) rfl))) (ty := (.array (.object "java/lang/StackTraceElement"))) (by decide)
  have F247_suppressedExceptions : Fld Z h247 b247 "java/lang/Throwable" "suppressedExceptions" "Ljava/util/List;" .null := D247 (Or.inl (hw _ (List.mem_of_getElem? (i := 222) rfl))) (ty := (.object "java/util/List")) (by decide)
  have F247_detailMessage : Fld Z h247 b247 "java/lang/Throwable" "detailMessage" "Ljava/lang/String;" .null := D247 (Or.inl (hw _ (List.mem_of_getElem? (i := 246) rfl))) (ty := (.object "java/lang/String")) (by decide)
  have F247_backtrace : Fld Z h247 b247 "java/lang/Throwable" "backtrace" "Ljava/lang/Object;" .null := D247 (Or.inl (hw _ (List.mem_of_getElem? (i := 247) rfl))) (ty := (.object "java/lang/Object")) (by decide)
  refine OGo.step st247 ?_
  show OGo p e below _ T247 (mkF m 41 #[.val (.ref a1), .val (.ref a2), .val (.ref a3), .val (.ref a246)] [(.ref b247)])
  refine OGo.step (fun _ k => XS.dup X247.here hx rfl (hb hby d_prog_4_method_6_41) rfl rfl k) ?_
  show OGo p e below _ T247 (mkF m 42 #[.val (.ref a1), .val (.ref a2), .val (.ref a3), .val (.ref a246)] [(.ref b247), (.ref b247)])
  obtain ⟨T248, h248, X248, e248, E248, A248, D248, UN248, st248⟩ := newO X247 hx hZ232 hown232 (hw _ (List.mem_of_getElem? (i := 48) rfl)) (hw _ (List.mem_of_getElem? (i := 49) rfl)) (hw _ (List.mem_of_getElem? (i := 50) rfl)) e247 (g := (mkF m 42 #[.val (.ref a1), .val (.ref a2), .val (.ref a3), .val (.ref a246)] [(.ref b247), (.ref b247)])) rfl (hb hby d_prog_4_method_6_42) (by decide) (by decide)
  obtain ⟨b248, g248⟩ : ∃ z, z = h247.size := ⟨_, rfl⟩
  rw [← g248] at A248 D248 UN248 st248
  have sz_b248 : h0.size ≤ b248 := Nat.le_trans KK247.1 (Nat.le_of_eq g248.symm)
  have KK248 : Keep h0 h248 [] := KK247.ext E248
  have H248 := CHv.ext E248 H247
  have R248 := CHr.trans R247 (CHr.ext E248 H247)
  have F248_value : Fld Z h248 b248 "java/lang/AbstractStringBuilder" "value" "[B" .null := D248 (Or.inl (hw _ (List.mem_of_getElem? (i := 63) rfl))) (ty := (.array .byte)) (by decide)
  have F248_coder : Fld Z h248 b248 "java/lang/AbstractStringBuilder" "coder" "B" (.int (0 : Int32)) := D248 (Or.inl (hw _ (List.mem_of_getElem? (i := 65) rfl))) (ty := .byte) (by decide)
  have F248_count : Fld Z h248 b248 "java/lang/AbstractStringBuilder" "count" "I" (.int (0 : Int32)) := D248 (Or.inl (hw _ (List.mem_of_getElem? (i := 90) rfl))) (ty := .int) (by decide)
  refine OGo.step st248 ?_
  show OGo p e below _ T248 (mkF m 45 #[.val (.ref a1), .val (.ref a2), .val (.ref a3), .val (.ref a246)] [(.ref b248), (.ref b247), (.ref b247)])
  refine OGo.step (fun _ k => XS.dup X248.here hx rfl (hb hby d_prog_4_method_6_45) rfl rfl k) ?_
  show OGo p e below _ T248 (mkF m 46 #[.val (.ref a1), .val (.ref a2), .val (.ref a3), .val (.ref a246)] [(.ref b248), (.ref b248), (.ref b247), (.ref b247)])
  have q249 := (((q245.keep K246 all0).ext E247).ext E248)
  have q250 := (Safe.ext E248 H247 (Safe.new (Nat.le_of_eq g248.symm)))
  obtain ⟨v251, T251, L251, X251, hQ251, st251⟩ := icall X248 hx hZ232 rfl hown232 (hw _ (List.mem_of_getElem? (i := 51) rfl)) (hw _ (List.mem_of_getElem? (i := 52) rfl)) (hw _ (List.mem_of_getElem? (i := 50) rfl)) (hw _ (List.mem_of_getElem? (i := 53) rfl)) (by decide) (W := 3) (rm_sbInit l Z a0 hw [] b248 zc wf n0 h248 SS' q249 A248 F248_value F248_coder F248_count (Nat.le_trans Z0 sz_b248)) e248 (by decide) (by decide) (by decide) (by decide) (g := (mkF m 46 #[.val (.ref a1), .val (.ref a2), .val (.ref a3), .val (.ref a246)] [(.ref b248), (.ref b248), (.ref b247), (.ref b247)])) rfl (by rw [hml]; rfl) (a := b248) (argsL := []) (rest := [(.ref b248), (.ref b247), (.ref b247)]) opd_25 rfl rfl rfl (by show 2 * 0 + _ ≤ _; exact Nat.le_of_eq rfl) (hb hby d_prog_4_method_6_46)
  obtain ⟨rfl, N251, K251, d251, k251, sd251, J251⟩ := hQ251
  have NN251 := Fr.app NN246 N251
  have KK251 : Keep h0 T251.heap [] := KK248.trans K251 (allS (Or.inr sz_b248) all0)
  have H251 := CHv.keep K251 (sfS q250 sf0) H248
  have R251 := CHr.trans R248 (CHr.keep K251 (sfS q250 sf0) H248)
  have sz_d251 : h0.size ≤ d251 := Nat.le_trans KK248.1 sd251
  refine OGo.step st251 ?_
  show OGo p e below _ T251 (mkF m 49 #[.val (.ref a1), .val (.ref a2), .val (.ref a3), .val (.ref a246)] [(.ref b248), (.ref b247), (.ref b247)])
  obtain ⟨JE251, JF251, JC251, JN251, JV251, JX251⟩ := J251
  have nb251 : b248 ≠ d251 := JE251.neArv JV251 (hw _ (List.mem_of_getElem? (i := 49) rfl))
  obtain ⟨a252, T252, h252, kk252, d252, kd252, X252, e252, E252, hS252, hk252, hZ252, hown252, A252, C252, F252, V252, lt252, ltd252, CR252, Li252, sf252, st252⟩ := ldcCH X251 hx hZ232 hown232 (hw _ (List.mem_of_getElem? (i := 184) rfl)) (own_wS hw) rfl hS232 (Nat.le_trans (Nat.le_trans (Nat.le_trans (Nat.le_trans (Nat.le_trans (Nat.le_trans hk232 K236.1) K244.1) K246.1) E247.1) E248.1) K251.1) (own_hEL hw) (List.mem_of_getElem? (i := 4) rfl) H251 (vs := [(.int (97 : Int32)), (.int (112 : Int32)), (.int (112 : Int32)), (.int (108 : Int32)), (.int (105 : Int32)), (.int (99 : Int32)), (.int (97 : Int32)), (.int (116 : Int32)), (.int (105 : Int32)), (.int (111 : Int32)), (.int (110 : Int32)), (.int (32 : Int32))]) (z := (12 : Int32)) (by decide) (by decide) (by decide) (g := (mkF m 49 #[.val (.ref a1), .val (.ref a2), .val (.ref a3), .val (.ref a246)] [(.ref b248), (.ref b247), (.ref b247)])) rfl (hb hby d_prog_4_method_6_49) (n := 48) (by decide) (by decide) (by decide) (by decide)
  have KK252 : Keep h0 h252 [] := KK251.ext E252
  have H252 := CR252.1
  have R252 := CHr.trans R251 CR252
  refine OGo.step st252 ?_
  show OGo p e below _ T252 (mkF m 51 #[.val (.ref a1), .val (.ref a2), .val (.ref a3), .val (.ref a246)] [(.ref a252), (.ref b248), (.ref b247), (.ref b247)])
  have LV252 : Arv Z h252 d252 kd252 .byte (Int32.ofNat own_l73.length) own_l73 (.int (0 : Int32)) := V252
  have q253 := (CHr.safe CR252 JV251.lt (Safe.keep K251 (sfS q250 sf0) H248 (Safe.new sd251)))
  have q254 := ((q249.keep K251 (allS (Nat.le_trans Z0 sz_b248) all0)).ext E252)
  have q255 := (CHr.safe CR252 JF251.lt (Safe.keep K251 (sfS q250 sf0) H248 q250))
  obtain ⟨v256, T256, L256, X256, hQ256, st256⟩ := vcall X252 hx hZ252 hown252 (hw _ (List.mem_of_getElem? (i := 69) rfl)) (hw _ (List.mem_of_getElem? (i := 70) rfl)) (hw _ (List.mem_of_getElem? (i := 72) rfl)) rfl (hw _ (List.mem_of_getElem? (i := 72) rfl)) (hw _ (List.mem_of_getElem? (i := 71) rfl)) (hw _ (List.mem_of_getElem? (i := 50) rfl)) (hw _ (List.mem_of_getElem? (i := 73) rfl)) (by decide) (W := 2) (rm_sbAppG l Z a0 hw [] b248 d251 k251 16 [] a252 d252 kd252 own_l73 zc wf n0 h252 SS' q254 ⟨(JE251.ext E252), (JF251.ext E252), (JC251.ext E252), (JN251.ext E252), (JV251.ext E252), (JX251.ext E252)⟩ (by decide) (by rw [List.length_nil]; decide) ⟨A252, C252, F252, LV252⟩ (Nat.le_trans Z0 sz_b248) (Nat.le_trans Z0 sz_d251) (by rw [List.length_nil, own_n73]; decide) (Ne.symm (sf252 _ q253).2) (Ne.symm (sf252 _ q255).1)) e252 (by decide) (by decide) (by decide) (by decide) (g := (mkF m 51 #[.val (.ref a1), .val (.ref a2), .val (.ref a3), .val (.ref a246)] [(.ref a252), (.ref b248), (.ref b247), (.ref b247)])) rfl (by rw [hml]; rfl) (JE251.ext E252) (argsL := [(.ref a252)]) (rest := [(.ref b247), (.ref b247)]) opd_26 rfl rfl rfl (by show 2 * 0 + _ ≤ _; exact Nat.le_of_eq rfl) (hb hby d_prog_4_method_6_51)
  obtain ⟨rfl, N256, K256, d256, k256, hd256, J256⟩ := hQ256
  have NN256 := Fr.app NN251 N256
  have KK256 : Keep h0 T256.heap [] := KK252.trans K256 (allS (Or.inr sz_b248) (allS (Or.inr sz_d251) all0))
  have H256 := CHv.keep K256 (sfS q255 (sfS q253 sf0)) H252
  have R256 := CHr.trans R252 (CHr.keep K256 (sfS q255 (sfS q253 sf0)) H252)
  refine OGo.step st256 ?_
  show OGo p e below _ T256 (mkF m 54 #[.val (.ref a1), .val (.ref a2), .val (.ref a3), .val (.ref a246)] [(.ref b248), (.ref b247), (.ref b247)])
  obtain ⟨W256, hW256⟩ : ∃ z, z = [] ++ own_l73 := ⟨_, rfl⟩
  have lW256 : W256.length = 12 := by rw [hW256, List.length_append, List.length_nil, own_n73]
  rw [show own_cap 16 ([].length + own_l73.length) = 16 from (by rw [List.length_nil, own_n73]; rfl), ← hW256] at J256
  obtain ⟨JE256, JF256, JC256, JN256, JV256, JX256⟩ := J256
  have sz_d256 : h0.size ≤ d256 := hd256.elim (fun q => q ▸ sz_d251) (fun q => Nat.le_trans KK252.1 q)
  have nb256 : b248 ≠ d256 := JE256.neArv JV256 (hw _ (List.mem_of_getElem? (i := 49) rfl))
  refine OGo.step (fun _ k => XS.aloadN X256.here hx rfl (hb hby d_prog_4_method_6_54) rfl rfl k) ?_
  show OGo p e below _ T256 (mkF m 55 #[.val (.ref a1), .val (.ref a2), .val (.ref a3), .val (.ref a246)] [(.ref a1), (.ref b248), (.ref b247), (.ref b247)])
  have q257 := (Safe.keep K256 (sfS q255 (sfS q253 sf0)) H252 (own_safeAlt q253 hd256))
  have q258 := (q254.keep K256 (allS (Nat.le_trans Z0 sz_b248) (allS (Nat.le_trans Z0 sz_d251) all0)))
  have q259 := ((((((((((((((IE.ext E216).keep K218).ext E219).keep K223).keep K231).ext E232).keep K236).keep K244).keep K246).ext E247).ext E248).keep K251).ext E252).keep K256)
  have q260 := ((((((((((((((IC.ext E216).keep K218 (ninS (Nat.ne_of_lt (Nat.lt_of_lt_of_le IE.lt sz_b216)) nin0)).ext E219).keep K223 (ninS (Nat.ne_of_lt (Nat.lt_of_lt_of_le IE.lt sz_b216)) (ninS (Nat.ne_of_lt (Nat.lt_of_lt_of_le IE.lt sz_d218)) nin0))).keep K231 (ninS (Nat.ne_of_lt (Nat.lt_of_lt_of_le IE.lt sz_b216)) (ninS (Nat.ne_of_lt (Nat.lt_of_lt_of_le IE.lt sz_d223)) nin0))).ext E232).keep K236 (ninS (Nat.ne_of_lt (Nat.lt_of_lt_of_le IE.lt sz_b216)) (ninS (Nat.ne_of_lt (Nat.lt_of_lt_of_le IE.lt sz_d231)) nin0))).keep K244 (ninS (Nat.ne_of_lt (Nat.lt_of_lt_of_le IE.lt sz_b216)) (ninS (Nat.ne_of_lt (Nat.lt_of_lt_of_le IE.lt sz_d236)) nin0))).keep K246 nin0).ext E247).ext E248).keep K251 (ninS (Nat.ne_of_lt (Nat.lt_of_lt_of_le IE.lt sz_b248)) nin0)).ext E252).keep K256 (ninS (Nat.ne_of_lt (Nat.lt_of_lt_of_le IE.lt sz_b248)) (ninS (Nat.ne_of_lt (Nat.lt_of_lt_of_le IE.lt sz_d251)) nin0)))
  have q261 := ((((((((((((((IF.ext E216).keep K218 (ninS (Nat.ne_of_lt (Nat.lt_of_lt_of_le IE.lt sz_b216)) nin0)).ext E219).keep K223 (ninS (Nat.ne_of_lt (Nat.lt_of_lt_of_le IE.lt sz_b216)) (ninS (Nat.ne_of_lt (Nat.lt_of_lt_of_le IE.lt sz_d218)) nin0))).keep K231 (ninS (Nat.ne_of_lt (Nat.lt_of_lt_of_le IE.lt sz_b216)) (ninS (Nat.ne_of_lt (Nat.lt_of_lt_of_le IE.lt sz_d223)) nin0))).ext E232).keep K236 (ninS (Nat.ne_of_lt (Nat.lt_of_lt_of_le IE.lt sz_b216)) (ninS (Nat.ne_of_lt (Nat.lt_of_lt_of_le IE.lt sz_d231)) nin0))).keep K244 (ninS (Nat.ne_of_lt (Nat.lt_of_lt_of_le IE.lt sz_b216)) (ninS (Nat.ne_of_lt (Nat.lt_of_lt_of_le IE.lt sz_d236)) nin0))).keep K246 nin0).ext E247).ext E248).keep K251 (ninS (Nat.ne_of_lt (Nat.lt_of_lt_of_le IE.lt sz_b248)) nin0)).ext E252).keep K256 (ninS (Nat.ne_of_lt (Nat.lt_of_lt_of_le IE.lt sz_b248)) (ninS (Nat.ne_of_lt (Nat.lt_of_lt_of_le IE.lt sz_d251)) nin0)))
  have q262 := ((((((((((((((IV.ext E216).keep K218 (ninS (Nat.ne_of_lt (Nat.lt_of_lt_of_le IV.lt sz_b216)) nin0)).ext E219).keep K223 (ninS (Nat.ne_of_lt (Nat.lt_of_lt_of_le IV.lt sz_b216)) (ninS (Nat.ne_of_lt (Nat.lt_of_lt_of_le IV.lt sz_d218)) nin0))).keep K231 (ninS (Nat.ne_of_lt (Nat.lt_of_lt_of_le IV.lt sz_b216)) (ninS (Nat.ne_of_lt (Nat.lt_of_lt_of_le IV.lt sz_d223)) nin0))).ext E232).keep K236 (ninS (Nat.ne_of_lt (Nat.lt_of_lt_of_le IV.lt sz_b216)) (ninS (Nat.ne_of_lt (Nat.lt_of_lt_of_le IV.lt sz_d231)) nin0))).keep K244 (ninS (Nat.ne_of_lt (Nat.lt_of_lt_of_le IV.lt sz_b216)) (ninS (Nat.ne_of_lt (Nat.lt_of_lt_of_le IV.lt sz_d236)) nin0))).keep K246 nin0).ext E247).ext E248).keep K251 (ninS (Nat.ne_of_lt (Nat.lt_of_lt_of_le IV.lt sz_b248)) nin0)).ext E252).keep K256 (ninS (Nat.ne_of_lt (Nat.lt_of_lt_of_le IV.lt sz_b248)) (ninS (Nat.ne_of_lt (Nat.lt_of_lt_of_le IV.lt sz_d251)) nin0)))
  have q263 := (Safe.keep K256 (sfS q255 (sfS q253 sf0)) H252 q255)
  obtain ⟨v264, T264, L264, X264, hQ264, st264⟩ := vcall X256 hx hZ252 hown252 (hw _ (List.mem_of_getElem? (i := 69) rfl)) (hw _ (List.mem_of_getElem? (i := 70) rfl)) (hw _ (List.mem_of_getElem? (i := 72) rfl)) rfl (hw _ (List.mem_of_getElem? (i := 72) rfl)) (hw _ (List.mem_of_getElem? (i := 71) rfl)) (hw _ (List.mem_of_getElem? (i := 50) rfl)) (hw _ (List.mem_of_getElem? (i := 73) rfl)) (by decide) (W := 2) (rm_sbAppG l Z a0 hw [] b248 d256 k256 16 W256 a1 e1 k1 us zc wf n0 T256.heap SS' q258 ⟨JE256, JF256, JC256, JN256, JV256, JX256⟩ (by decide) (by rw [lW256]; decide) ⟨q259, q260, q261, q262⟩ (Nat.le_trans Z0 sz_b248) (Nat.le_trans Z0 sz_d256) (by rw [lW256, hus]; decide) (Nat.ne_of_lt (Nat.lt_of_lt_of_le IV.lt sz_d256)) (Nat.ne_of_lt (Nat.lt_of_lt_of_le IE.lt sz_b248))) rfl (by decide) (by decide) (by decide) (by decide) (g := (mkF m 55 #[.val (.ref a1), .val (.ref a2), .val (.ref a3), .val (.ref a246)] [(.ref a1), (.ref b248), (.ref b247), (.ref b247)])) rfl (by rw [hml]; rfl) JE256 (argsL := [(.ref a1)]) (rest := [(.ref b247), (.ref b247)]) opd_26 rfl rfl rfl (by show 2 * 0 + _ ≤ _; exact Nat.le_of_eq rfl) (hb hby d_prog_4_method_6_55)
  obtain ⟨rfl, N264, K264, d264, k264, hd264, J264⟩ := hQ264
  have NN264 := Fr.app NN256 N264
  have KK264 : Keep h0 T264.heap [] := KK256.trans K264 (allS (Or.inr sz_b248) (allS (Or.inr sz_d256) all0))
  have H264 := CHv.keep K264 (sfS q263 (sfS q257 sf0)) H256
  have R264 := CHr.trans R256 (CHr.keep K264 (sfS q263 (sfS q257 sf0)) H256)
  refine OGo.step st264 ?_
  show OGo p e below _ T264 (mkF m 58 #[.val (.ref a1), .val (.ref a2), .val (.ref a3), .val (.ref a246)] [(.ref b248), (.ref b247), (.ref b247)])
  obtain ⟨W264, hW264⟩ : ∃ z, z = W256 ++ us := ⟨_, rfl⟩
  have lW264 : W264.length = 13 := by rw [hW264, List.length_append, lW256, hus]
  rw [show own_cap 16 (W256.length + us.length) = 16 from (by rw [lW256, hus]; rfl), ← hW264] at J264
  obtain ⟨JE264, JF264, JC264, JN264, JV264, JX264⟩ := J264
  have sz_d264 : h0.size ≤ d264 := hd264.elim (fun q => q ▸ sz_d256) (fun q => Nat.le_trans KK256.1 q)
  have nb264 : b248 ≠ d264 := JE264.neArv JV264 (hw _ (List.mem_of_getElem? (i := 49) rfl))
  obtain ⟨a265, T265, h265, kk265, d265, kd265, X265, e265, E265, hS265, hk265, hZ265, hown265, A265, C265, F265, V265, lt265, ltd265, CR265, Li265, sf265, st265⟩ := ldcCH X264 hx hZ252 hown252 (hw _ (List.mem_of_getElem? (i := 185) rfl)) (own_wS hw) rfl hS252 (Nat.le_trans (Nat.le_trans hk252 K256.1) K264.1) (own_hEL hw) (List.mem_of_getElem? (i := 0) rfl) H264 (vs := [(.int (32 : Int32))]) (z := (1 : Int32)) (by decide) (by decide) (by decide) (g := (mkF m 58 #[.val (.ref a1), .val (.ref a2), .val (.ref a3), .val (.ref a246)] [(.ref b248), (.ref b247), (.ref b247)])) rfl (hb hby d_prog_4_method_6_58) (n := 4) (by decide) (by decide) (by decide) (by decide)
  have KK265 : Keep h0 h265 [] := KK264.ext E265
  have H265 := CR265.1
  have R265 := CHr.trans R264 CR265
  refine OGo.step st265 ?_
  show OGo p e below _ T265 (mkF m 60 #[.val (.ref a1), .val (.ref a2), .val (.ref a3), .val (.ref a246)] [(.ref a265), (.ref b248), (.ref b247), (.ref b247)])
  have LV265 : Arv Z h265 d265 kd265 .byte (Int32.ofNat own_l54.length) own_l54 (.int (0 : Int32)) := V265
  have q266 := (CHr.safe CR265 JV264.lt (Safe.keep K264 (sfS q263 (sfS q257 sf0)) H256 (own_safeAlt q257 hd264)))
  have q267 := ((q258.keep K264 (allS (Nat.le_trans Z0 sz_b248) (allS (Nat.le_trans Z0 sz_d256) all0))).ext E265)
  have q268 := (CHr.safe CR265 JF264.lt (Safe.keep K264 (sfS q263 (sfS q257 sf0)) H256 q263))
  obtain ⟨v269, T269, L269, X269, hQ269, st269⟩ := vcall X265 hx hZ265 hown265 (hw _ (List.mem_of_getElem? (i := 69) rfl)) (hw _ (List.mem_of_getElem? (i := 70) rfl)) (hw _ (List.mem_of_getElem? (i := 72) rfl)) rfl (hw _ (List.mem_of_getElem? (i := 72) rfl)) (hw _ (List.mem_of_getElem? (i := 71) rfl)) (hw _ (List.mem_of_getElem? (i := 50) rfl)) (hw _ (List.mem_of_getElem? (i := 73) rfl)) (by decide) (W := 2) (rm_sbAppG l Z a0 hw [] b248 d264 k264 16 W264 a265 d265 kd265 own_l54 zc wf n0 h265 SS' q267 ⟨(JE264.ext E265), (JF264.ext E265), (JC264.ext E265), (JN264.ext E265), (JV264.ext E265), (JX264.ext E265)⟩ (by decide) (by rw [lW264]; decide) ⟨A265, C265, F265, LV265⟩ (Nat.le_trans Z0 sz_b248) (Nat.le_trans Z0 sz_d264) (by rw [lW264, own_n54]; decide) (Ne.symm (sf265 _ q266).2) (Ne.symm (sf265 _ q268).1)) e265 (by decide) (by decide) (by decide) (by decide) (g := (mkF m 60 #[.val (.ref a1), .val (.ref a2), .val (.ref a3), .val (.ref a246)] [(.ref a265), (.ref b248), (.ref b247), (.ref b247)])) rfl (by rw [hml]; rfl) (JE264.ext E265) (argsL := [(.ref a265)]) (rest := [(.ref b247), (.ref b247)]) opd_26 rfl rfl rfl (by show 2 * 0 + _ ≤ _; exact Nat.le_of_eq rfl) (hb hby d_prog_4_method_6_60)
  obtain ⟨rfl, N269, K269, d269, k269, hd269, J269⟩ := hQ269
  have NN269 := Fr.app NN264 N269
  have KK269 : Keep h0 T269.heap [] := KK265.trans K269 (allS (Or.inr sz_b248) (allS (Or.inr sz_d264) all0))
  have H269 := CHv.keep K269 (sfS q268 (sfS q266 sf0)) H265
  have R269 := CHr.trans R265 (CHr.keep K269 (sfS q268 (sfS q266 sf0)) H265)
  refine OGo.step st269 ?_
  show OGo p e below _ T269 (mkF m 63 #[.val (.ref a1), .val (.ref a2), .val (.ref a3), .val (.ref a246)] [(.ref b248), (.ref b247), (.ref b247)])
  obtain ⟨W269, hW269⟩ : ∃ z, z = W264 ++ own_l54 := ⟨_, rfl⟩
  have lW269 : W269.length = 14 := by rw [hW269, List.length_append, lW264, own_n54]
  rw [show own_cap 16 (W264.length + own_l54.length) = 16 from (by rw [lW264, own_n54]; rfl), ← hW269] at J269
  obtain ⟨JE269, JF269, JC269, JN269, JV269, JX269⟩ := J269
  have sz_d269 : h0.size ≤ d269 := hd269.elim (fun q => q ▸ sz_d264) (fun q => Nat.le_trans KK265.1 q)
  have nb269 : b248 ≠ d269 := JE269.neArv JV269 (hw _ (List.mem_of_getElem? (i := 49) rfl))
  refine OGo.step (fun _ k => XS.aloadN X269.here hx rfl (hb hby d_prog_4_method_6_63) rfl rfl k) ?_
  show OGo p e below _ T269 (mkF m 64 #[.val (.ref a1), .val (.ref a2), .val (.ref a3), .val (.ref a246)] [(.ref a246), (.ref b248), (.ref b247), (.ref b247)])
  have q270 := (Safe.keep K269 (sfS q268 (sfS q266 sf0)) H265 (own_safeAlt q266 hd269))
  have q271 := (q267.keep K269 (allS (Nat.le_trans Z0 sz_b248) (allS (Nat.le_trans Z0 sz_d264) all0)))
  have q272 := ((((((((IE246.ext E247).ext E248).keep K251).ext E252).keep K256).keep K264).ext E265).keep K269)
  have ne273 : a246 ≠ b248 := (Nat.ne_of_lt (Nat.lt_of_lt_of_le (IE246.ext E247).lt (Nat.le_of_eq g248.symm)))
  have ne274 : a246 ≠ d251 := (Nat.ne_of_lt (Nat.lt_of_lt_of_le ((IE246.ext E247).ext E248).lt sd251))
  have ne275 : a246 ≠ d256 := (own_nen ((((IE246.ext E247).ext E248).keep K251).ext E252).lt ne274 hd256)
  have ne276 : a246 ≠ d264 := (own_nen (((((IE246.ext E247).ext E248).keep K251).ext E252).keep K256).lt ne275 hd264)
  have q277 := ((((((((IC246.ext E247).ext E248).keep K251 (ninS ne273 nin0)).ext E252).keep K256 (ninS ne273 (ninS ne274 nin0))).keep K264 (ninS ne273 (ninS ne275 nin0))).ext E265).keep K269 (ninS ne273 (ninS ne276 nin0)))
  have q278 := ((((((((IF246.ext E247).ext E248).keep K251 (ninS ne273 nin0)).ext E252).keep K256 (ninS ne273 (ninS ne274 nin0))).keep K264 (ninS ne273 (ninS ne275 nin0))).ext E265).keep K269 (ninS ne273 (ninS ne276 nin0)))
  have ne279 : r246 ≠ b248 := (Nat.ne_of_lt (Nat.lt_of_lt_of_le (IV246.ext E247).lt (Nat.le_of_eq g248.symm)))
  have ne280 : r246 ≠ d251 := (Nat.ne_of_lt (Nat.lt_of_lt_of_le ((IV246.ext E247).ext E248).lt sd251))
  have ne281 : r246 ≠ d256 := (own_nen ((((IV246.ext E247).ext E248).keep K251 (ninS ne279 nin0)).ext E252).lt ne280 hd256)
  have ne282 : r246 ≠ d264 := (own_nen (((((IV246.ext E247).ext E248).keep K251 (ninS ne279 nin0)).ext E252).keep K256 (ninS ne279 (ninS ne280 nin0))).lt ne281 hd264)
  have q283 := ((((((((IV246.ext E247).ext E248).keep K251 (ninS ne279 nin0)).ext E252).keep K256 (ninS ne279 (ninS ne280 nin0))).keep K264 (ninS ne279 (ninS ne281 nin0))).ext E265).keep K269 (ninS ne279 (ninS ne282 nin0)))
  have ne284 : r246 ≠ d269 := (own_nen (((((((IV246.ext E247).ext E248).keep K251 (ninS ne279 nin0)).ext E252).keep K256 (ninS ne279 (ninS ne280 nin0))).keep K264 (ninS ne279 (ninS ne281 nin0))).ext E265).lt ne282 hd269)
  have q285 := (Safe.keep K269 (sfS q268 (sfS q266 sf0)) H265 q268)
  obtain ⟨v286, T286, L286, X286, hQ286, st286⟩ := vcall X269 hx hZ265 hown265 (hw _ (List.mem_of_getElem? (i := 69) rfl)) (hw _ (List.mem_of_getElem? (i := 70) rfl)) (hw _ (List.mem_of_getElem? (i := 72) rfl)) rfl (hw _ (List.mem_of_getElem? (i := 72) rfl)) (hw _ (List.mem_of_getElem? (i := 71) rfl)) (hw _ (List.mem_of_getElem? (i := 50) rfl)) (hw _ (List.mem_of_getElem? (i := 73) rfl)) (by decide) (W := 2) (rm_sbAppG l Z a0 hw [] b248 d269 k269 16 W269 a246 r246 kr246 W244 zc wf n0 T269.heap SS' q271 ⟨JE269, JF269, JC269, JN269, JV269, JX269⟩ (by decide) (by rw [lW269]; decide) ⟨q272, q277, q278, q283⟩ (Nat.le_trans Z0 sz_b248) (Nat.le_trans Z0 sz_d269) (by rw [lW269, lW244]; decide) ne284 ne273) rfl (by decide) (by decide) (by decide) (by decide) (g := (mkF m 64 #[.val (.ref a1), .val (.ref a2), .val (.ref a3), .val (.ref a246)] [(.ref a246), (.ref b248), (.ref b247), (.ref b247)])) rfl (by rw [hml]; rfl) JE269 (argsL := [(.ref a246)]) (rest := [(.ref b247), (.ref b247)]) opd_26 rfl rfl rfl (by show 2 * 0 + _ ≤ _; exact Nat.le_of_eq rfl) (hb hby d_prog_4_method_6_64)
  obtain ⟨rfl, N286, K286, d286, k286, hd286, J286⟩ := hQ286
  have NN286 := Fr.app NN269 N286
  have KK286 : Keep h0 T286.heap [] := KK269.trans K286 (allS (Or.inr sz_b248) (allS (Or.inr sz_d269) all0))
  have H286 := CHv.keep K286 (sfS q285 (sfS q270 sf0)) H269
  have R286 := CHr.trans R269 (CHr.keep K286 (sfS q285 (sfS q270 sf0)) H269)
  refine OGo.step st286 ?_
  show OGo p e below _ T286 (mkF m 67 #[.val (.ref a1), .val (.ref a2), .val (.ref a3), .val (.ref a246)] [(.ref b248), (.ref b247), (.ref b247)])
  obtain ⟨W286, hW286⟩ : ∃ z, z = W269 ++ W244 := ⟨_, rfl⟩
  have lW286 : W286.length = 48 := by rw [hW286, List.length_append, lW269, lW244]
  rw [show own_cap 16 (W269.length + W244.length) = 48 from (by rw [lW269, lW244]; rfl), ← hW286] at J286
  obtain ⟨JE286, JF286, JC286, JN286, JV286, JX286⟩ := J286
  have sz_d286 : h0.size ≤ d286 := hd286.elim (fun q => q ▸ sz_d269) (fun q => Nat.le_trans KK269.1 q)
  have nb286 : b248 ≠ d286 := JE286.neArv JV286 (hw _ (List.mem_of_getElem? (i := 49) rfl))
  obtain ⟨a287, T287, h287, kk287, d287, kd287, X287, e287, E287, hS287, hk287, hZ287, hown287, A287, C287, F287, V287, lt287, ltd287, CR287, Li287, sf287, st287⟩ := ldcCH X286 hx hZ265 hown265 (hw _ (List.mem_of_getElem? (i := 186) rfl)) (own_wS hw) rfl hS265 (Nat.le_trans (Nat.le_trans hk265 K269.1) K286.1) (own_hEL hw) (List.mem_of_getElem? (i := 5) rfl) H286 (vs := [(.int (59 : Int32)), (.int (32 : Int32)), (.int (114 : Int32)), (.int (101 : Int32)), (.int (97 : Int32)), (.int (100 : Int32)), (.int (32 : Int32))]) (z := (7 : Int32)) (by decide) (by decide) (by decide) (g := (mkF m 67 #[.val (.ref a1), .val (.ref a2), .val (.ref a3), .val (.ref a246)] [(.ref b248), (.ref b247), (.ref b247)])) rfl (hb hby d_prog_4_method_6_67) (n := 28) (by decide) (by decide) (by decide) (by decide)
  have KK287 : Keep h0 h287 [] := KK286.ext E287
  have H287 := CR287.1
  have R287 := CHr.trans R286 CR287
  refine OGo.step st287 ?_
  show OGo p e below _ T287 (mkF m 69 #[.val (.ref a1), .val (.ref a2), .val (.ref a3), .val (.ref a246)] [(.ref a287), (.ref b248), (.ref b247), (.ref b247)])
  have LV287 : Arv Z h287 d287 kd287 .byte (Int32.ofNat own_l75.length) own_l75 (.int (0 : Int32)) := V287
  have q288 := (CHr.safe CR287 JV286.lt (Safe.keep K286 (sfS q285 (sfS q270 sf0)) H269 (own_safeAlt q270 hd286)))
  have q289 := ((q271.keep K286 (allS (Nat.le_trans Z0 sz_b248) (allS (Nat.le_trans Z0 sz_d269) all0))).ext E287)
  have q290 := (CHr.safe CR287 JF286.lt (Safe.keep K286 (sfS q285 (sfS q270 sf0)) H269 q285))
  obtain ⟨v291, T291, L291, X291, hQ291, st291⟩ := vcall X287 hx hZ287 hown287 (hw _ (List.mem_of_getElem? (i := 69) rfl)) (hw _ (List.mem_of_getElem? (i := 70) rfl)) (hw _ (List.mem_of_getElem? (i := 72) rfl)) rfl (hw _ (List.mem_of_getElem? (i := 72) rfl)) (hw _ (List.mem_of_getElem? (i := 71) rfl)) (hw _ (List.mem_of_getElem? (i := 50) rfl)) (hw _ (List.mem_of_getElem? (i := 73) rfl)) (by decide) (W := 2) (rm_sbAppG l Z a0 hw [] b248 d286 k286 48 W286 a287 d287 kd287 own_l75 zc wf n0 h287 SS' q289 ⟨(JE286.ext E287), (JF286.ext E287), (JC286.ext E287), (JN286.ext E287), (JV286.ext E287), (JX286.ext E287)⟩ (by decide) (by rw [lW286]; decide) ⟨A287, C287, F287, LV287⟩ (Nat.le_trans Z0 sz_b248) (Nat.le_trans Z0 sz_d286) (by rw [lW286, own_n75]; decide) (Ne.symm (sf287 _ q288).2) (Ne.symm (sf287 _ q290).1)) e287 (by decide) (by decide) (by decide) (by decide) (g := (mkF m 69 #[.val (.ref a1), .val (.ref a2), .val (.ref a3), .val (.ref a246)] [(.ref a287), (.ref b248), (.ref b247), (.ref b247)])) rfl (by rw [hml]; rfl) (JE286.ext E287) (argsL := [(.ref a287)]) (rest := [(.ref b247), (.ref b247)]) opd_26 rfl rfl rfl (by show 2 * 0 + _ ≤ _; exact Nat.le_of_eq rfl) (hb hby d_prog_4_method_6_69)
  obtain ⟨rfl, N291, K291, d291, k291, hd291, J291⟩ := hQ291
  have NN291 := Fr.app NN286 N291
  have KK291 : Keep h0 T291.heap [] := KK287.trans K291 (allS (Or.inr sz_b248) (allS (Or.inr sz_d286) all0))
  have H291 := CHv.keep K291 (sfS q290 (sfS q288 sf0)) H287
  have R291 := CHr.trans R287 (CHr.keep K291 (sfS q290 (sfS q288 sf0)) H287)
  refine OGo.step st291 ?_
  show OGo p e below _ T291 (mkF m 72 #[.val (.ref a1), .val (.ref a2), .val (.ref a3), .val (.ref a246)] [(.ref b248), (.ref b247), (.ref b247)])
  obtain ⟨W291, hW291⟩ : ∃ z, z = W286 ++ own_l75 := ⟨_, rfl⟩
  have lW291 : W291.length = 55 := by rw [hW291, List.length_append, lW286, own_n75]
  rw [show own_cap 48 (W286.length + own_l75.length) = 98 from (by rw [lW286, own_n75]; rfl), ← hW291] at J291
  obtain ⟨JE291, JF291, JC291, JN291, JV291, JX291⟩ := J291
  have sz_d291 : h0.size ≤ d291 := hd291.elim (fun q => q ▸ sz_d286) (fun q => Nat.le_trans KK287.1 q)
  have nb291 : b248 ≠ d291 := JE291.neArv JV291 (hw _ (List.mem_of_getElem? (i := 49) rfl))
  refine OGo.step (fun _ k => XS.aloadN X291.here hx rfl (hb hby d_prog_4_method_6_72) rfl rfl k) ?_
  show OGo p e below _ T291 (mkF m 73 #[.val (.ref a1), .val (.ref a2), .val (.ref a3), .val (.ref a246)] [(.ref a3), (.ref b248), (.ref b247), (.ref b247)])
  have q292 := (Safe.keep K291 (sfS q290 (sfS q288 sf0)) H287 (own_safeAlt q288 hd291))
  have q293 := (q289.keep K291 (allS (Nat.le_trans Z0 sz_b248) (allS (Nat.le_trans Z0 sz_d286) all0)))
  have q294 := (((((((((((((q239.keep K244).keep K246).ext E247).ext E248).keep K251).ext E252).keep K256).keep K264).ext E265).keep K269).keep K286).ext E287).keep K291)
  have q295 := (((((((((((((q240.keep K244 (ninS (Nat.ne_of_lt (Nat.lt_of_lt_of_le I3E.lt sz_b216)) (ninS (Nat.ne_of_lt (Nat.lt_of_lt_of_le I3E.lt sz_d236)) nin0))).keep K246 nin0).ext E247).ext E248).keep K251 (ninS (Nat.ne_of_lt (Nat.lt_of_lt_of_le I3E.lt sz_b248)) nin0)).ext E252).keep K256 (ninS (Nat.ne_of_lt (Nat.lt_of_lt_of_le I3E.lt sz_b248)) (ninS (Nat.ne_of_lt (Nat.lt_of_lt_of_le I3E.lt sz_d251)) nin0))).keep K264 (ninS (Nat.ne_of_lt (Nat.lt_of_lt_of_le I3E.lt sz_b248)) (ninS (Nat.ne_of_lt (Nat.lt_of_lt_of_le I3E.lt sz_d256)) nin0))).ext E265).keep K269 (ninS (Nat.ne_of_lt (Nat.lt_of_lt_of_le I3E.lt sz_b248)) (ninS (Nat.ne_of_lt (Nat.lt_of_lt_of_le I3E.lt sz_d264)) nin0))).keep K286 (ninS (Nat.ne_of_lt (Nat.lt_of_lt_of_le I3E.lt sz_b248)) (ninS (Nat.ne_of_lt (Nat.lt_of_lt_of_le I3E.lt sz_d269)) nin0))).ext E287).keep K291 (ninS (Nat.ne_of_lt (Nat.lt_of_lt_of_le I3E.lt sz_b248)) (ninS (Nat.ne_of_lt (Nat.lt_of_lt_of_le I3E.lt sz_d286)) nin0)))
  have q296 := (((((((((((((q241.keep K244 (ninS (Nat.ne_of_lt (Nat.lt_of_lt_of_le I3E.lt sz_b216)) (ninS (Nat.ne_of_lt (Nat.lt_of_lt_of_le I3E.lt sz_d236)) nin0))).keep K246 nin0).ext E247).ext E248).keep K251 (ninS (Nat.ne_of_lt (Nat.lt_of_lt_of_le I3E.lt sz_b248)) nin0)).ext E252).keep K256 (ninS (Nat.ne_of_lt (Nat.lt_of_lt_of_le I3E.lt sz_b248)) (ninS (Nat.ne_of_lt (Nat.lt_of_lt_of_le I3E.lt sz_d251)) nin0))).keep K264 (ninS (Nat.ne_of_lt (Nat.lt_of_lt_of_le I3E.lt sz_b248)) (ninS (Nat.ne_of_lt (Nat.lt_of_lt_of_le I3E.lt sz_d256)) nin0))).ext E265).keep K269 (ninS (Nat.ne_of_lt (Nat.lt_of_lt_of_le I3E.lt sz_b248)) (ninS (Nat.ne_of_lt (Nat.lt_of_lt_of_le I3E.lt sz_d264)) nin0))).keep K286 (ninS (Nat.ne_of_lt (Nat.lt_of_lt_of_le I3E.lt sz_b248)) (ninS (Nat.ne_of_lt (Nat.lt_of_lt_of_le I3E.lt sz_d269)) nin0))).ext E287).keep K291 (ninS (Nat.ne_of_lt (Nat.lt_of_lt_of_le I3E.lt sz_b248)) (ninS (Nat.ne_of_lt (Nat.lt_of_lt_of_le I3E.lt sz_d286)) nin0)))
  have q297 := (((((((((((((q242.keep K244 (ninS (Nat.ne_of_lt (Nat.lt_of_lt_of_le I3V.lt sz_b216)) (ninS (Nat.ne_of_lt (Nat.lt_of_lt_of_le I3V.lt sz_d236)) nin0))).keep K246 nin0).ext E247).ext E248).keep K251 (ninS (Nat.ne_of_lt (Nat.lt_of_lt_of_le I3V.lt sz_b248)) nin0)).ext E252).keep K256 (ninS (Nat.ne_of_lt (Nat.lt_of_lt_of_le I3V.lt sz_b248)) (ninS (Nat.ne_of_lt (Nat.lt_of_lt_of_le I3V.lt sz_d251)) nin0))).keep K264 (ninS (Nat.ne_of_lt (Nat.lt_of_lt_of_le I3V.lt sz_b248)) (ninS (Nat.ne_of_lt (Nat.lt_of_lt_of_le I3V.lt sz_d256)) nin0))).ext E265).keep K269 (ninS (Nat.ne_of_lt (Nat.lt_of_lt_of_le I3V.lt sz_b248)) (ninS (Nat.ne_of_lt (Nat.lt_of_lt_of_le I3V.lt sz_d264)) nin0))).keep K286 (ninS (Nat.ne_of_lt (Nat.lt_of_lt_of_le I3V.lt sz_b248)) (ninS (Nat.ne_of_lt (Nat.lt_of_lt_of_le I3V.lt sz_d269)) nin0))).ext E287).keep K291 (ninS (Nat.ne_of_lt (Nat.lt_of_lt_of_le I3V.lt sz_b248)) (ninS (Nat.ne_of_lt (Nat.lt_of_lt_of_le I3V.lt sz_d286)) nin0)))
  have q298 := (Safe.keep K291 (sfS q290 (sfS q288 sf0)) H287 q290)
  obtain ⟨v299, T299, L299, X299, hQ299, st299⟩ := vcall X291 hx hZ287 hown287 (hw _ (List.mem_of_getElem? (i := 69) rfl)) (hw _ (List.mem_of_getElem? (i := 70) rfl)) (hw _ (List.mem_of_getElem? (i := 72) rfl)) rfl (hw _ (List.mem_of_getElem? (i := 72) rfl)) (hw _ (List.mem_of_getElem? (i := 71) rfl)) (hw _ (List.mem_of_getElem? (i := 50) rfl)) (hw _ (List.mem_of_getElem? (i := 73) rfl)) (by decide) (W := 2) (rm_sbAppG l Z a0 hw [] b248 d291 k291 98 W291 a3 e3 k3 ts zc wf n0 T291.heap SS' q293 ⟨JE291, JF291, JC291, JN291, JV291, JX291⟩ (by decide) (by rw [lW291]; decide) ⟨q294, q295, q296, q297⟩ (Nat.le_trans Z0 sz_b248) (Nat.le_trans Z0 sz_d291) (by rw [lW291, hts]; decide) (Nat.ne_of_lt (Nat.lt_of_lt_of_le I3V.lt sz_d291)) (Nat.ne_of_lt (Nat.lt_of_lt_of_le I3E.lt sz_b248))) rfl (by decide) (by decide) (by decide) (by decide) (g := (mkF m 73 #[.val (.ref a1), .val (.ref a2), .val (.ref a3), .val (.ref a246)] [(.ref a3), (.ref b248), (.ref b247), (.ref b247)])) rfl (by rw [hml]; rfl) JE291 (argsL := [(.ref a3)]) (rest := [(.ref b247), (.ref b247)]) opd_26 rfl rfl rfl (by show 2 * 0 + _ ≤ _; exact Nat.le_of_eq rfl) (hb hby d_prog_4_method_6_73)
  obtain ⟨rfl, N299, K299, d299, k299, hd299, J299⟩ := hQ299
  have NN299 := Fr.app NN291 N299
  have KK299 : Keep h0 T299.heap [] := KK291.trans K299 (allS (Or.inr sz_b248) (allS (Or.inr sz_d291) all0))
  have H299 := CHv.keep K299 (sfS q298 (sfS q292 sf0)) H291
  have R299 := CHr.trans R291 (CHr.keep K299 (sfS q298 (sfS q292 sf0)) H291)
  refine OGo.step st299 ?_
  show OGo p e below _ T299 (mkF m 76 #[.val (.ref a1), .val (.ref a2), .val (.ref a3), .val (.ref a246)] [(.ref b248), (.ref b247), (.ref b247)])
  obtain ⟨W299, hW299⟩ : ∃ z, z = W291 ++ ts := ⟨_, rfl⟩
  have lW299 : W299.length = 56 := by rw [hW299, List.length_append, lW291, hts]
  rw [show own_cap 98 (W291.length + ts.length) = 98 from (by rw [lW291, hts]; rfl), ← hW299] at J299
  obtain ⟨JE299, JF299, JC299, JN299, JV299, JX299⟩ := J299
  have sz_d299 : h0.size ≤ d299 := hd299.elim (fun q => q ▸ sz_d291) (fun q => Nat.le_trans KK291.1 q)
  have nb299 : b248 ≠ d299 := JE299.neArv JV299 (hw _ (List.mem_of_getElem? (i := 49) rfl))
  obtain ⟨a300, T300, h300, kk300, d300, kd300, X300, e300, E300, hS300, hk300, hZ300, hown300, A300, C300, F300, V300, lt300, ltd300, CR300, Li300, sf300, st300⟩ := ldcCH X299 hx hZ287 hown287 (hw _ (List.mem_of_getElem? (i := 187) rfl)) (own_wS hw) rfl hS287 (Nat.le_trans (Nat.le_trans hk287 K291.1) K299.1) (own_hEL hw) (List.mem_of_getElem? (i := 6) rfl) H299 (vs := [(.int (32 : Int32)), (.int (117 : Int32)), (.int (110 : Int32)), (.int (100 : Int32)), (.int (101 : Int32)), (.int (114 : Int32)), (.int (32 : Int32)), (.int (97 : Int32)), (.int (110 : Int32)), (.int (111 : Int32)), (.int (116 : Int32)), (.int (104 : Int32)), (.int (101 : Int32)), (.int (114 : Int32)), (.int (32 : Int32)), (.int (97 : Int32)), (.int (112 : Int32)), (.int (112 : Int32)), (.int (108 : Int32)), (.int (105 : Int32)), (.int (99 : Int32)), (.int (97 : Int32)), (.int (116 : Int32)), (.int (105 : Int32)), (.int (111 : Int32)), (.int (110 : Int32)), (.int (78 : Int32)), (.int (97 : Int32)), (.int (109 : Int32)), (.int (101 : Int32))]) (z := (30 : Int32)) (by decide) (by decide) (by decide) (g := (mkF m 76 #[.val (.ref a1), .val (.ref a2), .val (.ref a3), .val (.ref a246)] [(.ref b248), (.ref b247), (.ref b247)])) rfl (hb hby d_prog_4_method_6_76) (n := 120) (by decide) (by decide) (by decide) (by decide)
  have KK300 : Keep h0 h300 [] := KK299.ext E300
  have H300 := CR300.1
  have R300 := CHr.trans R299 CR300
  refine OGo.step st300 ?_
  show OGo p e below _ T300 (mkF m 78 #[.val (.ref a1), .val (.ref a2), .val (.ref a3), .val (.ref a246)] [(.ref a300), (.ref b248), (.ref b247), (.ref b247)])
  have LV300 : Arv Z h300 d300 kd300 .byte (Int32.ofNat own_l77.length) own_l77 (.int (0 : Int32)) := V300
  have q301 := (CHr.safe CR300 JV299.lt (Safe.keep K299 (sfS q298 (sfS q292 sf0)) H291 (own_safeAlt q292 hd299)))
  have q302 := ((q293.keep K299 (allS (Nat.le_trans Z0 sz_b248) (allS (Nat.le_trans Z0 sz_d291) all0))).ext E300)
  have q303 := (CHr.safe CR300 JF299.lt (Safe.keep K299 (sfS q298 (sfS q292 sf0)) H291 q298))
  obtain ⟨v304, T304, L304, X304, hQ304, st304⟩ := vcall X300 hx hZ300 hown300 (hw _ (List.mem_of_getElem? (i := 69) rfl)) (hw _ (List.mem_of_getElem? (i := 70) rfl)) (hw _ (List.mem_of_getElem? (i := 72) rfl)) rfl (hw _ (List.mem_of_getElem? (i := 72) rfl)) (hw _ (List.mem_of_getElem? (i := 71) rfl)) (hw _ (List.mem_of_getElem? (i := 50) rfl)) (hw _ (List.mem_of_getElem? (i := 73) rfl)) (by decide) (W := 2) (rm_sbAppG l Z a0 hw [] b248 d299 k299 98 W299 a300 d300 kd300 own_l77 zc wf n0 h300 SS' q302 ⟨(JE299.ext E300), (JF299.ext E300), (JC299.ext E300), (JN299.ext E300), (JV299.ext E300), (JX299.ext E300)⟩ (by decide) (by rw [lW299]; decide) ⟨A300, C300, F300, LV300⟩ (Nat.le_trans Z0 sz_b248) (Nat.le_trans Z0 sz_d299) (by rw [lW299, own_n77]; decide) (Ne.symm (sf300 _ q301).2) (Ne.symm (sf300 _ q303).1)) e300 (by decide) (by decide) (by decide) (by decide) (g := (mkF m 78 #[.val (.ref a1), .val (.ref a2), .val (.ref a3), .val (.ref a246)] [(.ref a300), (.ref b248), (.ref b247), (.ref b247)])) rfl (by rw [hml]; rfl) (JE299.ext E300) (argsL := [(.ref a300)]) (rest := [(.ref b247), (.ref b247)]) opd_26 rfl rfl rfl (by show 2 * 0 + _ ≤ _; exact Nat.le_of_eq rfl) (hb hby d_prog_4_method_6_78)
  obtain ⟨rfl, N304, K304, d304, k304, hd304, J304⟩ := hQ304
  have NN304 := Fr.app NN299 N304
  have KK304 : Keep h0 T304.heap [] := KK300.trans K304 (allS (Or.inr sz_b248) (allS (Or.inr sz_d299) all0))
  have H304 := CHv.keep K304 (sfS q303 (sfS q301 sf0)) H300
  have R304 := CHr.trans R300 (CHr.keep K304 (sfS q303 (sfS q301 sf0)) H300)
  refine OGo.step st304 ?_
  show OGo p e below _ T304 (mkF m 81 #[.val (.ref a1), .val (.ref a2), .val (.ref a3), .val (.ref a246)] [(.ref b248), (.ref b247), (.ref b247)])
  obtain ⟨W304, hW304⟩ : ∃ z, z = W299 ++ own_l77 := ⟨_, rfl⟩
  have lW304 : W304.length = 86 := by rw [hW304, List.length_append, lW299, own_n77]
  rw [show own_cap 98 (W299.length + own_l77.length) = 98 from (by rw [lW299, own_n77]; rfl), ← hW304] at J304
  obtain ⟨JE304, JF304, JC304, JN304, JV304, JX304⟩ := J304
  have sz_d304 : h0.size ≤ d304 := hd304.elim (fun q => q ▸ sz_d299) (fun q => Nat.le_trans KK300.1 q)
  have nb304 : b248 ≠ d304 := JE304.neArv JV304 (hw _ (List.mem_of_getElem? (i := 49) rfl))
  have q305 := (q302.keep K304 (allS (Nat.le_trans Z0 sz_b248) (allS (Nat.le_trans Z0 sz_d299) all0)))
  obtain ⟨v306, T306, L306, X306, hQ306, st306⟩ := vcall X304 hx hZ300 hown300 (hw _ (List.mem_of_getElem? (i := 140) rfl)) (hw _ (List.mem_of_getElem? (i := 141) rfl)) (hw _ (List.mem_of_getElem? (i := 143) rfl)) rfl (hw _ (List.mem_of_getElem? (i := 143) rfl)) (hw _ (List.mem_of_getElem? (i := 142) rfl)) (hw _ (List.mem_of_getElem? (i := 50) rfl)) (hw _ (List.mem_of_getElem? (i := 144) rfl)) (by decide) (W := 2) (rm_toS l Z a0 hw [] b248 d304 k304 98 W304 zc wf n0 T304.heap SS' q305 ⟨JE304, JF304, JC304, JN304, JV304, JX304⟩ (by decide) (by rw [lW304]; decide) (by rw [lW304]; decide)) rfl (by decide) (by decide) (by decide) (by decide) (g := (mkF m 81 #[.val (.ref a1), .val (.ref a2), .val (.ref a3), .val (.ref a246)] [(.ref b248), (.ref b247), (.ref b247)])) rfl (by rw [hml]; rfl) JE304 (argsL := []) (rest := [(.ref b247), (.ref b247)]) opd_27 rfl rfl rfl (by show 2 * 0 + _ ≤ _; exact Nat.le_of_eq rfl) (hb hby d_prog_4_method_6_81)
  obtain ⟨a306, r306, kr306, rfl, sa306, sr306, N306, K306, I306⟩ := hQ306
  have NN306 := Fr.app NN304 N306
  have KK306 : Keep h0 T306.heap [] := KK304.trans K306 all0
  have H306 := CHv.keep K306 sf0 H304
  have R306 := CHr.trans R304 (CHr.keep K306 sf0 H304)
  have sz_a306 : h0.size ≤ a306 := Nat.le_trans KK304.1 sa306
  have sz_r306 : h0.size ≤ r306 := Nat.le_trans KK304.1 sr306
  refine OGo.step st306 ?_
  show OGo p e below _ T306 (mkF m 84 #[.val (.ref a1), .val (.ref a2), .val (.ref a3), .val (.ref a246)] [(.ref a306), (.ref b247), (.ref b247)])
  obtain ⟨IE306, IC306, IF306, IV306⟩ := I306
  have q307 := ((((((((((((((A247.ext E248).keep K251).ext E252).keep K256).keep K264).ext E265).keep K269).keep K286).ext E287).keep K291).keep K299).ext E300).keep K304).keep K306)
  have ne308 : b247 ≠ b248 := (Nat.ne_of_lt (Nat.lt_of_lt_of_le F247_cause.lt (Nat.le_of_eq g248.symm)))
  have ne309 : b247 ≠ d251 := (Nat.ne_of_lt (Nat.lt_of_lt_of_le (F247_cause.ext E248).lt sd251))
  have ne310 : b247 ≠ d256 := (own_nen (((F247_cause.ext E248).keep K251 (ninS ne308 nin0)).ext E252).lt ne309 hd256)
  have ne311 : b247 ≠ d264 := (own_nen ((((F247_cause.ext E248).keep K251 (ninS ne308 nin0)).ext E252).keep K256 (ninS ne308 (ninS ne309 nin0))).lt ne310 hd264)
  have ne312 : b247 ≠ d269 := (own_nen ((((((F247_cause.ext E248).keep K251 (ninS ne308 nin0)).ext E252).keep K256 (ninS ne308 (ninS ne309 nin0))).keep K264 (ninS ne308 (ninS ne310 nin0))).ext E265).lt ne311 hd269)
  have ne313 : b247 ≠ d286 := (own_nen (((((((F247_cause.ext E248).keep K251 (ninS ne308 nin0)).ext E252).keep K256 (ninS ne308 (ninS ne309 nin0))).keep K264 (ninS ne308 (ninS ne310 nin0))).ext E265).keep K269 (ninS ne308 (ninS ne311 nin0))).lt ne312 hd286)
  have ne314 : b247 ≠ d291 := (own_nen (((((((((F247_cause.ext E248).keep K251 (ninS ne308 nin0)).ext E252).keep K256 (ninS ne308 (ninS ne309 nin0))).keep K264 (ninS ne308 (ninS ne310 nin0))).ext E265).keep K269 (ninS ne308 (ninS ne311 nin0))).keep K286 (ninS ne308 (ninS ne312 nin0))).ext E287).lt ne313 hd291)
  have ne315 : b247 ≠ d299 := (own_nen ((((((((((F247_cause.ext E248).keep K251 (ninS ne308 nin0)).ext E252).keep K256 (ninS ne308 (ninS ne309 nin0))).keep K264 (ninS ne308 (ninS ne310 nin0))).ext E265).keep K269 (ninS ne308 (ninS ne311 nin0))).keep K286 (ninS ne308 (ninS ne312 nin0))).ext E287).keep K291 (ninS ne308 (ninS ne313 nin0))).lt ne314 hd299)
  have q316 := (Unt.keep K306 nin0 (Unt.keep K304 (ninS ne308 (ninS ne315 nin0)) (Unt.ext E300 (Unt.keep K299 (ninS ne308 (ninS ne314 nin0)) (Unt.keep K291 (ninS ne308 (ninS ne313 nin0)) (Unt.ext E287 (Unt.keep K286 (ninS ne308 (ninS ne312 nin0)) (Unt.keep K269 (ninS ne308 (ninS ne311 nin0)) (Unt.ext E265 (Unt.keep K264 (ninS ne308 (ninS ne310 nin0)) (Unt.keep K256 (ninS ne308 (ninS ne309 nin0)) (Unt.ext E252 (Unt.keep K251 (ninS ne308 nin0) (Unt.ext E248 UN247))))))))))))))
  have q317 := ((((((((((((((F247_cause.ext E248).keep K251 (ninS ne308 nin0)).ext E252).keep K256 (ninS ne308 (ninS ne309 nin0))).keep K264 (ninS ne308 (ninS ne310 nin0))).ext E265).keep K269 (ninS ne308 (ninS ne311 nin0))).keep K286 (ninS ne308 (ninS ne312 nin0))).ext E287).keep K291 (ninS ne308 (ninS ne313 nin0))).keep K299 (ninS ne308 (ninS ne314 nin0))).ext E300).keep K304 (ninS ne308 (ninS ne315 nin0))).keep K306 nin0)
  have q318 := ((((((((((((((F247_stackTrace.ext E248).keep K251 (ninS ne308 nin0)).ext E252).keep K256 (ninS ne308 (ninS ne309 nin0))).keep K264 (ninS ne308 (ninS ne310 nin0))).ext E265).keep K269 (ninS ne308 (ninS ne311 nin0))).keep K286 (ninS ne308 (ninS ne312 nin0))).ext E287).keep K291 (ninS ne308 (ninS ne313 nin0))).keep K299 (ninS ne308 (ninS ne314 nin0))).ext E300).keep K304 (ninS ne308 (ninS ne315 nin0))).keep K306 nin0)
  have q319 := ((((((((((((((F247_suppressedExceptions.ext E248).keep K251 (ninS ne308 nin0)).ext E252).keep K256 (ninS ne308 (ninS ne309 nin0))).keep K264 (ninS ne308 (ninS ne310 nin0))).ext E265).keep K269 (ninS ne308 (ninS ne311 nin0))).keep K286 (ninS ne308 (ninS ne312 nin0))).ext E287).keep K291 (ninS ne308 (ninS ne313 nin0))).keep K299 (ninS ne308 (ninS ne314 nin0))).ext E300).keep K304 (ninS ne308 (ninS ne315 nin0))).keep K306 nin0)
  have q320 := ((((((((((((((F247_backtrace.ext E248).keep K251 (ninS ne308 nin0)).ext E252).keep K256 (ninS ne308 (ninS ne309 nin0))).keep K264 (ninS ne308 (ninS ne310 nin0))).ext E265).keep K269 (ninS ne308 (ninS ne311 nin0))).keep K286 (ninS ne308 (ninS ne312 nin0))).ext E287).keep K291 (ninS ne308 (ninS ne313 nin0))).keep K299 (ninS ne308 (ninS ne314 nin0))).ext E300).keep K304 (ninS ne308 (ninS ne315 nin0))).keep K306 nin0)
  have q321 := ((((((((((((((F247_detailMessage.ext E248).keep K251 (ninS ne308 nin0)).ext E252).keep K256 (ninS ne308 (ninS ne309 nin0))).keep K264 (ninS ne308 (ninS ne310 nin0))).ext E265).keep K269 (ninS ne308 (ninS ne311 nin0))).keep K286 (ninS ne308 (ninS ne312 nin0))).ext E287).keep K291 (ninS ne308 (ninS ne313 nin0))).keep K299 (ninS ne308 (ninS ne314 nin0))).ext E300).keep K304 (ninS ne308 (ninS ne315 nin0))).keep K306 nin0)
  obtain ⟨v322, T322, L322, kk322, X322, hS322, hk322, hZ322, hown322, CR322, hQ322, st322⟩ := icallK X306 hx hZ300 rfl hown300 (own_hEL hw) hS300 (Nat.le_trans (Nat.le_trans hk300 K304.1) K306.1) H306 hTK hBl (hw _ (List.mem_of_getElem? (i := 194) rfl)) (hw _ (List.mem_of_getElem? (i := 195) rfl)) (hw _ (List.mem_of_getElem? (i := 46) rfl)) (hw _ (List.mem_of_getElem? (i := 196) rfl)) (by decide) (W := 1) (rm_dse l Z a0 hw [] b247 a306 zc wf n0 u0 u1 T306.heap SS' (q305.keep K306 all0) TS hlt q307 q316 (Nat.le_trans Z0 sz_b247) q317 q318 q319 q320 q321) rfl (by decide) (by decide) (by decide) (by decide) (g := (mkF m 84 #[.val (.ref a1), .val (.ref a2), .val (.ref a3), .val (.ref a246)] [(.ref a306), (.ref b247), (.ref b247)])) rfl (by rw [hml]; rfl) (a := b247) (argsL := [(.ref a306)]) (rest := [(.ref b247)]) opd_5 rfl rfl rfl (by show 2 * 0 + _ ≤ _; exact Nat.le_of_eq rfl) (hb hby d_prog_4_method_6_84)
  obtain ⟨rfl, N322, K322, U322, FC322, FM322⟩ := hQ322
  have NN322 := Fr.app NN306 N322
  have KK322 : Keep h0 T322.heap [] := KK306.trans K322 (allS (Or.inr sz_b247) all0)
  have H322 := CR322.1
  have R322 := CHr.trans R306 CR322
  refine OGo.step st322 ?_
  show OGo p e below _ T322 (mkF m 87 #[.val (.ref a1), .val (.ref a2), .val (.ref a3), .val (.ref a246)] [(.ref b247)])
  have hWf : W304 = own_l73 ++ us ++ own_l54 ++ (own_l69 ++ vs ++ own_l71 ++ ts) ++ own_l75 ++ ts ++ own_l77 := by
    rw [hW304, hW299, hW291, hW286, hW269, hW264, hW256, hW244, hW236, hW231, hW223]; simp only [List.nil_append, List.append_assoc]
  have ne323 : a306 ≠ b247 := (Ne.symm (Nat.ne_of_lt (Nat.lt_of_lt_of_le (((((((((((((F247_cause.ext E248).keep K251 (ninS ne308 nin0)).ext E252).keep K256 (ninS ne308 (ninS ne309 nin0))).keep K264 (ninS ne308 (ninS ne310 nin0))).ext E265).keep K269 (ninS ne308 (ninS ne311 nin0))).keep K286 (ninS ne308 (ninS ne312 nin0))).ext E287).keep K291 (ninS ne308 (ninS ne313 nin0))).keep K299 (ninS ne308 (ninS ne314 nin0))).ext E300).keep K304 (ninS ne308 (ninS ne315 nin0))).lt sa306)))
  have ne324 : r306 ≠ b247 := (Ne.symm (Nat.ne_of_lt (Nat.lt_of_lt_of_le (((((((((((((F247_cause.ext E248).keep K251 (ninS ne308 nin0)).ext E252).keep K256 (ninS ne308 (ninS ne309 nin0))).keep K264 (ninS ne308 (ninS ne310 nin0))).ext E265).keep K269 (ninS ne308 (ninS ne311 nin0))).keep K286 (ninS ne308 (ninS ne312 nin0))).ext E287).keep K291 (ninS ne308 (ninS ne313 nin0))).keep K299 (ninS ne308 (ninS ne314 nin0))).ext E300).keep K304 (ninS ne308 (ninS ne315 nin0))).lt sr306)))
  exact OGo.retH X322 hx hZ322 (own_hEL hw) hs0 rfl hS322 hk322 H322 R322 (t := (.object "com/example/drain_shards/drainshards/DrainShardsException")) hret hlk rfl (Or.inr (Or.inr (Or.inr (Or.inr ⟨rfl, rfl, rfl⟩)))) (hb hby d_prog_4_method_6_87) (by decide) (by decide) ⟨b247, a306, r306, _, rfl, sz_b247, sz_a306, NN322, KK322, (q307.keep K322), U322, FC322, FM322, by rw [← hWf]; exact ⟨(IE306.keep K322), (IC306.keep K322 (ninS ne323 nin0)), (IF306.keep K322 (ninS ne323 nin0)), (IV306.keep K322 (ninS ne324 nin0))⟩⟩
theorem own_and255 (x : Int32) : ¬ (x &&& 255) < 0 ∧ ¬ (255 : Int32) < (x &&& 255) := by
  have q := c_and x 255 (by decide)
  have e0 : (0 : Int32).toInt = 0 := rfl
  have e1 : (255 : Int32).toInt = 255 := rfl
  rw [Int32.lt_iff_toInt_lt, Int32.lt_iff_toInt_lt]
  omega
def own_Q (n0 : Nat) : Option Value → Heap → List Loc → Prop := fun v _ L => v = some (.int 1) ∧ Fr n0 L
def own_c1 (x y z : Int32) : List Int32 := [(97 : Int32), (112 : Int32), (112 : Int32), (108 : Int32), (105 : Int32), (99 : Int32), (97 : Int32), (116 : Int32), (105 : Int32), (111 : Int32), (110 : Int32), (32 : Int32), x, (32 : Int32), (104 : Int32), (97 : Int32), (115 : Int32), (32 : Int32), (105 : Int32), (116 : Int32), (115 : Int32), (32 : Int32), (108 : Int32), (101 : Int32), (97 : Int32), (115 : Int32), (101 : Int32), (115 : Int32), (32 : Int32), (102 : Int32), (111 : Int32), (114 : Int32), (32 : Int32), (115 : Int32), (116 : Int32), (114 : Int32), (101 : Int32), (97 : Int32), (109 : Int32), (32 : Int32), y, (44 : Int32), (32 : Int32), (110 : Int32), (111 : Int32), (116 : Int32), (32 : Int32), z, (59 : Int32), (32 : Int32), (114 : Int32), (101 : Int32), (97 : Int32), (100 : Int32), (32 : Int32), z, (32 : Int32), (117 : Int32), (110 : Int32), (100 : Int32), (101 : Int32), (114 : Int32), (32 : Int32), (97 : Int32), (110 : Int32), (111 : Int32), (116 : Int32), (104 : Int32), (101 : Int32), (114 : Int32), (32 : Int32), (97 : Int32), (112 : Int32), (112 : Int32), (108 : Int32), (105 : Int32), (99 : Int32), (97 : Int32), (116 : Int32), (105 : Int32), (111 : Int32), (110 : Int32), (78 : Int32), (97 : Int32), (109 : Int32), (101 : Int32)]
def own_v1 : List Instr := [.bipush 97, .bipush 112, .bipush 112, .bipush 108, .bipush 105, .bipush 99, .bipush 97, .bipush 116, .bipush 105, .bipush 111, .bipush 110, .bipush 32, .iload 4, .bipush 32, .bipush 104, .bipush 97, .bipush 115, .bipush 32, .bipush 105, .bipush 116, .bipush 115, .bipush 32, .bipush 108, .bipush 101, .bipush 97, .bipush 115, .bipush 101, .bipush 115, .bipush 32, .bipush 102, .bipush 111, .bipush 114, .bipush 32, .bipush 115, .bipush 116, .bipush 114, .bipush 101, .bipush 97, .bipush 109, .bipush 32, .iload 5, .bipush 44, .bipush 32, .bipush 110, .bipush 111, .bipush 116, .bipush 32, .iload 6, .bipush 59, .bipush 32, .bipush 114, .bipush 101, .bipush 97, .bipush 100, .bipush 32, .iload 6, .bipush 32, .bipush 117, .bipush 110, .bipush 100, .bipush 101, .bipush 114, .bipush 32, .bipush 97, .bipush 110, .bipush 111, .bipush 116, .bipush 104, .bipush 101, .bipush 114, .bipush 32, .bipush 97, .bipush 112, .bipush 112, .bipush 108, .bipush 105, .bipush 99, .bipush 97, .bipush 116, .bipush 105, .bipush 111, .bipush 110, .bipush 78, .bipush 97, .bipush 109, .bipush 101]
set_option maxRecDepth 65536 in
theorem own_okc1 {x y z : Int32} (hx : ¬ x < 0 ∧ ¬ (255 : Int32) < x) (hy : ¬ y < 0 ∧ ¬ (255 : Int32) < y) (hz : ¬ z < 0 ∧ ¬ (255 : Int32) < z) : own_ok8 (own_c1 x y z) := (own_okS (by decide) (own_okS (by decide) (own_okS (by decide) (own_okS (by decide) (own_okS (by decide) (own_okS (by decide) (own_okS (by decide) (own_okS (by decide) (own_okS (by decide) (own_okS (by decide) (own_okS (by decide) (own_okS (by decide) (own_okS hx (own_okS (by decide) (own_okS (by decide) (own_okS (by decide) (own_okS (by decide) (own_okS (by decide) (own_okS (by decide) (own_okS (by decide) (own_okS (by decide) (own_okS (by decide) (own_okS (by decide) (own_okS (by decide) (own_okS (by decide) (own_okS (by decide) (own_okS (by decide) (own_okS (by decide) (own_okS (by decide) (own_okS (by decide) (own_okS (by decide) (own_okS (by decide) (own_okS (by decide) (own_okS (by decide) (own_okS (by decide) (own_okS (by decide) (own_okS (by decide) (own_okS (by decide) (own_okS (by decide) (own_okS (by decide) (own_okS hy (own_okS (by decide) (own_okS (by decide) (own_okS (by decide) (own_okS (by decide) (own_okS (by decide) (own_okS (by decide) (own_okS hz (own_okS (by decide) (own_okS (by decide) (own_okS (by decide) (own_okS (by decide) (own_okS (by decide) (own_okS (by decide) (own_okS (by decide) (own_okS hz (own_okS (by decide) (own_okS (by decide) (own_okS (by decide) (own_okS (by decide) (own_okS (by decide) (own_okS (by decide) (own_okS (by decide) (own_okS (by decide) (own_okS (by decide) (own_okS (by decide) (own_okS (by decide) (own_okS (by decide) (own_okS (by decide) (own_okS (by decide) (own_okS (by decide) (own_okS (by decide) (own_okS (by decide) (own_okS (by decide) (own_okS (by decide) (own_okS (by decide) (own_okS (by decide) (own_okS (by decide) (own_okS (by decide) (own_okS (by decide) (own_okS (by decide) (own_okS (by decide) (own_okS (by decide) (own_okS (by decide) (own_okS (by decide) (own_okS (by decide) own_ok0))))))))))))))))))))))))))))))))))))))))))))))))))))))))))))))))))))))))))))))))))))))
set_option maxRecDepth 65536 in
theorem own_pvc1 {Ls : Array Slot} {x y z : Int32} (hx : Ls[4]? = some (.val (.int x))) (hy : Ls[5]? = some (.val (.int y))) (hz : Ls[6]? = some (.val (.int z))) : own_pv Ls own_v1 (own_c1 x y z) := ⟨Or.inl ⟨97, rfl, rfl⟩, ⟨Or.inl ⟨112, rfl, rfl⟩, ⟨Or.inl ⟨112, rfl, rfl⟩, ⟨Or.inl ⟨108, rfl, rfl⟩, ⟨Or.inl ⟨105, rfl, rfl⟩, ⟨Or.inl ⟨99, rfl, rfl⟩, ⟨Or.inl ⟨97, rfl, rfl⟩, ⟨Or.inl ⟨116, rfl, rfl⟩, ⟨Or.inl ⟨105, rfl, rfl⟩, ⟨Or.inl ⟨111, rfl, rfl⟩, ⟨Or.inl ⟨110, rfl, rfl⟩, ⟨Or.inl ⟨32, rfl, rfl⟩, ⟨Or.inr ⟨4, rfl, hx⟩, ⟨Or.inl ⟨32, rfl, rfl⟩, ⟨Or.inl ⟨104, rfl, rfl⟩, ⟨Or.inl ⟨97, rfl, rfl⟩, ⟨Or.inl ⟨115, rfl, rfl⟩, ⟨Or.inl ⟨32, rfl, rfl⟩, ⟨Or.inl ⟨105, rfl, rfl⟩, ⟨Or.inl ⟨116, rfl, rfl⟩, ⟨Or.inl ⟨115, rfl, rfl⟩, ⟨Or.inl ⟨32, rfl, rfl⟩, ⟨Or.inl ⟨108, rfl, rfl⟩, ⟨Or.inl ⟨101, rfl, rfl⟩, ⟨Or.inl ⟨97, rfl, rfl⟩, ⟨Or.inl ⟨115, rfl, rfl⟩, ⟨Or.inl ⟨101, rfl, rfl⟩, ⟨Or.inl ⟨115, rfl, rfl⟩, ⟨Or.inl ⟨32, rfl, rfl⟩, ⟨Or.inl ⟨102, rfl, rfl⟩, ⟨Or.inl ⟨111, rfl, rfl⟩, ⟨Or.inl ⟨114, rfl, rfl⟩, ⟨Or.inl ⟨32, rfl, rfl⟩, ⟨Or.inl ⟨115, rfl, rfl⟩, ⟨Or.inl ⟨116, rfl, rfl⟩, ⟨Or.inl ⟨114, rfl, rfl⟩, ⟨Or.inl ⟨101, rfl, rfl⟩, ⟨Or.inl ⟨97, rfl, rfl⟩, ⟨Or.inl ⟨109, rfl, rfl⟩, ⟨Or.inl ⟨32, rfl, rfl⟩, ⟨Or.inr ⟨5, rfl, hy⟩, ⟨Or.inl ⟨44, rfl, rfl⟩, ⟨Or.inl ⟨32, rfl, rfl⟩, ⟨Or.inl ⟨110, rfl, rfl⟩, ⟨Or.inl ⟨111, rfl, rfl⟩, ⟨Or.inl ⟨116, rfl, rfl⟩, ⟨Or.inl ⟨32, rfl, rfl⟩, ⟨Or.inr ⟨6, rfl, hz⟩, ⟨Or.inl ⟨59, rfl, rfl⟩, ⟨Or.inl ⟨32, rfl, rfl⟩, ⟨Or.inl ⟨114, rfl, rfl⟩, ⟨Or.inl ⟨101, rfl, rfl⟩, ⟨Or.inl ⟨97, rfl, rfl⟩, ⟨Or.inl ⟨100, rfl, rfl⟩, ⟨Or.inl ⟨32, rfl, rfl⟩, ⟨Or.inr ⟨6, rfl, hz⟩, ⟨Or.inl ⟨32, rfl, rfl⟩, ⟨Or.inl ⟨117, rfl, rfl⟩, ⟨Or.inl ⟨110, rfl, rfl⟩, ⟨Or.inl ⟨100, rfl, rfl⟩, ⟨Or.inl ⟨101, rfl, rfl⟩, ⟨Or.inl ⟨114, rfl, rfl⟩, ⟨Or.inl ⟨32, rfl, rfl⟩, ⟨Or.inl ⟨97, rfl, rfl⟩, ⟨Or.inl ⟨110, rfl, rfl⟩, ⟨Or.inl ⟨111, rfl, rfl⟩, ⟨Or.inl ⟨116, rfl, rfl⟩, ⟨Or.inl ⟨104, rfl, rfl⟩, ⟨Or.inl ⟨101, rfl, rfl⟩, ⟨Or.inl ⟨114, rfl, rfl⟩, ⟨Or.inl ⟨32, rfl, rfl⟩, ⟨Or.inl ⟨97, rfl, rfl⟩, ⟨Or.inl ⟨112, rfl, rfl⟩, ⟨Or.inl ⟨112, rfl, rfl⟩, ⟨Or.inl ⟨108, rfl, rfl⟩, ⟨Or.inl ⟨105, rfl, rfl⟩, ⟨Or.inl ⟨99, rfl, rfl⟩, ⟨Or.inl ⟨97, rfl, rfl⟩, ⟨Or.inl ⟨116, rfl, rfl⟩, ⟨Or.inl ⟨105, rfl, rfl⟩, ⟨Or.inl ⟨111, rfl, rfl⟩, ⟨Or.inl ⟨110, rfl, rfl⟩, ⟨Or.inl ⟨78, rfl, rfl⟩, ⟨Or.inl ⟨97, rfl, rfl⟩, ⟨Or.inl ⟨109, rfl, rfl⟩, ⟨Or.inl ⟨101, rfl, rfl⟩, True.intro⟩⟩⟩⟩⟩⟩⟩⟩⟩⟩⟩⟩⟩⟩⟩⟩⟩⟩⟩⟩⟩⟩⟩⟩⟩⟩⟩⟩⟩⟩⟩⟩⟩⟩⟩⟩⟩⟩⟩⟩⟩⟩⟩⟩⟩⟩⟩⟩⟩⟩⟩⟩⟩⟩⟩⟩⟩⟩⟩⟩⟩⟩⟩⟩⟩⟩⟩⟩⟩⟩⟩⟩⟩⟩⟩⟩⟩⟩⟩⟩⟩⟩⟩⟩⟩⟩
def own_c2 (x z : Int32) : List Int32 := [(97 : Int32), (112 : Int32), (112 : Int32), (108 : Int32), (105 : Int32), (99 : Int32), (97 : Int32), (116 : Int32), (105 : Int32), (111 : Int32), (110 : Int32), (32 : Int32), x, (32 : Int32), (104 : Int32), (97 : Int32), (115 : Int32), (32 : Int32), (108 : Int32), (101 : Int32), (97 : Int32), (115 : Int32), (101 : Int32), (115 : Int32), (32 : Int32), (102 : Int32), (111 : Int32), (114 : Int32), (32 : Int32), (97 : Int32), (32 : Int32), (115 : Int32), (116 : Int32), (114 : Int32), (101 : Int32), (97 : Int32), (109 : Int32), (32 : Int32), (105 : Int32), (116 : Int32), (32 : Int32), (100 : Int32), (105 : Int32), (100 : Int32), (32 : Int32), (110 : Int32), (111 : Int32), (116 : Int32), (32 : Int32), (114 : Int32), (101 : Int32), (99 : Int32), (111 : Int32), (114 : Int32), (100 : Int32), (59 : Int32), (32 : Int32), (114 : Int32), (101 : Int32), (97 : Int32), (100 : Int32), (32 : Int32), z, (32 : Int32), (117 : Int32), (110 : Int32), (100 : Int32), (101 : Int32), (114 : Int32), (32 : Int32), (97 : Int32), (110 : Int32), (111 : Int32), (116 : Int32), (104 : Int32), (101 : Int32), (114 : Int32), (32 : Int32), (97 : Int32), (112 : Int32), (112 : Int32), (108 : Int32), (105 : Int32), (99 : Int32), (97 : Int32), (116 : Int32), (105 : Int32), (111 : Int32), (110 : Int32), (78 : Int32), (97 : Int32), (109 : Int32), (101 : Int32)]
def own_v2 : List Instr := [.bipush 97, .bipush 112, .bipush 112, .bipush 108, .bipush 105, .bipush 99, .bipush 97, .bipush 116, .bipush 105, .bipush 111, .bipush 110, .bipush 32, .iload 4, .bipush 32, .bipush 104, .bipush 97, .bipush 115, .bipush 32, .bipush 108, .bipush 101, .bipush 97, .bipush 115, .bipush 101, .bipush 115, .bipush 32, .bipush 102, .bipush 111, .bipush 114, .bipush 32, .bipush 97, .bipush 32, .bipush 115, .bipush 116, .bipush 114, .bipush 101, .bipush 97, .bipush 109, .bipush 32, .bipush 105, .bipush 116, .bipush 32, .bipush 100, .bipush 105, .bipush 100, .bipush 32, .bipush 110, .bipush 111, .bipush 116, .bipush 32, .bipush 114, .bipush 101, .bipush 99, .bipush 111, .bipush 114, .bipush 100, .bipush 59, .bipush 32, .bipush 114, .bipush 101, .bipush 97, .bipush 100, .bipush 32, .iload 6, .bipush 32, .bipush 117, .bipush 110, .bipush 100, .bipush 101, .bipush 114, .bipush 32, .bipush 97, .bipush 110, .bipush 111, .bipush 116, .bipush 104, .bipush 101, .bipush 114, .bipush 32, .bipush 97, .bipush 112, .bipush 112, .bipush 108, .bipush 105, .bipush 99, .bipush 97, .bipush 116, .bipush 105, .bipush 111, .bipush 110, .bipush 78, .bipush 97, .bipush 109, .bipush 101]
set_option maxRecDepth 65536 in
theorem own_okc2 {x z : Int32} (hx : ¬ x < 0 ∧ ¬ (255 : Int32) < x) (hz : ¬ z < 0 ∧ ¬ (255 : Int32) < z) : own_ok8 (own_c2 x z) := (own_okS (by decide) (own_okS (by decide) (own_okS (by decide) (own_okS (by decide) (own_okS (by decide) (own_okS (by decide) (own_okS (by decide) (own_okS (by decide) (own_okS (by decide) (own_okS (by decide) (own_okS (by decide) (own_okS (by decide) (own_okS hx (own_okS (by decide) (own_okS (by decide) (own_okS (by decide) (own_okS (by decide) (own_okS (by decide) (own_okS (by decide) (own_okS (by decide) (own_okS (by decide) (own_okS (by decide) (own_okS (by decide) (own_okS (by decide) (own_okS (by decide) (own_okS (by decide) (own_okS (by decide) (own_okS (by decide) (own_okS (by decide) (own_okS (by decide) (own_okS (by decide) (own_okS (by decide) (own_okS (by decide) (own_okS (by decide) (own_okS (by decide) (own_okS (by decide) (own_okS (by decide) (own_okS (by decide) (own_okS (by decide) (own_okS (by decide) (own_okS (by decide) (own_okS (by decide) (own_okS (by decide) (own_okS (by decide) (own_okS (by decide) (own_okS (by decide) (own_okS (by decide) (own_okS (by decide) (own_okS (by decide) (own_okS (by decide) (own_okS (by decide) (own_okS (by decide) (own_okS (by decide) (own_okS (by decide) (own_okS (by decide) (own_okS (by decide) (own_okS (by decide) (own_okS (by decide) (own_okS (by decide) (own_okS (by decide) (own_okS (by decide) (own_okS (by decide) (own_okS hz (own_okS (by decide) (own_okS (by decide) (own_okS (by decide) (own_okS (by decide) (own_okS (by decide) (own_okS (by decide) (own_okS (by decide) (own_okS (by decide) (own_okS (by decide) (own_okS (by decide) (own_okS (by decide) (own_okS (by decide) (own_okS (by decide) (own_okS (by decide) (own_okS (by decide) (own_okS (by decide) (own_okS (by decide) (own_okS (by decide) (own_okS (by decide) (own_okS (by decide) (own_okS (by decide) (own_okS (by decide) (own_okS (by decide) (own_okS (by decide) (own_okS (by decide) (own_okS (by decide) (own_okS (by decide) (own_okS (by decide) (own_okS (by decide) (own_okS (by decide) own_ok0)))))))))))))))))))))))))))))))))))))))))))))))))))))))))))))))))))))))))))))))))))))))))))))
set_option maxRecDepth 65536 in
theorem own_pvc2 {Ls : Array Slot} {x z : Int32} (hx : Ls[4]? = some (.val (.int x))) (hz : Ls[6]? = some (.val (.int z))) : own_pv Ls own_v2 (own_c2 x z) := ⟨Or.inl ⟨97, rfl, rfl⟩, ⟨Or.inl ⟨112, rfl, rfl⟩, ⟨Or.inl ⟨112, rfl, rfl⟩, ⟨Or.inl ⟨108, rfl, rfl⟩, ⟨Or.inl ⟨105, rfl, rfl⟩, ⟨Or.inl ⟨99, rfl, rfl⟩, ⟨Or.inl ⟨97, rfl, rfl⟩, ⟨Or.inl ⟨116, rfl, rfl⟩, ⟨Or.inl ⟨105, rfl, rfl⟩, ⟨Or.inl ⟨111, rfl, rfl⟩, ⟨Or.inl ⟨110, rfl, rfl⟩, ⟨Or.inl ⟨32, rfl, rfl⟩, ⟨Or.inr ⟨4, rfl, hx⟩, ⟨Or.inl ⟨32, rfl, rfl⟩, ⟨Or.inl ⟨104, rfl, rfl⟩, ⟨Or.inl ⟨97, rfl, rfl⟩, ⟨Or.inl ⟨115, rfl, rfl⟩, ⟨Or.inl ⟨32, rfl, rfl⟩, ⟨Or.inl ⟨108, rfl, rfl⟩, ⟨Or.inl ⟨101, rfl, rfl⟩, ⟨Or.inl ⟨97, rfl, rfl⟩, ⟨Or.inl ⟨115, rfl, rfl⟩, ⟨Or.inl ⟨101, rfl, rfl⟩, ⟨Or.inl ⟨115, rfl, rfl⟩, ⟨Or.inl ⟨32, rfl, rfl⟩, ⟨Or.inl ⟨102, rfl, rfl⟩, ⟨Or.inl ⟨111, rfl, rfl⟩, ⟨Or.inl ⟨114, rfl, rfl⟩, ⟨Or.inl ⟨32, rfl, rfl⟩, ⟨Or.inl ⟨97, rfl, rfl⟩, ⟨Or.inl ⟨32, rfl, rfl⟩, ⟨Or.inl ⟨115, rfl, rfl⟩, ⟨Or.inl ⟨116, rfl, rfl⟩, ⟨Or.inl ⟨114, rfl, rfl⟩, ⟨Or.inl ⟨101, rfl, rfl⟩, ⟨Or.inl ⟨97, rfl, rfl⟩, ⟨Or.inl ⟨109, rfl, rfl⟩, ⟨Or.inl ⟨32, rfl, rfl⟩, ⟨Or.inl ⟨105, rfl, rfl⟩, ⟨Or.inl ⟨116, rfl, rfl⟩, ⟨Or.inl ⟨32, rfl, rfl⟩, ⟨Or.inl ⟨100, rfl, rfl⟩, ⟨Or.inl ⟨105, rfl, rfl⟩, ⟨Or.inl ⟨100, rfl, rfl⟩, ⟨Or.inl ⟨32, rfl, rfl⟩, ⟨Or.inl ⟨110, rfl, rfl⟩, ⟨Or.inl ⟨111, rfl, rfl⟩, ⟨Or.inl ⟨116, rfl, rfl⟩, ⟨Or.inl ⟨32, rfl, rfl⟩, ⟨Or.inl ⟨114, rfl, rfl⟩, ⟨Or.inl ⟨101, rfl, rfl⟩, ⟨Or.inl ⟨99, rfl, rfl⟩, ⟨Or.inl ⟨111, rfl, rfl⟩, ⟨Or.inl ⟨114, rfl, rfl⟩, ⟨Or.inl ⟨100, rfl, rfl⟩, ⟨Or.inl ⟨59, rfl, rfl⟩, ⟨Or.inl ⟨32, rfl, rfl⟩, ⟨Or.inl ⟨114, rfl, rfl⟩, ⟨Or.inl ⟨101, rfl, rfl⟩, ⟨Or.inl ⟨97, rfl, rfl⟩, ⟨Or.inl ⟨100, rfl, rfl⟩, ⟨Or.inl ⟨32, rfl, rfl⟩, ⟨Or.inr ⟨6, rfl, hz⟩, ⟨Or.inl ⟨32, rfl, rfl⟩, ⟨Or.inl ⟨117, rfl, rfl⟩, ⟨Or.inl ⟨110, rfl, rfl⟩, ⟨Or.inl ⟨100, rfl, rfl⟩, ⟨Or.inl ⟨101, rfl, rfl⟩, ⟨Or.inl ⟨114, rfl, rfl⟩, ⟨Or.inl ⟨32, rfl, rfl⟩, ⟨Or.inl ⟨97, rfl, rfl⟩, ⟨Or.inl ⟨110, rfl, rfl⟩, ⟨Or.inl ⟨111, rfl, rfl⟩, ⟨Or.inl ⟨116, rfl, rfl⟩, ⟨Or.inl ⟨104, rfl, rfl⟩, ⟨Or.inl ⟨101, rfl, rfl⟩, ⟨Or.inl ⟨114, rfl, rfl⟩, ⟨Or.inl ⟨32, rfl, rfl⟩, ⟨Or.inl ⟨97, rfl, rfl⟩, ⟨Or.inl ⟨112, rfl, rfl⟩, ⟨Or.inl ⟨112, rfl, rfl⟩, ⟨Or.inl ⟨108, rfl, rfl⟩, ⟨Or.inl ⟨105, rfl, rfl⟩, ⟨Or.inl ⟨99, rfl, rfl⟩, ⟨Or.inl ⟨97, rfl, rfl⟩, ⟨Or.inl ⟨116, rfl, rfl⟩, ⟨Or.inl ⟨105, rfl, rfl⟩, ⟨Or.inl ⟨111, rfl, rfl⟩, ⟨Or.inl ⟨110, rfl, rfl⟩, ⟨Or.inl ⟨78, rfl, rfl⟩, ⟨Or.inl ⟨97, rfl, rfl⟩, ⟨Or.inl ⟨109, rfl, rfl⟩, ⟨Or.inl ⟨101, rfl, rfl⟩, True.intro⟩⟩⟩⟩⟩⟩⟩⟩⟩⟩⟩⟩⟩⟩⟩⟩⟩⟩⟩⟩⟩⟩⟩⟩⟩⟩⟩⟩⟩⟩⟩⟩⟩⟩⟩⟩⟩⟩⟩⟩⟩⟩⟩⟩⟩⟩⟩⟩⟩⟩⟩⟩⟩⟩⟩⟩⟩⟩⟩⟩⟩⟩⟩⟩⟩⟩⟩⟩⟩⟩⟩⟩⟩⟩⟩⟩⟩⟩⟩⟩⟩⟩⟩⟩⟩⟩⟩⟩⟩⟩⟩⟩⟩
set_option maxRecDepth 65536 in
theorem own_eq1 (x y z : Int32) : own_l73 ++ own_b8 [x] ++ own_l54 ++ (own_l69 ++ own_b8 [y] ++ own_l71 ++ own_b8 [z]) ++ own_l75 ++ own_b8 [z] ++ own_l77 = own_b8 (own_c1 x y z) := rfl
set_option maxRecDepth 65536 in
theorem own_eq2 (x z : Int32) : own_l73 ++ own_b8 [x] ++ own_l54 ++ (own_l67) ++ own_l75 ++ own_b8 [z] ++ own_l77 = own_b8 (own_c2 x z) := rfl
theorem opd_28 : parseMethodDescriptor "(C)Ljava/lang/String;" = some ⟨[.char], some (.object "java/lang/String")⟩ := by decide +kernel
theorem opd_29 : parseMethodDescriptor "([C)V" = some ⟨[(.array .char)], none⟩ := by decide +kernel
theorem opd_30 : parseMethodDescriptor "(Ljava/lang/String;Ljava/lang/String;Ljava/lang/String;)Lcom/example/drain_shards/drainshards/DrainShardsException;" = some ⟨[(.object "java/lang/String"), (.object "java/lang/String"), (.object "java/lang/String")], some (.object "com/example/drain_shards/drainshards/DrainShardsException")⟩ := by decide +kernel
theorem opd_31 : parseMethodDescriptor "(Ljava/lang/Object;)Z" = some ⟨[(.object "java/lang/Object")], some .boolean⟩ := by decide +kernel
theorem opl_rm_law : plainFor x = true := plainFor_of_name (by first | (simp [plainName, overriddenIn]; done) | decide +kernel)
set_option maxRecDepth 65536 in
set_option maxHeartbeats 40000000 in
theorem rm_law (l : Launch) (Z : State) (a0 : Array Value) (hw : ∀ d ∈ tables_1, d.before a0 Z = true) (ws : List Jvm.Cond) (app lease stream mode : Int32) (zc : Int32) (wf : Value) (n0 : Nat) (u0 u1 : RefV) (h0 : Heap) (SS : own_SS Z zc wf) (O : Old Z n0 h0) (TS : own_TS Z u0 u1) (hlt : l.stackTraces = true) :
    ConK l Z own_EL x code maxLocals ret ws room_1 #[(.int app), (.int lease), (.int stream), (.int mode)] h0 (own_Q n0) := by
  refine ConK.intro opl_rm_law ?_
  intro p e s m below meth c s₁ hx hby hml hown hret hlk hZ hnm X0 e0 hs0 hS0 H0 R0 hTK hBl
  have SS' := SS
  obtain ⟨hzc, SC, hwf, SF⟩ := SS
  have Z0 : n0 ≤ h0.size := O.1 ▸ O.2.1
  have N0 := Fr.nil n0
  refine OGo.cast (g' := (mkF m 0 #[.val (.int app), .val (.int lease), .val (.int stream), .val (.int mode), .unset, .unset, .unset, .unset, .unset, .unset, .unset, .unset, .unset, .unset, .unset] [])) (by first | (simp [entryFrame, mkF, argsToLocals, Value.category, maxLocals]; done) | rfl) ?_
  show OGo p e below _ s₁ (mkF m 0 #[.val (.int app), .val (.int lease), .val (.int stream), .val (.int mode), .unset, .unset, .unset, .unset, .unset, .unset, .unset, .unset, .unset, .unset, .unset] [])
  refine OGo.step (fun _ k => XS.iloadN X0.here hx rfl (hb hby at_0) rfl k) ?_
  show OGo p e below _ s₁ (mkF m 1 #[.val (.int app), .val (.int lease), .val (.int stream), .val (.int mode), .unset, .unset, .unset, .unset, .unset, .unset, .unset, .unset, .unset, .unset, .unset] [(.int app)])
  refine OGo.step (fun _ k => XS.sipush X0.here hx rfl (hb hby at_1) k) ?_
  show OGo p e below _ s₁ (mkF m 4 #[.val (.int app), .val (.int lease), .val (.int stream), .val (.int mode), .unset, .unset, .unset, .unset, .unset, .unset, .unset, .unset, .unset, .unset, .unset] [(.int (255 : Int32)), (.int app)])
  refine OGo.step (fun _ k => XS.iand X0.here hx rfl (hb hby at_4) rfl k) ?_
  show OGo p e below _ s₁ (mkF m 5 #[.val (.int app), .val (.int lease), .val (.int stream), .val (.int mode), .unset, .unset, .unset, .unset, .unset, .unset, .unset, .unset, .unset, .unset, .unset] [(.int (app &&& (255 : Int32)))])
  refine OGo.step (fun _ k => XS.i2c X0.here hx rfl (hb hby at_5) rfl k) ?_
  show OGo p e below _ s₁ (mkF m 6 #[.val (.int app), .val (.int lease), .val (.int stream), .val (.int mode), .unset, .unset, .unset, .unset, .unset, .unset, .unset, .unset, .unset, .unset, .unset] [(.int ((app &&& (255 : Int32)).toUInt32.toUInt16.toUInt32.toInt32))])
  rw [i2c_mask]
  show OGo p e below _ s₁ (mkF m 6 #[.val (.int app), .val (.int lease), .val (.int stream), .val (.int mode), .unset, .unset, .unset, .unset, .unset, .unset, .unset, .unset, .unset, .unset, .unset] [(.int (app &&& (255 : Int32)))])
  obtain ⟨cx, ecx⟩ : ∃ z, (app &&& (255 : Int32)) = z := ⟨_, rfl⟩
  have hcx := own_and255 app
  rw [ecx] at hcx
  rw [ecx]
  show OGo p e below _ s₁ (mkF m 6 #[.val (.int app), .val (.int lease), .val (.int stream), .val (.int mode), .unset, .unset, .unset, .unset, .unset, .unset, .unset, .unset, .unset, .unset, .unset] [(.int cx)])
  refine OGo.step (fun _ k => XS.istore X0.here hx rfl (hb hby at_6) rfl (l' := #[.val (.int app), .val (.int lease), .val (.int stream), .val (.int mode), .val (.int cx), .unset, .unset, .unset, .unset, .unset, .unset, .unset, .unset, .unset, .unset]) rfl k) ?_
  show OGo p e below _ s₁ (mkF m 8 #[.val (.int app), .val (.int lease), .val (.int stream), .val (.int mode), .val (.int cx), .unset, .unset, .unset, .unset, .unset, .unset, .unset, .unset, .unset, .unset] [])
  refine OGo.step (fun _ k => XS.iloadN X0.here hx rfl (hb hby at_8) rfl k) ?_
  show OGo p e below _ s₁ (mkF m 9 #[.val (.int app), .val (.int lease), .val (.int stream), .val (.int mode), .val (.int cx), .unset, .unset, .unset, .unset, .unset, .unset, .unset, .unset, .unset, .unset] [(.int lease)])
  refine OGo.step (fun _ k => XS.sipush X0.here hx rfl (hb hby at_9) k) ?_
  show OGo p e below _ s₁ (mkF m 12 #[.val (.int app), .val (.int lease), .val (.int stream), .val (.int mode), .val (.int cx), .unset, .unset, .unset, .unset, .unset, .unset, .unset, .unset, .unset, .unset] [(.int (255 : Int32)), (.int lease)])
  refine OGo.step (fun _ k => XS.iand X0.here hx rfl (hb hby at_12) rfl k) ?_
  show OGo p e below _ s₁ (mkF m 13 #[.val (.int app), .val (.int lease), .val (.int stream), .val (.int mode), .val (.int cx), .unset, .unset, .unset, .unset, .unset, .unset, .unset, .unset, .unset, .unset] [(.int (lease &&& (255 : Int32)))])
  refine OGo.step (fun _ k => XS.i2c X0.here hx rfl (hb hby at_13) rfl k) ?_
  show OGo p e below _ s₁ (mkF m 14 #[.val (.int app), .val (.int lease), .val (.int stream), .val (.int mode), .val (.int cx), .unset, .unset, .unset, .unset, .unset, .unset, .unset, .unset, .unset, .unset] [(.int ((lease &&& (255 : Int32)).toUInt32.toUInt16.toUInt32.toInt32))])
  rw [i2c_mask]
  show OGo p e below _ s₁ (mkF m 14 #[.val (.int app), .val (.int lease), .val (.int stream), .val (.int mode), .val (.int cx), .unset, .unset, .unset, .unset, .unset, .unset, .unset, .unset, .unset, .unset] [(.int (lease &&& (255 : Int32)))])
  obtain ⟨cy, ecy⟩ : ∃ z, (lease &&& (255 : Int32)) = z := ⟨_, rfl⟩
  have hcy := own_and255 lease
  rw [ecy] at hcy
  rw [ecy]
  show OGo p e below _ s₁ (mkF m 14 #[.val (.int app), .val (.int lease), .val (.int stream), .val (.int mode), .val (.int cx), .unset, .unset, .unset, .unset, .unset, .unset, .unset, .unset, .unset, .unset] [(.int cy)])
  refine OGo.step (fun _ k => XS.istore X0.here hx rfl (hb hby at_14) rfl (l' := #[.val (.int app), .val (.int lease), .val (.int stream), .val (.int mode), .val (.int cx), .val (.int cy), .unset, .unset, .unset, .unset, .unset, .unset, .unset, .unset, .unset]) rfl k) ?_
  show OGo p e below _ s₁ (mkF m 16 #[.val (.int app), .val (.int lease), .val (.int stream), .val (.int mode), .val (.int cx), .val (.int cy), .unset, .unset, .unset, .unset, .unset, .unset, .unset, .unset, .unset] [])
  refine OGo.step (fun _ k => XS.iloadN X0.here hx rfl (hb hby at_16) rfl k) ?_
  show OGo p e below _ s₁ (mkF m 17 #[.val (.int app), .val (.int lease), .val (.int stream), .val (.int mode), .val (.int cx), .val (.int cy), .unset, .unset, .unset, .unset, .unset, .unset, .unset, .unset, .unset] [(.int stream)])
  refine OGo.step (fun _ k => XS.sipush X0.here hx rfl (hb hby at_17) k) ?_
  show OGo p e below _ s₁ (mkF m 20 #[.val (.int app), .val (.int lease), .val (.int stream), .val (.int mode), .val (.int cx), .val (.int cy), .unset, .unset, .unset, .unset, .unset, .unset, .unset, .unset, .unset] [(.int (255 : Int32)), (.int stream)])
  refine OGo.step (fun _ k => XS.iand X0.here hx rfl (hb hby at_20) rfl k) ?_
  show OGo p e below _ s₁ (mkF m 21 #[.val (.int app), .val (.int lease), .val (.int stream), .val (.int mode), .val (.int cx), .val (.int cy), .unset, .unset, .unset, .unset, .unset, .unset, .unset, .unset, .unset] [(.int (stream &&& (255 : Int32)))])
  refine OGo.step (fun _ k => XS.i2c X0.here hx rfl (hb hby at_21) rfl k) ?_
  show OGo p e below _ s₁ (mkF m 22 #[.val (.int app), .val (.int lease), .val (.int stream), .val (.int mode), .val (.int cx), .val (.int cy), .unset, .unset, .unset, .unset, .unset, .unset, .unset, .unset, .unset] [(.int ((stream &&& (255 : Int32)).toUInt32.toUInt16.toUInt32.toInt32))])
  rw [i2c_mask]
  show OGo p e below _ s₁ (mkF m 22 #[.val (.int app), .val (.int lease), .val (.int stream), .val (.int mode), .val (.int cx), .val (.int cy), .unset, .unset, .unset, .unset, .unset, .unset, .unset, .unset, .unset] [(.int (stream &&& (255 : Int32)))])
  obtain ⟨cz, ecz⟩ : ∃ z, (stream &&& (255 : Int32)) = z := ⟨_, rfl⟩
  have hcz := own_and255 stream
  rw [ecz] at hcz
  rw [ecz]
  show OGo p e below _ s₁ (mkF m 22 #[.val (.int app), .val (.int lease), .val (.int stream), .val (.int mode), .val (.int cx), .val (.int cy), .unset, .unset, .unset, .unset, .unset, .unset, .unset, .unset, .unset] [(.int cz)])
  refine OGo.step (fun _ k => XS.istore X0.here hx rfl (hb hby at_22) rfl (l' := #[.val (.int app), .val (.int lease), .val (.int stream), .val (.int mode), .val (.int cx), .val (.int cy), .val (.int cz), .unset, .unset, .unset, .unset, .unset, .unset, .unset, .unset]) rfl k) ?_
  show OGo p e below _ s₁ (mkF m 24 #[.val (.int app), .val (.int lease), .val (.int stream), .val (.int mode), .val (.int cx), .val (.int cy), .val (.int cz), .unset, .unset, .unset, .unset, .unset, .unset, .unset, .unset] [])
  refine OGo.step (fun _ k => XS.iloadN X0.here hx rfl (hb hby at_24) rfl k) ?_
  show OGo p e below _ s₁ (mkF m 25 #[.val (.int app), .val (.int lease), .val (.int stream), .val (.int mode), .val (.int cx), .val (.int cy), .val (.int cz), .unset, .unset, .unset, .unset, .unset, .unset, .unset, .unset] [(.int mode)])
  refine OGo.step (fun _ k => XS.iconst X0.here hx rfl (hb hby at_25) k) ?_
  show OGo p e below _ s₁ (mkF m 26 #[.val (.int app), .val (.int lease), .val (.int stream), .val (.int mode), .val (.int cx), .val (.int cy), .val (.int cz), .unset, .unset, .unset, .unset, .unset, .unset, .unset, .unset] [(.int (1 : Int32)), (.int mode)])
  refine OGo.step (fun _ k => XS.iand X0.here hx rfl (hb hby at_26) rfl k) ?_
  show OGo p e below _ s₁ (mkF m 27 #[.val (.int app), .val (.int lease), .val (.int stream), .val (.int mode), .val (.int cx), .val (.int cy), .val (.int cz), .unset, .unset, .unset, .unset, .unset, .unset, .unset, .unset] [(.int (mode &&& (1 : Int32)))])
  by_cases q : (mode &&& (1 : Int32)) = 0
  case pos =>
    refine OGo.step (fun _ k => XS.ifYes X0.here hx rfl (pc0 := 27) (pc' := 34) rfl (hb hby at_27) rfl ((if0 _ _).trans (teq q).1) (by decide) (by decide) k) ?_
    show OGo p e below _ s₁ (mkF m 34 #[.val (.int app), .val (.int lease), .val (.int stream), .val (.int mode), .val (.int cx), .val (.int cy), .val (.int cz), .unset, .unset, .unset, .unset, .unset, .unset, .unset, .unset] [])
    refine OGo.step (fun _ k => XS.iconst X0.here hx rfl (hb hby at_34) k) ?_
    show OGo p e below _ s₁ (mkF m 35 #[.val (.int app), .val (.int lease), .val (.int stream), .val (.int mode), .val (.int cx), .val (.int cy), .val (.int cz), .unset, .unset, .unset, .unset, .unset, .unset, .unset, .unset] [(.int (0 : Int32))])
    refine OGo.step (fun _ k => XS.istore X0.here hx rfl (hb hby at_35) rfl (l' := #[.val (.int app), .val (.int lease), .val (.int stream), .val (.int mode), .val (.int cx), .val (.int cy), .val (.int cz), .val (.int (0 : Int32)), .unset, .unset, .unset, .unset, .unset, .unset, .unset]) rfl k) ?_
    show OGo p e below _ s₁ (mkF m 37 #[.val (.int app), .val (.int lease), .val (.int stream), .val (.int mode), .val (.int cx), .val (.int cy), .val (.int cz), .val (.int (0 : Int32)), .unset, .unset, .unset, .unset, .unset, .unset, .unset] [])
    refine OGo.step (fun _ k => XS.iload X0.here hx rfl (hb hby at_37) rfl k) ?_
    show OGo p e below _ s₁ (mkF m 39 #[.val (.int app), .val (.int lease), .val (.int stream), .val (.int mode), .val (.int cx), .val (.int cy), .val (.int cz), .val (.int (0 : Int32)), .unset, .unset, .unset, .unset, .unset, .unset, .unset] [(.int cx)])
    obtain ⟨v325, T325, L325, X325, hQ325, st325⟩ := scall X0 hx hZ hown (hw _ (List.mem_of_getElem? (i := 0) rfl)) (hw _ (List.mem_of_getElem? (i := 1) rfl)) (hw _ (List.mem_of_getElem? (i := 2) rfl)) (hw _ (List.mem_of_getElem? (i := 3) rfl)) (by decide) (W := 0) (rm_valueOf l Z a0 hw [] cx zc wf n0 h0 SS' O hcx.2) e0 (by decide) (by decide) (by decide) (by decide) (g := (mkF m 39 #[.val (.int app), .val (.int lease), .val (.int stream), .val (.int mode), .val (.int cx), .val (.int cy), .val (.int cz), .val (.int (0 : Int32)), .unset, .unset, .unset, .unset, .unset, .unset, .unset] [(.int cx)])) rfl (by rw [hml]; rfl) (argsL := [(.int cx)]) (rest := []) opd_28 rfl rfl rfl (by show 2 * 0 + _ ≤ _; exact Nat.le_of_eq rfl) (hb hby at_39)
    obtain ⟨a325, r325, kr325, rfl, sa325, sr325, N325, K325, I325⟩ := hQ325
    have NN325 := Fr.app N0 N325
    have KK325 : Keep h0 T325.heap [] := (Keep.refl h0 []).trans K325 all0
    have H325 := CHv.keep K325 sf0 H0
    have R325 := CHr.trans R0 (CHr.keep K325 sf0 H0)
    have sz_a325 : h0.size ≤ a325 := Nat.le_trans (Keep.refl h0 []).1 sa325
    have sz_r325 : h0.size ≤ r325 := Nat.le_trans (Keep.refl h0 []).1 sr325
    refine OGo.step st325 ?_
    show OGo p e below _ T325 (mkF m 42 #[.val (.int app), .val (.int lease), .val (.int stream), .val (.int mode), .val (.int cx), .val (.int cy), .val (.int cz), .val (.int (0 : Int32)), .unset, .unset, .unset, .unset, .unset, .unset, .unset] [(.ref a325)])
    obtain ⟨IE325, IC325, IF325, IV325⟩ := I325
    refine OGo.step (fun _ k => XS.astore X325.here hx rfl (hb hby at_42) rfl rfl (l' := #[.val (.int app), .val (.int lease), .val (.int stream), .val (.int mode), .val (.int cx), .val (.int cy), .val (.int cz), .val (.int (0 : Int32)), .val (.ref a325), .unset, .unset, .unset, .unset, .unset, .unset]) rfl k) ?_
    show OGo p e below _ T325 (mkF m 44 #[.val (.int app), .val (.int lease), .val (.int stream), .val (.int mode), .val (.int cx), .val (.int cy), .val (.int cz), .val (.int (0 : Int32)), .val (.ref a325), .unset, .unset, .unset, .unset, .unset, .unset] [])
    refine OGo.step (fun _ k => XS.iload X325.here hx rfl (hb hby at_44) rfl k) ?_
    show OGo p e below _ T325 (mkF m 46 #[.val (.int app), .val (.int lease), .val (.int stream), .val (.int mode), .val (.int cx), .val (.int cy), .val (.int cz), .val (.int (0 : Int32)), .val (.ref a325), .unset, .unset, .unset, .unset, .unset, .unset] [(.int (0 : Int32))])
    refine OGo.step (fun _ k => XS.ifYes X325.here hx rfl (pc0 := 46) (pc' := 57) rfl (hb hby at_46) rfl ((if0 _ _).trans (teq (rfl : (0 : Int32) = 0)).1) (by decide) (by decide) k) ?_
    show OGo p e below _ T325 (mkF m 57 #[.val (.int app), .val (.int lease), .val (.int stream), .val (.int mode), .val (.int cx), .val (.int cy), .val (.int cz), .val (.int (0 : Int32)), .val (.ref a325), .unset, .unset, .unset, .unset, .unset, .unset] [])
    refine OGo.step (fun _ k => XS.aconstNull X325.here hx rfl (hb hby at_57) k) ?_
    show OGo p e below _ T325 (mkF m 58 #[.val (.int app), .val (.int lease), .val (.int stream), .val (.int mode), .val (.int cx), .val (.int cy), .val (.int cz), .val (.int (0 : Int32)), .val (.ref a325), .unset, .unset, .unset, .unset, .unset, .unset] [.null])
    refine OGo.step (fun _ k => XS.astore X325.here hx rfl (hb hby at_58) rfl rfl (l' := #[.val (.int app), .val (.int lease), .val (.int stream), .val (.int mode), .val (.int cx), .val (.int cy), .val (.int cz), .val (.int (0 : Int32)), .val (.ref a325), .val .null, .unset, .unset, .unset, .unset, .unset]) rfl k) ?_
    show OGo p e below _ T325 (mkF m 60 #[.val (.int app), .val (.int lease), .val (.int stream), .val (.int mode), .val (.int cx), .val (.int cy), .val (.int cz), .val (.int (0 : Int32)), .val (.ref a325), .val .null, .unset, .unset, .unset, .unset, .unset] [])
    refine OGo.step (fun _ k => XS.iload X325.here hx rfl (hb hby at_60) rfl k) ?_
    show OGo p e below _ T325 (mkF m 62 #[.val (.int app), .val (.int lease), .val (.int stream), .val (.int mode), .val (.int cx), .val (.int cy), .val (.int cz), .val (.int (0 : Int32)), .val (.ref a325), .val .null, .unset, .unset, .unset, .unset, .unset] [(.int cz)])
    obtain ⟨v326, T326, L326, X326, hQ326, st326⟩ := scall X325 hx hZ hown (hw _ (List.mem_of_getElem? (i := 0) rfl)) (hw _ (List.mem_of_getElem? (i := 1) rfl)) (hw _ (List.mem_of_getElem? (i := 2) rfl)) (hw _ (List.mem_of_getElem? (i := 3) rfl)) (by decide) (W := 0) (rm_valueOf l Z a0 hw [] cz zc wf n0 T325.heap SS' (O.keep K325 all0) hcz.2) rfl (by decide) (by decide) (by decide) (by decide) (g := (mkF m 62 #[.val (.int app), .val (.int lease), .val (.int stream), .val (.int mode), .val (.int cx), .val (.int cy), .val (.int cz), .val (.int (0 : Int32)), .val (.ref a325), .val .null, .unset, .unset, .unset, .unset, .unset] [(.int cz)])) rfl (by rw [hml]; rfl) (argsL := [(.int cz)]) (rest := []) opd_28 rfl rfl rfl (by show 2 * 0 + _ ≤ _; exact Nat.le_of_eq rfl) (hb hby at_62)
    obtain ⟨a326, r326, kr326, rfl, sa326, sr326, N326, K326, I326⟩ := hQ326
    have NN326 := Fr.app NN325 N326
    have KK326 : Keep h0 T326.heap [] := KK325.trans K326 all0
    have H326 := CHv.keep K326 sf0 H325
    have R326 := CHr.trans R325 (CHr.keep K326 sf0 H325)
    have sz_a326 : h0.size ≤ a326 := Nat.le_trans KK325.1 sa326
    have sz_r326 : h0.size ≤ r326 := Nat.le_trans KK325.1 sr326
    refine OGo.step st326 ?_
    show OGo p e below _ T326 (mkF m 65 #[.val (.int app), .val (.int lease), .val (.int stream), .val (.int mode), .val (.int cx), .val (.int cy), .val (.int cz), .val (.int (0 : Int32)), .val (.ref a325), .val .null, .unset, .unset, .unset, .unset, .unset] [(.ref a326)])
    obtain ⟨IE326, IC326, IF326, IV326⟩ := I326
    refine OGo.step (fun _ k => XS.astore X326.here hx rfl (hb hby at_65) rfl rfl (l' := #[.val (.int app), .val (.int lease), .val (.int stream), .val (.int mode), .val (.int cx), .val (.int cy), .val (.int cz), .val (.int (0 : Int32)), .val (.ref a325), .val .null, .val (.ref a326), .unset, .unset, .unset, .unset]) rfl k) ?_
    show OGo p e below _ T326 (mkF m 67 #[.val (.int app), .val (.int lease), .val (.int stream), .val (.int mode), .val (.int cx), .val (.int cy), .val (.int cz), .val (.int (0 : Int32)), .val (.ref a325), .val .null, .val (.ref a326), .unset, .unset, .unset, .unset] [])
    refine OGo.step (fun _ k => XS.iload X326.here hx rfl (hb hby at_67) rfl k) ?_
    show OGo p e below _ T326 (mkF m 69 #[.val (.int app), .val (.int lease), .val (.int stream), .val (.int mode), .val (.int cx), .val (.int cy), .val (.int cz), .val (.int (0 : Int32)), .val (.ref a325), .val .null, .val (.ref a326), .unset, .unset, .unset, .unset] [(.int (0 : Int32))])
    refine OGo.step (fun _ k => XS.ifYes X326.here hx rfl (pc0 := 69) (pc' := 591) rfl (hb hby at_69) rfl ((if0 _ _).trans (teq (rfl : (0 : Int32) = 0)).1) (by decide) (by decide) k) ?_
    show OGo p e below _ T326 (mkF m 591 #[.val (.int app), .val (.int lease), .val (.int stream), .val (.int mode), .val (.int cx), .val (.int cy), .val (.int cz), .val (.int (0 : Int32)), .val (.ref a325), .val .null, .val (.ref a326), .unset, .unset, .unset, .unset] [])
    refine OGo.step (fun _ k => XS.bipush X326.here hx rfl (hb hby at_591) k) ?_
    show OGo p e below _ T326 (mkF m 593 #[.val (.int app), .val (.int lease), .val (.int stream), .val (.int mode), .val (.int cx), .val (.int cy), .val (.int cz), .val (.int (0 : Int32)), .val (.ref a325), .val .null, .val (.ref a326), .unset, .unset, .unset, .unset] [(.int (93 : Int32))])
    obtain ⟨T327, h327, k327, X327, e327, E327, A327, AE327, st327⟩ := newPE X326 hx hZ (hw _ (List.mem_of_getElem? (i := 26) rfl)) rfl (g := (mkF m 593 #[.val (.int app), .val (.int lease), .val (.int stream), .val (.int mode), .val (.int cx), .val (.int cy), .val (.int cz), .val (.int (0 : Int32)), .val (.ref a325), .val .null, .val (.ref a326), .unset, .unset, .unset, .unset] [(.int (93 : Int32))])) rfl (hb hby at_593) rfl (by decide) (cap := 93) (by decide) (by decide) (by decide) (by decide) (ad := "[C") (by decide)
    obtain ⟨b327, g327⟩ : ∃ z, z = T326.heap.size := ⟨_, rfl⟩
    rw [← g327] at A327 AE327 st327
    have sz_b327 : h0.size ≤ b327 := Nat.le_trans KK326.1 (Nat.le_of_eq g327.symm)
    have KK327 : Keep h0 h327 [] := KK326.ext E327
    have H327 := CHv.ext E327 H326
    have R327 := CHr.trans R326 (CHr.ext E327 H326)
    have V327 : Arv Z h327 b327 k327 .char (93 : Int32) [] (.int (0 : Int32)) := Arv.new A327 (by decide)
    refine OGo.step st327 ?_
    show OGo p e below _ T327 (mkF m 595 #[.val (.int app), .val (.int lease), .val (.int stream), .val (.int mode), .val (.int cx), .val (.int cy), .val (.int cz), .val (.int (0 : Int32)), .val (.ref a325), .val .null, .val (.ref a326), .unset, .unset, .unset, .unset] [(.ref b327)])
    have D328 : ∀ i, i < 93 → own_dk code 595 own_v2 i = true := by decide +kernel
    have V0328 : Arv Z h327 b327 k327 .char (Int32.ofNat (own_c2 cx cz).length) (((own_c2 cx cz).take 0).map Value.int) (.int (0 : Int32)) := V327
    obtain ⟨T328, L328, X328, N0328, K328, V328, st328⟩ := own_cfill hx hZ (cs := own_c2 cx cz) (vis := own_v2) (b := b327) (Ls := #[.val (.int app), .val (.int lease), .val (.int stream), .val (.int mode), .val (.int cx), .val (.int cy), .val (.int cz), .val (.int (0 : Int32)), .val (.ref a325), .val .null, .val (.ref a326), .unset, .unset, .unset, .unset]) (rest := []) (pc0 := 595) (show 93 ≤ 127 by decide) (own_okc2 hcx hcz) (by rw [hby]; exact D328) (own_pvat (own_pvc2 rfl rfl)) 93 0 T327 h327 _ rfl X327 e327 V0328
    have N328 := own_frm N0328 (Nat.le_trans Z0 sz_b327)
    have NN328 := Fr.app NN326 N328
    have KK328 : Keep h0 T328.heap [] := KK327.trans K328 (allS (Or.inr sz_b327) all0)
    have H328 := CHv.keep K328 (sfS (Safe.ext E327 H326 (Safe.new (Nat.le_of_eq g327.symm))) sf0) H327
    have R328 := CHr.trans R327 (CHr.keep K328 (sfS (Safe.ext E327 H326 (Safe.new (Nat.le_of_eq g327.symm))) sf0) H327)
    refine OGo.step st328 ?_
    show OGo p e below _ T328 (mkF m 1147 #[.val (.int app), .val (.int lease), .val (.int stream), .val (.int mode), .val (.int cx), .val (.int cy), .val (.int cz), .val (.int (0 : Int32)), .val (.ref a325), .val .null, .val (.ref a326), .unset, .unset, .unset, .unset] [(.ref b327)])
    refine OGo.step (fun _ k => XS.astore X328.here hx rfl (hb hby at_1147) rfl rfl (l' := #[.val (.int app), .val (.int lease), .val (.int stream), .val (.int mode), .val (.int cx), .val (.int cy), .val (.int cz), .val (.int (0 : Int32)), .val (.ref a325), .val .null, .val (.ref a326), .val (.ref b327), .unset, .unset, .unset]) rfl k) ?_
    show OGo p e below _ T328 (mkF m 1149 #[.val (.int app), .val (.int lease), .val (.int stream), .val (.int mode), .val (.int cx), .val (.int cy), .val (.int cz), .val (.int (0 : Int32)), .val (.ref a325), .val .null, .val (.ref a326), .val (.ref b327), .unset, .unset, .unset] [])
    obtain ⟨T329, h329, X329, e329, E329, A329, D329, UN329, st329⟩ := newO X328 hx hZ hown (hw _ (List.mem_of_getElem? (i := 27) rfl)) (hw _ (List.mem_of_getElem? (i := 10) rfl)) (hw _ (List.mem_of_getElem? (i := 2) rfl)) rfl (g := (mkF m 1149 #[.val (.int app), .val (.int lease), .val (.int stream), .val (.int mode), .val (.int cx), .val (.int cy), .val (.int cz), .val (.int (0 : Int32)), .val (.ref a325), .val .null, .val (.ref a326), .val (.ref b327), .unset, .unset, .unset] [])) rfl (hb hby at_1149) (by decide) (by decide)
    obtain ⟨b329, g329⟩ : ∃ z, z = T328.heap.size := ⟨_, rfl⟩
    rw [← g329] at A329 D329 UN329 st329
    have sz_b329 : h0.size ≤ b329 := Nat.le_trans KK328.1 (Nat.le_of_eq g329.symm)
    have KK329 : Keep h0 h329 [] := KK328.ext E329
    have H329 := CHv.ext E329 H328
    have R329 := CHr.trans R328 (CHr.ext E329 H328)
    have F329_value : Fld Z h329 b329 "java/lang/String" "value" "[B" .null := D329 (Or.inr (hw _ (List.mem_of_getElem? (i := 23) rfl))) (ty := (.array .byte)) (by decide)
    have F329_coder : Fld Z h329 b329 "java/lang/String" "coder" "B" (.int (0 : Int32)) := D329 (Or.inr (hw _ (List.mem_of_getElem? (i := 25) rfl))) (ty := .byte) (by decide)
    refine OGo.step st329 ?_
    show OGo p e below _ T329 (mkF m 1152 #[.val (.int app), .val (.int lease), .val (.int stream), .val (.int mode), .val (.int cx), .val (.int cy), .val (.int cz), .val (.int (0 : Int32)), .val (.ref a325), .val .null, .val (.ref a326), .val (.ref b327), .unset, .unset, .unset] [(.ref b329)])
    refine OGo.step (fun _ k => XS.dup X329.here hx rfl (hb hby at_1152) rfl rfl k) ?_
    show OGo p e below _ T329 (mkF m 1153 #[.val (.int app), .val (.int lease), .val (.int stream), .val (.int mode), .val (.int cx), .val (.int cy), .val (.int cz), .val (.int (0 : Int32)), .val (.ref a325), .val .null, .val (.ref a326), .val (.ref b327), .unset, .unset, .unset] [(.ref b329), (.ref b329)])
    refine OGo.step (fun _ k => XS.aload X329.here hx rfl (hb hby at_1153) rfl rfl k) ?_
    show OGo p e below _ T329 (mkF m 1155 #[.val (.int app), .val (.int lease), .val (.int stream), .val (.int mode), .val (.int cx), .val (.int cy), .val (.int cz), .val (.int (0 : Int32)), .val (.ref a325), .val .null, .val (.ref a326), .val (.ref b327), .unset, .unset, .unset] [(.ref b327), (.ref b329), (.ref b329)])
    have q330 := (((((O.keep K325 all0).keep K326 all0).ext E327).keep K328 (allS (Nat.le_trans Z0 sz_b327) all0)).ext E329)
    have ne331 : b327 ≠ b329 := (Nat.ne_of_lt (Nat.lt_of_lt_of_le (AE327.keep K328).lt (Nat.le_of_eq g329.symm)))
    have q332 := (Safe.ext E329 H328 (Safe.new (Nat.le_of_eq g329.symm)))
    obtain ⟨v333, T333, L333, X333, hQ333, st333⟩ := icall X329 hx hZ rfl hown (hw _ (List.mem_of_getElem? (i := 28) rfl)) (hw _ (List.mem_of_getElem? (i := 29) rfl)) (hw _ (List.mem_of_getElem? (i := 2) rfl)) (hw _ (List.mem_of_getElem? (i := 30) rfl)) (by decide) (W := 1) (rm_new1 l Z a0 hw [] b329 b327 k327 (own_c2 cx cz) zc wf n0 h329 SS' q330 (V328.ext E329) (own_okc2 hcx hcz) (show 93 < 2147483648 by decide) (show 93 ≤ 93 by decide) A329 F329_coder F329_value (Nat.le_trans Z0 sz_b329) (show ¬ Int32.ofNat 93 = 0 by decide) ne331) e329 (by decide) (by decide) (by decide) (by decide) (g := (mkF m 1155 #[.val (.int app), .val (.int lease), .val (.int stream), .val (.int mode), .val (.int cx), .val (.int cy), .val (.int cz), .val (.int (0 : Int32)), .val (.ref a325), .val .null, .val (.ref a326), .val (.ref b327), .unset, .unset, .unset] [(.ref b327), (.ref b329), (.ref b329)])) rfl (by rw [hml]; rfl) (a := b329) (argsL := [(.ref b327)]) (rest := [(.ref b329)]) opd_29 rfl rfl rfl (by show 2 * 0 + _ ≤ _; exact Nat.le_of_eq rfl) (hb hby at_1155)
    obtain ⟨rfl, N333, K333, r333, kr333, sr333, I333⟩ := hQ333
    have NN333 := Fr.app NN328 N333
    have KK333 : Keep h0 T333.heap [] := KK329.trans K333 (allS (Or.inr sz_b329) all0)
    have H333 := CHv.keep K333 (sfS q332 sf0) H329
    have R333 := CHr.trans R329 (CHr.keep K333 (sfS q332 sf0) H329)
    have sz_r333 : h0.size ≤ r333 := Nat.le_trans KK329.1 sr333
    refine OGo.step st333 ?_
    show OGo p e below _ T333 (mkF m 1158 #[.val (.int app), .val (.int lease), .val (.int stream), .val (.int mode), .val (.int cx), .val (.int cy), .val (.int cz), .val (.int (0 : Int32)), .val (.ref a325), .val .null, .val (.ref a326), .val (.ref b327), .unset, .unset, .unset] [(.ref b329)])
    obtain ⟨IE333, IC333, IF333, IV333⟩ := I333
    refine OGo.step (fun _ k => XS.astore X333.here hx rfl (hb hby at_1158) rfl rfl (l' := #[.val (.int app), .val (.int lease), .val (.int stream), .val (.int mode), .val (.int cx), .val (.int cy), .val (.int cz), .val (.int (0 : Int32)), .val (.ref a325), .val .null, .val (.ref a326), .val (.ref b327), .val (.ref b329), .unset, .unset]) rfl k) ?_
    show OGo p e below _ T333 (mkF m 1160 #[.val (.int app), .val (.int lease), .val (.int stream), .val (.int mode), .val (.int cx), .val (.int cy), .val (.int cz), .val (.int (0 : Int32)), .val (.ref a325), .val .null, .val (.ref a326), .val (.ref b327), .val (.ref b329), .unset, .unset] [])
    refine OGo.step (fun _ k => XS.aload X333.here hx rfl (hb hby at_1160) rfl rfl k) ?_
    show OGo p e below _ T333 (mkF m 1162 #[.val (.int app), .val (.int lease), .val (.int stream), .val (.int mode), .val (.int cx), .val (.int cy), .val (.int cz), .val (.int (0 : Int32)), .val (.ref a325), .val .null, .val (.ref a326), .val (.ref b327), .val (.ref b329), .unset, .unset] [(.ref a325)])
    refine OGo.step (fun _ k => XS.aload X333.here hx rfl (hb hby at_1162) rfl rfl k) ?_
    show OGo p e below _ T333 (mkF m 1164 #[.val (.int app), .val (.int lease), .val (.int stream), .val (.int mode), .val (.int cx), .val (.int cy), .val (.int cz), .val (.int (0 : Int32)), .val (.ref a325), .val .null, .val (.ref a326), .val (.ref b327), .val (.ref b329), .unset, .unset] [.null, (.ref a325)])
    refine OGo.step (fun _ k => XS.aload X333.here hx rfl (hb hby at_1164) rfl rfl k) ?_
    show OGo p e below _ T333 (mkF m 1166 #[.val (.int app), .val (.int lease), .val (.int stream), .val (.int mode), .val (.int cx), .val (.int cy), .val (.int cz), .val (.int (0 : Int32)), .val (.ref a325), .val .null, .val (.ref a326), .val (.ref b327), .val (.ref b329), .unset, .unset] [(.ref a326), .null, (.ref a325)])
    have q334 := (((((IE325.keep K326).ext E327).keep K328).ext E329).keep K333)
    have ne335 : a325 ≠ b327 := (Nat.ne_of_lt (Nat.lt_of_lt_of_le (IE325.keep K326).lt (Nat.le_of_eq g327.symm)))
    have ne336 : a325 ≠ b329 := (Nat.ne_of_lt (Nat.lt_of_lt_of_le (((IE325.keep K326).ext E327).keep K328).lt (Nat.le_of_eq g329.symm)))
    have q337 := (((((IC325.keep K326 nin0).ext E327).keep K328 (ninS ne335 nin0)).ext E329).keep K333 (ninS ne336 nin0))
    have q338 := (((((IF325.keep K326 nin0).ext E327).keep K328 (ninS ne335 nin0)).ext E329).keep K333 (ninS ne336 nin0))
    have ne339 : r325 ≠ b327 := (Nat.ne_of_lt (Nat.lt_of_lt_of_le (IV325.keep K326 nin0).lt (Nat.le_of_eq g327.symm)))
    have ne340 : r325 ≠ b329 := (Nat.ne_of_lt (Nat.lt_of_lt_of_le (((IV325.keep K326 nin0).ext E327).keep K328 (ninS ne339 nin0)).lt (Nat.le_of_eq g329.symm)))
    have q341 := (((((IV325.keep K326 nin0).ext E327).keep K328 (ninS ne339 nin0)).ext E329).keep K333 (ninS ne340 nin0))
    have q342 := ((((IE326.ext E327).keep K328).ext E329).keep K333)
    have ne343 : a326 ≠ b327 := (Nat.ne_of_lt (Nat.lt_of_lt_of_le IE326.lt (Nat.le_of_eq g327.symm)))
    have ne344 : a326 ≠ b329 := (Nat.ne_of_lt (Nat.lt_of_lt_of_le ((IE326.ext E327).keep K328).lt (Nat.le_of_eq g329.symm)))
    have q345 := ((((IC326.ext E327).keep K328 (ninS ne343 nin0)).ext E329).keep K333 (ninS ne344 nin0))
    have q346 := ((((IF326.ext E327).keep K328 (ninS ne343 nin0)).ext E329).keep K333 (ninS ne344 nin0))
    have ne347 : r326 ≠ b327 := (Nat.ne_of_lt (Nat.lt_of_lt_of_le IV326.lt (Nat.le_of_eq g327.symm)))
    have ne348 : r326 ≠ b329 := (Nat.ne_of_lt (Nat.lt_of_lt_of_le ((IV326.ext E327).keep K328 (ninS ne347 nin0)).lt (Nat.le_of_eq g329.symm)))
    have q349 := ((((IV326.ext E327).keep K328 (ninS ne347 nin0)).ext E329).keep K333 (ninS ne348 nin0))
    have q350 := (q330.keep K333 (allS (Nat.le_trans Z0 sz_b329) all0))
    obtain ⟨v351, T351, L351, kk351, X351, hS351, hk351, hZ351, hown351, CR351, hQ351, st351⟩ := scallK X333 hx hZ hown (own_hEL hw) hS0 (Nat.le_trans (Nat.le_trans (Nat.le_trans (Nat.le_trans (Nat.le_trans (Nat.le_trans (Nat.zero_le _) K325.1) K326.1) E327.1) K328.1) E329.1) K333.1) H333 hTK hBl (hw _ (List.mem_of_getElem? (i := 44) rfl)) (hw _ (List.mem_of_getElem? (i := 45) rfl)) (hw _ (List.mem_of_getElem? (i := 46) rfl)) (hw _ (List.mem_of_getElem? (i := 47) rfl)) (by decide) (W := 0) (rm_oosN l Z a0 hw [] a325 r325 a326 r326 kr325 kr326 (own_b8 [cx]) (own_b8 [cz]) zc wf n0 u0 u1 T333.heap SS' q350 TS hlt ⟨q334, q337, q338, q341⟩ ⟨q342, q345, q346, q349⟩ rfl rfl) rfl (by decide) (by decide) (by decide) (by decide) (g := (mkF m 1166 #[.val (.int app), .val (.int lease), .val (.int stream), .val (.int mode), .val (.int cx), .val (.int cy), .val (.int cz), .val (.int (0 : Int32)), .val (.ref a325), .val .null, .val (.ref a326), .val (.ref b327), .val (.ref b329), .unset, .unset] [(.ref a326), .null, (.ref a325)])) rfl (by rw [hml]; rfl) (argsL := [(.ref a325), .null, (.ref a326)]) (rest := []) opd_30 rfl rfl rfl (by show 2 * 0 + _ ≤ _; exact Nat.le_of_eq rfl) (hb hby at_1166)
    obtain ⟨x351, m351, r351, kr351, rfl, sx351, sm351, N351, K351, XE351, XU351, XC351, XM351, I351⟩ := hQ351
    have NN351 := Fr.app NN333 N351
    have KK351 : Keep h0 T351.heap [] := KK333.trans K351 all0
    have H351 := CR351.1
    have R351 := CHr.trans R333 CR351
    have sz_x351 : h0.size ≤ x351 := Nat.le_trans KK333.1 sx351
    have sz_m351 : h0.size ≤ m351 := Nat.le_trans KK333.1 sm351
    refine OGo.step st351 ?_
    show OGo p e below _ T351 (mkF m 1169 #[.val (.int app), .val (.int lease), .val (.int stream), .val (.int mode), .val (.int cx), .val (.int cy), .val (.int cz), .val (.int (0 : Int32)), .val (.ref a325), .val .null, .val (.ref a326), .val (.ref b327), .val (.ref b329), .unset, .unset] [(.ref x351)])
    rw [own_eq2] at I351
    obtain ⟨IE351, IC351, IF351, IV351⟩ := I351
    refine OGo.step (fun _ k => XS.astore X351.here hx rfl (hb hby at_1169) rfl rfl (l' := #[.val (.int app), .val (.int lease), .val (.int stream), .val (.int mode), .val (.int cx), .val (.int cy), .val (.int cz), .val (.int (0 : Int32)), .val (.ref a325), .val .null, .val (.ref a326), .val (.ref b327), .val (.ref b329), .val (.ref x351), .unset]) rfl k) ?_
    show OGo p e below _ T351 (mkF m 1171 #[.val (.int app), .val (.int lease), .val (.int stream), .val (.int mode), .val (.int cx), .val (.int cy), .val (.int cz), .val (.int (0 : Int32)), .val (.ref a325), .val .null, .val (.ref a326), .val (.ref b327), .val (.ref b329), .val (.ref x351), .unset] [])
    refine OGo.step (fun _ k => XS.aload X351.here hx rfl (hb hby at_1171) rfl rfl k) ?_
    show OGo p e below _ T351 (mkF m 1173 #[.val (.int app), .val (.int lease), .val (.int stream), .val (.int mode), .val (.int cx), .val (.int cy), .val (.int cz), .val (.int (0 : Int32)), .val (.ref a325), .val .null, .val (.ref a326), .val (.ref b327), .val (.ref b329), .val (.ref x351), .unset] [(.ref x351)])
    refine OGo.step (fun _ k => XS.ifnonnullYes X351.here hx rfl (pc0 := 1173) (pc' := 1178) rfl (hb hby at_1173) rfl (by decide) (by decide) k) ?_
    show OGo p e below _ T351 (mkF m 1178 #[.val (.int app), .val (.int lease), .val (.int stream), .val (.int mode), .val (.int cx), .val (.int cy), .val (.int cz), .val (.int (0 : Int32)), .val (.ref a325), .val .null, .val (.ref a326), .val (.ref b327), .val (.ref b329), .val (.ref x351), .unset] [])
    refine OGo.step (fun _ k => XS.aload X351.here hx rfl (hb hby at_1178) rfl rfl k) ?_
    show OGo p e below _ T351 (mkF m 1180 #[.val (.int app), .val (.int lease), .val (.int stream), .val (.int mode), .val (.int cx), .val (.int cy), .val (.int cz), .val (.int (0 : Int32)), .val (.ref a325), .val .null, .val (.ref a326), .val (.ref b327), .val (.ref b329), .val (.ref x351), .unset] [(.ref x351)])
    obtain ⟨T352, X352, e352, st352⟩ := own_gc X351 hx hZ351 hown351 (hw _ (List.mem_of_getElem? (i := 251) rfl)) (hw _ (List.mem_of_getElem? (i := 252) rfl)) (hw _ (List.mem_of_getElem? (i := 253) rfl)) (hw _ (List.mem_of_getElem? (i := 255) rfl)) (hw _ (List.mem_of_getElem? (i := 254) rfl)) (hw _ (List.mem_of_getElem? (i := 256) rfl)) (hw _ (List.mem_of_getElem? (i := 212) rfl)) (hw _ (List.mem_of_getElem? (i := 215) rfl)) (by decide) rfl XE351 XU351 XC351 (g := (mkF m 1180 #[.val (.int app), .val (.int lease), .val (.int stream), .val (.int mode), .val (.int cx), .val (.int cy), .val (.int cz), .val (.int (0 : Int32)), .val (.ref a325), .val .null, .val (.ref a326), .val (.ref b327), .val (.ref b329), .val (.ref x351), .unset] [(.ref x351)])) rfl (by rw [hml]; rfl) (rest := []) rfl (W := 0) (by show 2 * 0 + _ ≤ _; exact Nat.le_of_eq rfl) (hb hby at_1180) (by decide) (by decide) (by decide) (by decide)
    refine OGo.step st352 ?_
    show OGo p e below _ T352 (mkF m 1183 #[.val (.int app), .val (.int lease), .val (.int stream), .val (.int mode), .val (.int cx), .val (.int cy), .val (.int cz), .val (.int (0 : Int32)), .val (.ref a325), .val .null, .val (.ref a326), .val (.ref b327), .val (.ref b329), .val (.ref x351), .unset] [.null])
    refine OGo.step (fun _ k => XS.ifnullYes X352.here hx rfl (pc0 := 1183) (pc' := 1188) rfl (hb hby at_1183) rfl (by decide) (by decide) k) ?_
    show OGo p e below _ T352 (mkF m 1188 #[.val (.int app), .val (.int lease), .val (.int stream), .val (.int mode), .val (.int cx), .val (.int cy), .val (.int cz), .val (.int (0 : Int32)), .val (.ref a325), .val .null, .val (.ref a326), .val (.ref b327), .val (.ref b329), .val (.ref x351), .unset] [])
    refine OGo.step (fun _ k => XS.aload X352.here hx rfl (hb hby at_1188) rfl rfl k) ?_
    show OGo p e below _ T352 (mkF m 1190 #[.val (.int app), .val (.int lease), .val (.int stream), .val (.int mode), .val (.int cx), .val (.int cy), .val (.int cz), .val (.int (0 : Int32)), .val (.ref a325), .val .null, .val (.ref a326), .val (.ref b327), .val (.ref b329), .val (.ref x351), .unset] [(.ref x351)])
    obtain ⟨v353, T353, L353, X353, hQ353, st353⟩ := upcall X352 hx hZ351 hown351 (hw _ (List.mem_of_getElem? (i := 257) rfl)) (hw _ (List.mem_of_getElem? (i := 258) rfl)) (hw _ (List.mem_of_getElem? (i := 259) rfl)) (hw _ (List.mem_of_getElem? (i := 261) rfl)) (hw _ (List.mem_of_getElem? (i := 260) rfl)) (hw _ (List.mem_of_getElem? (i := 212) rfl)) (hw _ (List.mem_of_getElem? (i := 262) rfl)) (by decide) (by decide) (W := 0) (rm_msg l Z a0 hw [] x351 m351 T351.heap XM351) e352 (by decide) (by decide) (by decide) (by decide) (g := (mkF m 1190 #[.val (.int app), .val (.int lease), .val (.int stream), .val (.int mode), .val (.int cx), .val (.int cy), .val (.int cz), .val (.int (0 : Int32)), .val (.ref a325), .val .null, .val (.ref a326), .val (.ref b327), .val (.ref b329), .val (.ref x351), .unset] [(.ref x351)])) rfl (by rw [hml]; rfl) XE351 (argsL := []) (rest := []) opd_27 rfl rfl rfl (by show 2 * 0 + _ ≤ _; exact Nat.le_of_eq rfl) (hb hby at_1190)
    obtain ⟨rfl, rfl, e353⟩ := hQ353
    rw [List.append_nil] at X353
    refine OGo.step st353 ?_
    show OGo p e below _ T353 (mkF m 1193 #[.val (.int app), .val (.int lease), .val (.int stream), .val (.int mode), .val (.int cx), .val (.int cy), .val (.int cz), .val (.int (0 : Int32)), .val (.ref a325), .val .null, .val (.ref a326), .val (.ref b327), .val (.ref b329), .val (.ref x351), .unset] [(.ref m351)])
    refine OGo.step (fun _ k => XS.astore X353.here hx rfl (hb hby at_1193) rfl rfl (l' := #[.val (.int app), .val (.int lease), .val (.int stream), .val (.int mode), .val (.int cx), .val (.int cy), .val (.int cz), .val (.int (0 : Int32)), .val (.ref a325), .val .null, .val (.ref a326), .val (.ref b327), .val (.ref b329), .val (.ref x351), .val (.ref m351)]) rfl k) ?_
    show OGo p e below _ T353 (mkF m 1195 #[.val (.int app), .val (.int lease), .val (.int stream), .val (.int mode), .val (.int cx), .val (.int cy), .val (.int cz), .val (.int (0 : Int32)), .val (.ref a325), .val .null, .val (.ref a326), .val (.ref b327), .val (.ref b329), .val (.ref x351), .val (.ref m351)] [])
    refine OGo.step (fun _ k => XS.aload X353.here hx rfl (hb hby at_1195) rfl rfl k) ?_
    show OGo p e below _ T353 (mkF m 1197 #[.val (.int app), .val (.int lease), .val (.int stream), .val (.int mode), .val (.int cx), .val (.int cy), .val (.int cz), .val (.int (0 : Int32)), .val (.ref a325), .val .null, .val (.ref a326), .val (.ref b327), .val (.ref b329), .val (.ref x351), .val (.ref m351)] [(.ref m351)])
    refine OGo.step (fun _ k => XS.ifnonnullYes X353.here hx rfl (pc0 := 1197) (pc' := 1202) rfl (hb hby at_1197) rfl (by decide) (by decide) k) ?_
    show OGo p e below _ T353 (mkF m 1202 #[.val (.int app), .val (.int lease), .val (.int stream), .val (.int mode), .val (.int cx), .val (.int cy), .val (.int cz), .val (.int (0 : Int32)), .val (.ref a325), .val .null, .val (.ref a326), .val (.ref b327), .val (.ref b329), .val (.ref x351), .val (.ref m351)] [])
    refine OGo.step (fun _ k => XS.aload X353.here hx rfl (hb hby at_1202) rfl rfl k) ?_
    show OGo p e below _ T353 (mkF m 1204 #[.val (.int app), .val (.int lease), .val (.int stream), .val (.int mode), .val (.int cx), .val (.int cy), .val (.int cz), .val (.int (0 : Int32)), .val (.ref a325), .val .null, .val (.ref a326), .val (.ref b327), .val (.ref b329), .val (.ref x351), .val (.ref m351)] [(.ref m351)])
    refine OGo.step (fun _ k => XS.aload X353.here hx rfl (hb hby at_1204) rfl rfl k) ?_
    show OGo p e below _ T353 (mkF m 1206 #[.val (.int app), .val (.int lease), .val (.int stream), .val (.int mode), .val (.int cx), .val (.int cy), .val (.int cz), .val (.int (0 : Int32)), .val (.ref a325), .val .null, .val (.ref a326), .val (.ref b327), .val (.ref b329), .val (.ref x351), .val (.ref m351)] [(.ref b329), (.ref m351)])
    have ne354 : m351 ≠ b329 := (Ne.symm (Nat.ne_of_lt (Nat.lt_of_lt_of_le IF333.lt sm351)))
    obtain ⟨v355, T355, L355, X355, hQ355, st355⟩ := vcall X353 hx hZ351 hown351 (hw _ (List.mem_of_getElem? (i := 263) rfl)) (hw _ (List.mem_of_getElem? (i := 264) rfl)) (hw _ (List.mem_of_getElem? (i := 266) rfl)) rfl (hw _ (List.mem_of_getElem? (i := 266) rfl)) (hw _ (List.mem_of_getElem? (i := 265) rfl)) (hw _ (List.mem_of_getElem? (i := 2) rfl)) (hw _ (List.mem_of_getElem? (i := 267) rfl)) (by decide) (W := 0) (rm_eq l Z a0 hw [] m351 b329 r351 r333 kr351 kr333 (own_b8 (own_c2 cx cz)) (own_b8 (own_c2 cx cz)) zc wf n0 T351.heap SS' (q350.keep K351 all0) ⟨IE351, IC351, IF351, IV351⟩ ⟨(IE333.keep K351), (IC333.keep K351 nin0), (IF333.keep K351 nin0), (IV333.keep K351 nin0)⟩ (show 93 < 2147483648 by decide) (show 93 < 2147483648 by decide) ne354) e353 (by decide) (by decide) (by decide) (by decide) (g := (mkF m 1206 #[.val (.int app), .val (.int lease), .val (.int stream), .val (.int mode), .val (.int cx), .val (.int cy), .val (.int cz), .val (.int (0 : Int32)), .val (.ref a325), .val .null, .val (.ref a326), .val (.ref b327), .val (.ref b329), .val (.ref x351), .val (.ref m351)] [(.ref b329), (.ref m351)])) rfl (by rw [hml]; rfl) IE351 (argsL := [(.ref b329)]) (rest := []) opd_31 rfl rfl rfl (by show 2 * 0 + _ ≤ _; exact Nat.le_of_eq rfl) (hb hby at_1206)
    obtain ⟨rfl, rfl, e355⟩ := hQ355
    rw [List.append_nil] at X355
    refine OGo.step st355 ?_
    show OGo p e below _ T355 (mkF m 1209 #[.val (.int app), .val (.int lease), .val (.int stream), .val (.int mode), .val (.int cx), .val (.int cy), .val (.int cz), .val (.int (0 : Int32)), .val (.ref a325), .val .null, .val (.ref a326), .val (.ref b327), .val (.ref b329), .val (.ref x351), .val (.ref m351)] [(.int (if (own_b8 (own_c2 cx cz)) = (own_b8 (own_c2 cx cz)) then 1 else 0))])
    rw [if_pos rfl]
    show OGo p e below _ T355 (mkF m 1209 #[.val (.int app), .val (.int lease), .val (.int stream), .val (.int mode), .val (.int cx), .val (.int cy), .val (.int cz), .val (.int (0 : Int32)), .val (.ref a325), .val .null, .val (.ref a326), .val (.ref b327), .val (.ref b329), .val (.ref x351), .val (.ref m351)] [(.int (1 : Int32))])
    exact OGo.retH X355 hx hZ351 (own_hEL hw) hs0 e355 hS351 hk351 H351 R351 (t := .boolean) hret hlk rfl (Or.inl ⟨rfl, by simp, _, rfl⟩) (hb hby at_1209) (by decide) (by decide) ⟨rfl, NN351⟩
  case neg =>
    refine OGo.step (fun _ k => XS.ifNo X0.here hx rfl (hb hby at_27) rfl ((if0 _ _).trans (feq q).1) k) ?_
    show OGo p e below _ s₁ (mkF m 30 #[.val (.int app), .val (.int lease), .val (.int stream), .val (.int mode), .val (.int cx), .val (.int cy), .val (.int cz), .unset, .unset, .unset, .unset, .unset, .unset, .unset, .unset] [])
    refine OGo.step (fun _ k => XS.iconst X0.here hx rfl (hb hby at_30) k) ?_
    show OGo p e below _ s₁ (mkF m 31 #[.val (.int app), .val (.int lease), .val (.int stream), .val (.int mode), .val (.int cx), .val (.int cy), .val (.int cz), .unset, .unset, .unset, .unset, .unset, .unset, .unset, .unset] [(.int (1 : Int32))])
    refine OGo.step (fun _ k => XS.goto X0.here hx rfl (pc0 := 31) (pc' := 35) rfl (hb hby at_31) (by decide) (by decide) k) ?_
    show OGo p e below _ s₁ (mkF m 35 #[.val (.int app), .val (.int lease), .val (.int stream), .val (.int mode), .val (.int cx), .val (.int cy), .val (.int cz), .unset, .unset, .unset, .unset, .unset, .unset, .unset, .unset] [(.int (1 : Int32))])
    refine OGo.step (fun _ k => XS.istore X0.here hx rfl (hb hby at_35) rfl (l' := #[.val (.int app), .val (.int lease), .val (.int stream), .val (.int mode), .val (.int cx), .val (.int cy), .val (.int cz), .val (.int (1 : Int32)), .unset, .unset, .unset, .unset, .unset, .unset, .unset]) rfl k) ?_
    show OGo p e below _ s₁ (mkF m 37 #[.val (.int app), .val (.int lease), .val (.int stream), .val (.int mode), .val (.int cx), .val (.int cy), .val (.int cz), .val (.int (1 : Int32)), .unset, .unset, .unset, .unset, .unset, .unset, .unset] [])
    refine OGo.step (fun _ k => XS.iload X0.here hx rfl (hb hby at_37) rfl k) ?_
    show OGo p e below _ s₁ (mkF m 39 #[.val (.int app), .val (.int lease), .val (.int stream), .val (.int mode), .val (.int cx), .val (.int cy), .val (.int cz), .val (.int (1 : Int32)), .unset, .unset, .unset, .unset, .unset, .unset, .unset] [(.int cx)])
    obtain ⟨v356, T356, L356, X356, hQ356, st356⟩ := scall X0 hx hZ hown (hw _ (List.mem_of_getElem? (i := 0) rfl)) (hw _ (List.mem_of_getElem? (i := 1) rfl)) (hw _ (List.mem_of_getElem? (i := 2) rfl)) (hw _ (List.mem_of_getElem? (i := 3) rfl)) (by decide) (W := 0) (rm_valueOf l Z a0 hw [] cx zc wf n0 h0 SS' O hcx.2) e0 (by decide) (by decide) (by decide) (by decide) (g := (mkF m 39 #[.val (.int app), .val (.int lease), .val (.int stream), .val (.int mode), .val (.int cx), .val (.int cy), .val (.int cz), .val (.int (1 : Int32)), .unset, .unset, .unset, .unset, .unset, .unset, .unset] [(.int cx)])) rfl (by rw [hml]; rfl) (argsL := [(.int cx)]) (rest := []) opd_28 rfl rfl rfl (by show 2 * 0 + _ ≤ _; exact Nat.le_of_eq rfl) (hb hby at_39)
    obtain ⟨a356, r356, kr356, rfl, sa356, sr356, N356, K356, I356⟩ := hQ356
    have NN356 := Fr.app N0 N356
    have KK356 : Keep h0 T356.heap [] := (Keep.refl h0 []).trans K356 all0
    have H356 := CHv.keep K356 sf0 H0
    have R356 := CHr.trans R0 (CHr.keep K356 sf0 H0)
    have sz_a356 : h0.size ≤ a356 := Nat.le_trans (Keep.refl h0 []).1 sa356
    have sz_r356 : h0.size ≤ r356 := Nat.le_trans (Keep.refl h0 []).1 sr356
    refine OGo.step st356 ?_
    show OGo p e below _ T356 (mkF m 42 #[.val (.int app), .val (.int lease), .val (.int stream), .val (.int mode), .val (.int cx), .val (.int cy), .val (.int cz), .val (.int (1 : Int32)), .unset, .unset, .unset, .unset, .unset, .unset, .unset] [(.ref a356)])
    obtain ⟨IE356, IC356, IF356, IV356⟩ := I356
    refine OGo.step (fun _ k => XS.astore X356.here hx rfl (hb hby at_42) rfl rfl (l' := #[.val (.int app), .val (.int lease), .val (.int stream), .val (.int mode), .val (.int cx), .val (.int cy), .val (.int cz), .val (.int (1 : Int32)), .val (.ref a356), .unset, .unset, .unset, .unset, .unset, .unset]) rfl k) ?_
    show OGo p e below _ T356 (mkF m 44 #[.val (.int app), .val (.int lease), .val (.int stream), .val (.int mode), .val (.int cx), .val (.int cy), .val (.int cz), .val (.int (1 : Int32)), .val (.ref a356), .unset, .unset, .unset, .unset, .unset, .unset] [])
    refine OGo.step (fun _ k => XS.iload X356.here hx rfl (hb hby at_44) rfl k) ?_
    show OGo p e below _ T356 (mkF m 46 #[.val (.int app), .val (.int lease), .val (.int stream), .val (.int mode), .val (.int cx), .val (.int cy), .val (.int cz), .val (.int (1 : Int32)), .val (.ref a356), .unset, .unset, .unset, .unset, .unset, .unset] [(.int (1 : Int32))])
    refine OGo.step (fun _ k => XS.ifNo X356.here hx rfl (hb hby at_46) rfl ((if0 _ _).trans (feq (by decide : ¬ (1 : Int32) = 0)).1) k) ?_
    show OGo p e below _ T356 (mkF m 49 #[.val (.int app), .val (.int lease), .val (.int stream), .val (.int mode), .val (.int cx), .val (.int cy), .val (.int cz), .val (.int (1 : Int32)), .val (.ref a356), .unset, .unset, .unset, .unset, .unset, .unset] [])
    refine OGo.step (fun _ k => XS.iload X356.here hx rfl (hb hby at_49) rfl k) ?_
    show OGo p e below _ T356 (mkF m 51 #[.val (.int app), .val (.int lease), .val (.int stream), .val (.int mode), .val (.int cx), .val (.int cy), .val (.int cz), .val (.int (1 : Int32)), .val (.ref a356), .unset, .unset, .unset, .unset, .unset, .unset] [(.int cy)])
    obtain ⟨v357, T357, L357, X357, hQ357, st357⟩ := scall X356 hx hZ hown (hw _ (List.mem_of_getElem? (i := 0) rfl)) (hw _ (List.mem_of_getElem? (i := 1) rfl)) (hw _ (List.mem_of_getElem? (i := 2) rfl)) (hw _ (List.mem_of_getElem? (i := 3) rfl)) (by decide) (W := 0) (rm_valueOf l Z a0 hw [] cy zc wf n0 T356.heap SS' (O.keep K356 all0) hcy.2) rfl (by decide) (by decide) (by decide) (by decide) (g := (mkF m 51 #[.val (.int app), .val (.int lease), .val (.int stream), .val (.int mode), .val (.int cx), .val (.int cy), .val (.int cz), .val (.int (1 : Int32)), .val (.ref a356), .unset, .unset, .unset, .unset, .unset, .unset] [(.int cy)])) rfl (by rw [hml]; rfl) (argsL := [(.int cy)]) (rest := []) opd_28 rfl rfl rfl (by show 2 * 0 + _ ≤ _; exact Nat.le_of_eq rfl) (hb hby at_51)
    obtain ⟨a357, r357, kr357, rfl, sa357, sr357, N357, K357, I357⟩ := hQ357
    have NN357 := Fr.app NN356 N357
    have KK357 : Keep h0 T357.heap [] := KK356.trans K357 all0
    have H357 := CHv.keep K357 sf0 H356
    have R357 := CHr.trans R356 (CHr.keep K357 sf0 H356)
    have sz_a357 : h0.size ≤ a357 := Nat.le_trans KK356.1 sa357
    have sz_r357 : h0.size ≤ r357 := Nat.le_trans KK356.1 sr357
    refine OGo.step st357 ?_
    show OGo p e below _ T357 (mkF m 54 #[.val (.int app), .val (.int lease), .val (.int stream), .val (.int mode), .val (.int cx), .val (.int cy), .val (.int cz), .val (.int (1 : Int32)), .val (.ref a356), .unset, .unset, .unset, .unset, .unset, .unset] [(.ref a357)])
    obtain ⟨IE357, IC357, IF357, IV357⟩ := I357
    refine OGo.step (fun _ k => XS.goto X357.here hx rfl (pc0 := 54) (pc' := 58) rfl (hb hby at_54) (by decide) (by decide) k) ?_
    show OGo p e below _ T357 (mkF m 58 #[.val (.int app), .val (.int lease), .val (.int stream), .val (.int mode), .val (.int cx), .val (.int cy), .val (.int cz), .val (.int (1 : Int32)), .val (.ref a356), .unset, .unset, .unset, .unset, .unset, .unset] [(.ref a357)])
    refine OGo.step (fun _ k => XS.astore X357.here hx rfl (hb hby at_58) rfl rfl (l' := #[.val (.int app), .val (.int lease), .val (.int stream), .val (.int mode), .val (.int cx), .val (.int cy), .val (.int cz), .val (.int (1 : Int32)), .val (.ref a356), .val (.ref a357), .unset, .unset, .unset, .unset, .unset]) rfl k) ?_
    show OGo p e below _ T357 (mkF m 60 #[.val (.int app), .val (.int lease), .val (.int stream), .val (.int mode), .val (.int cx), .val (.int cy), .val (.int cz), .val (.int (1 : Int32)), .val (.ref a356), .val (.ref a357), .unset, .unset, .unset, .unset, .unset] [])
    refine OGo.step (fun _ k => XS.iload X357.here hx rfl (hb hby at_60) rfl k) ?_
    show OGo p e below _ T357 (mkF m 62 #[.val (.int app), .val (.int lease), .val (.int stream), .val (.int mode), .val (.int cx), .val (.int cy), .val (.int cz), .val (.int (1 : Int32)), .val (.ref a356), .val (.ref a357), .unset, .unset, .unset, .unset, .unset] [(.int cz)])
    obtain ⟨v358, T358, L358, X358, hQ358, st358⟩ := scall X357 hx hZ hown (hw _ (List.mem_of_getElem? (i := 0) rfl)) (hw _ (List.mem_of_getElem? (i := 1) rfl)) (hw _ (List.mem_of_getElem? (i := 2) rfl)) (hw _ (List.mem_of_getElem? (i := 3) rfl)) (by decide) (W := 0) (rm_valueOf l Z a0 hw [] cz zc wf n0 T357.heap SS' ((O.keep K356 all0).keep K357 all0) hcz.2) rfl (by decide) (by decide) (by decide) (by decide) (g := (mkF m 62 #[.val (.int app), .val (.int lease), .val (.int stream), .val (.int mode), .val (.int cx), .val (.int cy), .val (.int cz), .val (.int (1 : Int32)), .val (.ref a356), .val (.ref a357), .unset, .unset, .unset, .unset, .unset] [(.int cz)])) rfl (by rw [hml]; rfl) (argsL := [(.int cz)]) (rest := []) opd_28 rfl rfl rfl (by show 2 * 0 + _ ≤ _; exact Nat.le_of_eq rfl) (hb hby at_62)
    obtain ⟨a358, r358, kr358, rfl, sa358, sr358, N358, K358, I358⟩ := hQ358
    have NN358 := Fr.app NN357 N358
    have KK358 : Keep h0 T358.heap [] := KK357.trans K358 all0
    have H358 := CHv.keep K358 sf0 H357
    have R358 := CHr.trans R357 (CHr.keep K358 sf0 H357)
    have sz_a358 : h0.size ≤ a358 := Nat.le_trans KK357.1 sa358
    have sz_r358 : h0.size ≤ r358 := Nat.le_trans KK357.1 sr358
    refine OGo.step st358 ?_
    show OGo p e below _ T358 (mkF m 65 #[.val (.int app), .val (.int lease), .val (.int stream), .val (.int mode), .val (.int cx), .val (.int cy), .val (.int cz), .val (.int (1 : Int32)), .val (.ref a356), .val (.ref a357), .unset, .unset, .unset, .unset, .unset] [(.ref a358)])
    obtain ⟨IE358, IC358, IF358, IV358⟩ := I358
    refine OGo.step (fun _ k => XS.astore X358.here hx rfl (hb hby at_65) rfl rfl (l' := #[.val (.int app), .val (.int lease), .val (.int stream), .val (.int mode), .val (.int cx), .val (.int cy), .val (.int cz), .val (.int (1 : Int32)), .val (.ref a356), .val (.ref a357), .val (.ref a358), .unset, .unset, .unset, .unset]) rfl k) ?_
    show OGo p e below _ T358 (mkF m 67 #[.val (.int app), .val (.int lease), .val (.int stream), .val (.int mode), .val (.int cx), .val (.int cy), .val (.int cz), .val (.int (1 : Int32)), .val (.ref a356), .val (.ref a357), .val (.ref a358), .unset, .unset, .unset, .unset] [])
    refine OGo.step (fun _ k => XS.iload X358.here hx rfl (hb hby at_67) rfl k) ?_
    show OGo p e below _ T358 (mkF m 69 #[.val (.int app), .val (.int lease), .val (.int stream), .val (.int mode), .val (.int cx), .val (.int cy), .val (.int cz), .val (.int (1 : Int32)), .val (.ref a356), .val (.ref a357), .val (.ref a358), .unset, .unset, .unset, .unset] [(.int (1 : Int32))])
    refine OGo.step (fun _ k => XS.ifNo X358.here hx rfl (hb hby at_69) rfl ((if0 _ _).trans (feq (by decide : ¬ (1 : Int32) = 0)).1) k) ?_
    show OGo p e below _ T358 (mkF m 72 #[.val (.int app), .val (.int lease), .val (.int stream), .val (.int mode), .val (.int cx), .val (.int cy), .val (.int cz), .val (.int (1 : Int32)), .val (.ref a356), .val (.ref a357), .val (.ref a358), .unset, .unset, .unset, .unset] [])
    refine OGo.step (fun _ k => XS.bipush X358.here hx rfl (hb hby at_72) k) ?_
    show OGo p e below _ T358 (mkF m 74 #[.val (.int app), .val (.int lease), .val (.int stream), .val (.int mode), .val (.int cx), .val (.int cy), .val (.int cz), .val (.int (1 : Int32)), .val (.ref a356), .val (.ref a357), .val (.ref a358), .unset, .unset, .unset, .unset] [(.int (86 : Int32))])
    obtain ⟨T359, h359, k359, X359, e359, E359, A359, AE359, st359⟩ := newPE X358 hx hZ (hw _ (List.mem_of_getElem? (i := 26) rfl)) rfl (g := (mkF m 74 #[.val (.int app), .val (.int lease), .val (.int stream), .val (.int mode), .val (.int cx), .val (.int cy), .val (.int cz), .val (.int (1 : Int32)), .val (.ref a356), .val (.ref a357), .val (.ref a358), .unset, .unset, .unset, .unset] [(.int (86 : Int32))])) rfl (hb hby at_74) rfl (by decide) (cap := 86) (by decide) (by decide) (by decide) (by decide) (ad := "[C") (by decide)
    obtain ⟨b359, g359⟩ : ∃ z, z = T358.heap.size := ⟨_, rfl⟩
    rw [← g359] at A359 AE359 st359
    have sz_b359 : h0.size ≤ b359 := Nat.le_trans KK358.1 (Nat.le_of_eq g359.symm)
    have KK359 : Keep h0 h359 [] := KK358.ext E359
    have H359 := CHv.ext E359 H358
    have R359 := CHr.trans R358 (CHr.ext E359 H358)
    have V359 : Arv Z h359 b359 k359 .char (86 : Int32) [] (.int (0 : Int32)) := Arv.new A359 (by decide)
    refine OGo.step st359 ?_
    show OGo p e below _ T359 (mkF m 76 #[.val (.int app), .val (.int lease), .val (.int stream), .val (.int mode), .val (.int cx), .val (.int cy), .val (.int cz), .val (.int (1 : Int32)), .val (.ref a356), .val (.ref a357), .val (.ref a358), .unset, .unset, .unset, .unset] [(.ref b359)])
    have D360 : ∀ i, i < 86 → own_dk code 76 own_v1 i = true := by decide +kernel
    have V0360 : Arv Z h359 b359 k359 .char (Int32.ofNat (own_c1 cx cy cz).length) (((own_c1 cx cy cz).take 0).map Value.int) (.int (0 : Int32)) := V359
    obtain ⟨T360, L360, X360, N0360, K360, V360, st360⟩ := own_cfill hx hZ (cs := own_c1 cx cy cz) (vis := own_v1) (b := b359) (Ls := #[.val (.int app), .val (.int lease), .val (.int stream), .val (.int mode), .val (.int cx), .val (.int cy), .val (.int cz), .val (.int (1 : Int32)), .val (.ref a356), .val (.ref a357), .val (.ref a358), .unset, .unset, .unset, .unset]) (rest := []) (pc0 := 76) (show 86 ≤ 127 by decide) (own_okc1 hcx hcy hcz) (by rw [hby]; exact D360) (own_pvat (own_pvc1 rfl rfl rfl)) 86 0 T359 h359 _ rfl X359 e359 V0360
    have N360 := own_frm N0360 (Nat.le_trans Z0 sz_b359)
    have NN360 := Fr.app NN358 N360
    have KK360 : Keep h0 T360.heap [] := KK359.trans K360 (allS (Or.inr sz_b359) all0)
    have H360 := CHv.keep K360 (sfS (Safe.ext E359 H358 (Safe.new (Nat.le_of_eq g359.symm))) sf0) H359
    have R360 := CHr.trans R359 (CHr.keep K360 (sfS (Safe.ext E359 H358 (Safe.new (Nat.le_of_eq g359.symm))) sf0) H359)
    refine OGo.step st360 ?_
    show OGo p e below _ T360 (mkF m 586 #[.val (.int app), .val (.int lease), .val (.int stream), .val (.int mode), .val (.int cx), .val (.int cy), .val (.int cz), .val (.int (1 : Int32)), .val (.ref a356), .val (.ref a357), .val (.ref a358), .unset, .unset, .unset, .unset] [(.ref b359)])
    refine OGo.step (fun _ k => XS.astore X360.here hx rfl (hb hby at_586) rfl rfl (l' := #[.val (.int app), .val (.int lease), .val (.int stream), .val (.int mode), .val (.int cx), .val (.int cy), .val (.int cz), .val (.int (1 : Int32)), .val (.ref a356), .val (.ref a357), .val (.ref a358), .val (.ref b359), .unset, .unset, .unset]) rfl k) ?_
    show OGo p e below _ T360 (mkF m 588 #[.val (.int app), .val (.int lease), .val (.int stream), .val (.int mode), .val (.int cx), .val (.int cy), .val (.int cz), .val (.int (1 : Int32)), .val (.ref a356), .val (.ref a357), .val (.ref a358), .val (.ref b359), .unset, .unset, .unset] [])
    refine OGo.step (fun _ k => XS.goto X360.here hx rfl (pc0 := 588) (pc' := 1149) rfl (hb hby at_588) (by decide) (by decide) k) ?_
    show OGo p e below _ T360 (mkF m 1149 #[.val (.int app), .val (.int lease), .val (.int stream), .val (.int mode), .val (.int cx), .val (.int cy), .val (.int cz), .val (.int (1 : Int32)), .val (.ref a356), .val (.ref a357), .val (.ref a358), .val (.ref b359), .unset, .unset, .unset] [])
    obtain ⟨T361, h361, X361, e361, E361, A361, D361, UN361, st361⟩ := newO X360 hx hZ hown (hw _ (List.mem_of_getElem? (i := 27) rfl)) (hw _ (List.mem_of_getElem? (i := 10) rfl)) (hw _ (List.mem_of_getElem? (i := 2) rfl)) rfl (g := (mkF m 1149 #[.val (.int app), .val (.int lease), .val (.int stream), .val (.int mode), .val (.int cx), .val (.int cy), .val (.int cz), .val (.int (1 : Int32)), .val (.ref a356), .val (.ref a357), .val (.ref a358), .val (.ref b359), .unset, .unset, .unset] [])) rfl (hb hby at_1149) (by decide) (by decide)
    obtain ⟨b361, g361⟩ : ∃ z, z = T360.heap.size := ⟨_, rfl⟩
    rw [← g361] at A361 D361 UN361 st361
    have sz_b361 : h0.size ≤ b361 := Nat.le_trans KK360.1 (Nat.le_of_eq g361.symm)
    have KK361 : Keep h0 h361 [] := KK360.ext E361
    have H361 := CHv.ext E361 H360
    have R361 := CHr.trans R360 (CHr.ext E361 H360)
    have F361_value : Fld Z h361 b361 "java/lang/String" "value" "[B" .null := D361 (Or.inr (hw _ (List.mem_of_getElem? (i := 23) rfl))) (ty := (.array .byte)) (by decide)
    have F361_coder : Fld Z h361 b361 "java/lang/String" "coder" "B" (.int (0 : Int32)) := D361 (Or.inr (hw _ (List.mem_of_getElem? (i := 25) rfl))) (ty := .byte) (by decide)
    refine OGo.step st361 ?_
    show OGo p e below _ T361 (mkF m 1152 #[.val (.int app), .val (.int lease), .val (.int stream), .val (.int mode), .val (.int cx), .val (.int cy), .val (.int cz), .val (.int (1 : Int32)), .val (.ref a356), .val (.ref a357), .val (.ref a358), .val (.ref b359), .unset, .unset, .unset] [(.ref b361)])
    refine OGo.step (fun _ k => XS.dup X361.here hx rfl (hb hby at_1152) rfl rfl k) ?_
    show OGo p e below _ T361 (mkF m 1153 #[.val (.int app), .val (.int lease), .val (.int stream), .val (.int mode), .val (.int cx), .val (.int cy), .val (.int cz), .val (.int (1 : Int32)), .val (.ref a356), .val (.ref a357), .val (.ref a358), .val (.ref b359), .unset, .unset, .unset] [(.ref b361), (.ref b361)])
    refine OGo.step (fun _ k => XS.aload X361.here hx rfl (hb hby at_1153) rfl rfl k) ?_
    show OGo p e below _ T361 (mkF m 1155 #[.val (.int app), .val (.int lease), .val (.int stream), .val (.int mode), .val (.int cx), .val (.int cy), .val (.int cz), .val (.int (1 : Int32)), .val (.ref a356), .val (.ref a357), .val (.ref a358), .val (.ref b359), .unset, .unset, .unset] [(.ref b359), (.ref b361), (.ref b361)])
    have q362 := ((((((O.keep K356 all0).keep K357 all0).keep K358 all0).ext E359).keep K360 (allS (Nat.le_trans Z0 sz_b359) all0)).ext E361)
    have ne363 : b359 ≠ b361 := (Nat.ne_of_lt (Nat.lt_of_lt_of_le (AE359.keep K360).lt (Nat.le_of_eq g361.symm)))
    have q364 := (Safe.ext E361 H360 (Safe.new (Nat.le_of_eq g361.symm)))
    obtain ⟨v365, T365, L365, X365, hQ365, st365⟩ := icall X361 hx hZ rfl hown (hw _ (List.mem_of_getElem? (i := 28) rfl)) (hw _ (List.mem_of_getElem? (i := 29) rfl)) (hw _ (List.mem_of_getElem? (i := 2) rfl)) (hw _ (List.mem_of_getElem? (i := 30) rfl)) (by decide) (W := 1) (rm_new1 l Z a0 hw [] b361 b359 k359 (own_c1 cx cy cz) zc wf n0 h361 SS' q362 (V360.ext E361) (own_okc1 hcx hcy hcz) (show 86 < 2147483648 by decide) (show 86 ≤ 93 by decide) A361 F361_coder F361_value (Nat.le_trans Z0 sz_b361) (show ¬ Int32.ofNat 86 = 0 by decide) ne363) e361 (by decide) (by decide) (by decide) (by decide) (g := (mkF m 1155 #[.val (.int app), .val (.int lease), .val (.int stream), .val (.int mode), .val (.int cx), .val (.int cy), .val (.int cz), .val (.int (1 : Int32)), .val (.ref a356), .val (.ref a357), .val (.ref a358), .val (.ref b359), .unset, .unset, .unset] [(.ref b359), (.ref b361), (.ref b361)])) rfl (by rw [hml]; rfl) (a := b361) (argsL := [(.ref b359)]) (rest := [(.ref b361)]) opd_29 rfl rfl rfl (by show 2 * 0 + _ ≤ _; exact Nat.le_of_eq rfl) (hb hby at_1155)
    obtain ⟨rfl, N365, K365, r365, kr365, sr365, I365⟩ := hQ365
    have NN365 := Fr.app NN360 N365
    have KK365 : Keep h0 T365.heap [] := KK361.trans K365 (allS (Or.inr sz_b361) all0)
    have H365 := CHv.keep K365 (sfS q364 sf0) H361
    have R365 := CHr.trans R361 (CHr.keep K365 (sfS q364 sf0) H361)
    have sz_r365 : h0.size ≤ r365 := Nat.le_trans KK361.1 sr365
    refine OGo.step st365 ?_
    show OGo p e below _ T365 (mkF m 1158 #[.val (.int app), .val (.int lease), .val (.int stream), .val (.int mode), .val (.int cx), .val (.int cy), .val (.int cz), .val (.int (1 : Int32)), .val (.ref a356), .val (.ref a357), .val (.ref a358), .val (.ref b359), .unset, .unset, .unset] [(.ref b361)])
    obtain ⟨IE365, IC365, IF365, IV365⟩ := I365
    refine OGo.step (fun _ k => XS.astore X365.here hx rfl (hb hby at_1158) rfl rfl (l' := #[.val (.int app), .val (.int lease), .val (.int stream), .val (.int mode), .val (.int cx), .val (.int cy), .val (.int cz), .val (.int (1 : Int32)), .val (.ref a356), .val (.ref a357), .val (.ref a358), .val (.ref b359), .val (.ref b361), .unset, .unset]) rfl k) ?_
    show OGo p e below _ T365 (mkF m 1160 #[.val (.int app), .val (.int lease), .val (.int stream), .val (.int mode), .val (.int cx), .val (.int cy), .val (.int cz), .val (.int (1 : Int32)), .val (.ref a356), .val (.ref a357), .val (.ref a358), .val (.ref b359), .val (.ref b361), .unset, .unset] [])
    refine OGo.step (fun _ k => XS.aload X365.here hx rfl (hb hby at_1160) rfl rfl k) ?_
    show OGo p e below _ T365 (mkF m 1162 #[.val (.int app), .val (.int lease), .val (.int stream), .val (.int mode), .val (.int cx), .val (.int cy), .val (.int cz), .val (.int (1 : Int32)), .val (.ref a356), .val (.ref a357), .val (.ref a358), .val (.ref b359), .val (.ref b361), .unset, .unset] [(.ref a356)])
    refine OGo.step (fun _ k => XS.aload X365.here hx rfl (hb hby at_1162) rfl rfl k) ?_
    show OGo p e below _ T365 (mkF m 1164 #[.val (.int app), .val (.int lease), .val (.int stream), .val (.int mode), .val (.int cx), .val (.int cy), .val (.int cz), .val (.int (1 : Int32)), .val (.ref a356), .val (.ref a357), .val (.ref a358), .val (.ref b359), .val (.ref b361), .unset, .unset] [(.ref a357), (.ref a356)])
    refine OGo.step (fun _ k => XS.aload X365.here hx rfl (hb hby at_1164) rfl rfl k) ?_
    show OGo p e below _ T365 (mkF m 1166 #[.val (.int app), .val (.int lease), .val (.int stream), .val (.int mode), .val (.int cx), .val (.int cy), .val (.int cz), .val (.int (1 : Int32)), .val (.ref a356), .val (.ref a357), .val (.ref a358), .val (.ref b359), .val (.ref b361), .unset, .unset] [(.ref a358), (.ref a357), (.ref a356)])
    have q366 := ((((((IE356.keep K357).keep K358).ext E359).keep K360).ext E361).keep K365)
    have ne367 : a356 ≠ b359 := (Nat.ne_of_lt (Nat.lt_of_lt_of_le ((IE356.keep K357).keep K358).lt (Nat.le_of_eq g359.symm)))
    have ne368 : a356 ≠ b361 := (Nat.ne_of_lt (Nat.lt_of_lt_of_le ((((IE356.keep K357).keep K358).ext E359).keep K360).lt (Nat.le_of_eq g361.symm)))
    have q369 := ((((((IC356.keep K357 nin0).keep K358 nin0).ext E359).keep K360 (ninS ne367 nin0)).ext E361).keep K365 (ninS ne368 nin0))
    have q370 := ((((((IF356.keep K357 nin0).keep K358 nin0).ext E359).keep K360 (ninS ne367 nin0)).ext E361).keep K365 (ninS ne368 nin0))
    have ne371 : r356 ≠ b359 := (Nat.ne_of_lt (Nat.lt_of_lt_of_le ((IV356.keep K357 nin0).keep K358 nin0).lt (Nat.le_of_eq g359.symm)))
    have ne372 : r356 ≠ b361 := (Nat.ne_of_lt (Nat.lt_of_lt_of_le ((((IV356.keep K357 nin0).keep K358 nin0).ext E359).keep K360 (ninS ne371 nin0)).lt (Nat.le_of_eq g361.symm)))
    have q373 := ((((((IV356.keep K357 nin0).keep K358 nin0).ext E359).keep K360 (ninS ne371 nin0)).ext E361).keep K365 (ninS ne372 nin0))
    have q374 := ((((IE358.ext E359).keep K360).ext E361).keep K365)
    have ne375 : a358 ≠ b359 := (Nat.ne_of_lt (Nat.lt_of_lt_of_le IE358.lt (Nat.le_of_eq g359.symm)))
    have ne376 : a358 ≠ b361 := (Nat.ne_of_lt (Nat.lt_of_lt_of_le ((IE358.ext E359).keep K360).lt (Nat.le_of_eq g361.symm)))
    have q377 := ((((IC358.ext E359).keep K360 (ninS ne375 nin0)).ext E361).keep K365 (ninS ne376 nin0))
    have q378 := ((((IF358.ext E359).keep K360 (ninS ne375 nin0)).ext E361).keep K365 (ninS ne376 nin0))
    have ne379 : r358 ≠ b359 := (Nat.ne_of_lt (Nat.lt_of_lt_of_le IV358.lt (Nat.le_of_eq g359.symm)))
    have ne380 : r358 ≠ b361 := (Nat.ne_of_lt (Nat.lt_of_lt_of_le ((IV358.ext E359).keep K360 (ninS ne379 nin0)).lt (Nat.le_of_eq g361.symm)))
    have q381 := ((((IV358.ext E359).keep K360 (ninS ne379 nin0)).ext E361).keep K365 (ninS ne380 nin0))
    have q382 := (q362.keep K365 (allS (Nat.le_trans Z0 sz_b361) all0))
    have q383 := (((((IE357.keep K358).ext E359).keep K360).ext E361).keep K365)
    have ne384 : a357 ≠ b359 := (Nat.ne_of_lt (Nat.lt_of_lt_of_le (IE357.keep K358).lt (Nat.le_of_eq g359.symm)))
    have ne385 : a357 ≠ b361 := (Nat.ne_of_lt (Nat.lt_of_lt_of_le (((IE357.keep K358).ext E359).keep K360).lt (Nat.le_of_eq g361.symm)))
    have q386 := (((((IC357.keep K358 nin0).ext E359).keep K360 (ninS ne384 nin0)).ext E361).keep K365 (ninS ne385 nin0))
    have q387 := (((((IF357.keep K358 nin0).ext E359).keep K360 (ninS ne384 nin0)).ext E361).keep K365 (ninS ne385 nin0))
    have ne388 : r357 ≠ b359 := (Nat.ne_of_lt (Nat.lt_of_lt_of_le (IV357.keep K358 nin0).lt (Nat.le_of_eq g359.symm)))
    have ne389 : r357 ≠ b361 := (Nat.ne_of_lt (Nat.lt_of_lt_of_le (((IV357.keep K358 nin0).ext E359).keep K360 (ninS ne388 nin0)).lt (Nat.le_of_eq g361.symm)))
    have q390 := (((((IV357.keep K358 nin0).ext E359).keep K360 (ninS ne388 nin0)).ext E361).keep K365 (ninS ne389 nin0))
    obtain ⟨v391, T391, L391, kk391, X391, hS391, hk391, hZ391, hown391, CR391, hQ391, st391⟩ := scallK X365 hx hZ hown (own_hEL hw) hS0 (Nat.le_trans (Nat.le_trans (Nat.le_trans (Nat.le_trans (Nat.le_trans (Nat.le_trans (Nat.le_trans (Nat.zero_le _) K356.1) K357.1) K358.1) E359.1) K360.1) E361.1) K365.1) H365 hTK hBl (hw _ (List.mem_of_getElem? (i := 44) rfl)) (hw _ (List.mem_of_getElem? (i := 45) rfl)) (hw _ (List.mem_of_getElem? (i := 46) rfl)) (hw _ (List.mem_of_getElem? (i := 47) rfl)) (by decide) (W := 0) (rm_oosL l Z a0 hw [] a356 r356 a358 r358 kr356 kr358 a357 r357 kr357 (own_b8 [cx]) (own_b8 [cy]) (own_b8 [cz]) zc wf n0 u0 u1 T365.heap SS' q382 TS hlt ⟨q366, q369, q370, q373⟩ ⟨q374, q377, q378, q381⟩ rfl rfl ⟨q383, q386, q387, q390⟩ rfl) rfl (by decide) (by decide) (by decide) (by decide) (g := (mkF m 1166 #[.val (.int app), .val (.int lease), .val (.int stream), .val (.int mode), .val (.int cx), .val (.int cy), .val (.int cz), .val (.int (1 : Int32)), .val (.ref a356), .val (.ref a357), .val (.ref a358), .val (.ref b359), .val (.ref b361), .unset, .unset] [(.ref a358), (.ref a357), (.ref a356)])) rfl (by rw [hml]; rfl) (argsL := [(.ref a356), (.ref a357), (.ref a358)]) (rest := []) opd_30 rfl rfl rfl (by show 2 * 0 + _ ≤ _; exact Nat.le_of_eq rfl) (hb hby at_1166)
    obtain ⟨x391, m391, r391, kr391, rfl, sx391, sm391, N391, K391, XE391, XU391, XC391, XM391, I391⟩ := hQ391
    have NN391 := Fr.app NN365 N391
    have KK391 : Keep h0 T391.heap [] := KK365.trans K391 all0
    have H391 := CR391.1
    have R391 := CHr.trans R365 CR391
    have sz_x391 : h0.size ≤ x391 := Nat.le_trans KK365.1 sx391
    have sz_m391 : h0.size ≤ m391 := Nat.le_trans KK365.1 sm391
    refine OGo.step st391 ?_
    show OGo p e below _ T391 (mkF m 1169 #[.val (.int app), .val (.int lease), .val (.int stream), .val (.int mode), .val (.int cx), .val (.int cy), .val (.int cz), .val (.int (1 : Int32)), .val (.ref a356), .val (.ref a357), .val (.ref a358), .val (.ref b359), .val (.ref b361), .unset, .unset] [(.ref x391)])
    rw [own_eq1] at I391
    obtain ⟨IE391, IC391, IF391, IV391⟩ := I391
    refine OGo.step (fun _ k => XS.astore X391.here hx rfl (hb hby at_1169) rfl rfl (l' := #[.val (.int app), .val (.int lease), .val (.int stream), .val (.int mode), .val (.int cx), .val (.int cy), .val (.int cz), .val (.int (1 : Int32)), .val (.ref a356), .val (.ref a357), .val (.ref a358), .val (.ref b359), .val (.ref b361), .val (.ref x391), .unset]) rfl k) ?_
    show OGo p e below _ T391 (mkF m 1171 #[.val (.int app), .val (.int lease), .val (.int stream), .val (.int mode), .val (.int cx), .val (.int cy), .val (.int cz), .val (.int (1 : Int32)), .val (.ref a356), .val (.ref a357), .val (.ref a358), .val (.ref b359), .val (.ref b361), .val (.ref x391), .unset] [])
    refine OGo.step (fun _ k => XS.aload X391.here hx rfl (hb hby at_1171) rfl rfl k) ?_
    show OGo p e below _ T391 (mkF m 1173 #[.val (.int app), .val (.int lease), .val (.int stream), .val (.int mode), .val (.int cx), .val (.int cy), .val (.int cz), .val (.int (1 : Int32)), .val (.ref a356), .val (.ref a357), .val (.ref a358), .val (.ref b359), .val (.ref b361), .val (.ref x391), .unset] [(.ref x391)])
    refine OGo.step (fun _ k => XS.ifnonnullYes X391.here hx rfl (pc0 := 1173) (pc' := 1178) rfl (hb hby at_1173) rfl (by decide) (by decide) k) ?_
    show OGo p e below _ T391 (mkF m 1178 #[.val (.int app), .val (.int lease), .val (.int stream), .val (.int mode), .val (.int cx), .val (.int cy), .val (.int cz), .val (.int (1 : Int32)), .val (.ref a356), .val (.ref a357), .val (.ref a358), .val (.ref b359), .val (.ref b361), .val (.ref x391), .unset] [])
    refine OGo.step (fun _ k => XS.aload X391.here hx rfl (hb hby at_1178) rfl rfl k) ?_
    show OGo p e below _ T391 (mkF m 1180 #[.val (.int app), .val (.int lease), .val (.int stream), .val (.int mode), .val (.int cx), .val (.int cy), .val (.int cz), .val (.int (1 : Int32)), .val (.ref a356), .val (.ref a357), .val (.ref a358), .val (.ref b359), .val (.ref b361), .val (.ref x391), .unset] [(.ref x391)])
    obtain ⟨T392, X392, e392, st392⟩ := own_gc X391 hx hZ391 hown391 (hw _ (List.mem_of_getElem? (i := 251) rfl)) (hw _ (List.mem_of_getElem? (i := 252) rfl)) (hw _ (List.mem_of_getElem? (i := 253) rfl)) (hw _ (List.mem_of_getElem? (i := 255) rfl)) (hw _ (List.mem_of_getElem? (i := 254) rfl)) (hw _ (List.mem_of_getElem? (i := 256) rfl)) (hw _ (List.mem_of_getElem? (i := 212) rfl)) (hw _ (List.mem_of_getElem? (i := 215) rfl)) (by decide) rfl XE391 XU391 XC391 (g := (mkF m 1180 #[.val (.int app), .val (.int lease), .val (.int stream), .val (.int mode), .val (.int cx), .val (.int cy), .val (.int cz), .val (.int (1 : Int32)), .val (.ref a356), .val (.ref a357), .val (.ref a358), .val (.ref b359), .val (.ref b361), .val (.ref x391), .unset] [(.ref x391)])) rfl (by rw [hml]; rfl) (rest := []) rfl (W := 0) (by show 2 * 0 + _ ≤ _; exact Nat.le_of_eq rfl) (hb hby at_1180) (by decide) (by decide) (by decide) (by decide)
    refine OGo.step st392 ?_
    show OGo p e below _ T392 (mkF m 1183 #[.val (.int app), .val (.int lease), .val (.int stream), .val (.int mode), .val (.int cx), .val (.int cy), .val (.int cz), .val (.int (1 : Int32)), .val (.ref a356), .val (.ref a357), .val (.ref a358), .val (.ref b359), .val (.ref b361), .val (.ref x391), .unset] [.null])
    refine OGo.step (fun _ k => XS.ifnullYes X392.here hx rfl (pc0 := 1183) (pc' := 1188) rfl (hb hby at_1183) rfl (by decide) (by decide) k) ?_
    show OGo p e below _ T392 (mkF m 1188 #[.val (.int app), .val (.int lease), .val (.int stream), .val (.int mode), .val (.int cx), .val (.int cy), .val (.int cz), .val (.int (1 : Int32)), .val (.ref a356), .val (.ref a357), .val (.ref a358), .val (.ref b359), .val (.ref b361), .val (.ref x391), .unset] [])
    refine OGo.step (fun _ k => XS.aload X392.here hx rfl (hb hby at_1188) rfl rfl k) ?_
    show OGo p e below _ T392 (mkF m 1190 #[.val (.int app), .val (.int lease), .val (.int stream), .val (.int mode), .val (.int cx), .val (.int cy), .val (.int cz), .val (.int (1 : Int32)), .val (.ref a356), .val (.ref a357), .val (.ref a358), .val (.ref b359), .val (.ref b361), .val (.ref x391), .unset] [(.ref x391)])
    obtain ⟨v393, T393, L393, X393, hQ393, st393⟩ := upcall X392 hx hZ391 hown391 (hw _ (List.mem_of_getElem? (i := 257) rfl)) (hw _ (List.mem_of_getElem? (i := 258) rfl)) (hw _ (List.mem_of_getElem? (i := 259) rfl)) (hw _ (List.mem_of_getElem? (i := 261) rfl)) (hw _ (List.mem_of_getElem? (i := 260) rfl)) (hw _ (List.mem_of_getElem? (i := 212) rfl)) (hw _ (List.mem_of_getElem? (i := 262) rfl)) (by decide) (by decide) (W := 0) (rm_msg l Z a0 hw [] x391 m391 T391.heap XM391) e392 (by decide) (by decide) (by decide) (by decide) (g := (mkF m 1190 #[.val (.int app), .val (.int lease), .val (.int stream), .val (.int mode), .val (.int cx), .val (.int cy), .val (.int cz), .val (.int (1 : Int32)), .val (.ref a356), .val (.ref a357), .val (.ref a358), .val (.ref b359), .val (.ref b361), .val (.ref x391), .unset] [(.ref x391)])) rfl (by rw [hml]; rfl) XE391 (argsL := []) (rest := []) opd_27 rfl rfl rfl (by show 2 * 0 + _ ≤ _; exact Nat.le_of_eq rfl) (hb hby at_1190)
    obtain ⟨rfl, rfl, e393⟩ := hQ393
    rw [List.append_nil] at X393
    refine OGo.step st393 ?_
    show OGo p e below _ T393 (mkF m 1193 #[.val (.int app), .val (.int lease), .val (.int stream), .val (.int mode), .val (.int cx), .val (.int cy), .val (.int cz), .val (.int (1 : Int32)), .val (.ref a356), .val (.ref a357), .val (.ref a358), .val (.ref b359), .val (.ref b361), .val (.ref x391), .unset] [(.ref m391)])
    refine OGo.step (fun _ k => XS.astore X393.here hx rfl (hb hby at_1193) rfl rfl (l' := #[.val (.int app), .val (.int lease), .val (.int stream), .val (.int mode), .val (.int cx), .val (.int cy), .val (.int cz), .val (.int (1 : Int32)), .val (.ref a356), .val (.ref a357), .val (.ref a358), .val (.ref b359), .val (.ref b361), .val (.ref x391), .val (.ref m391)]) rfl k) ?_
    show OGo p e below _ T393 (mkF m 1195 #[.val (.int app), .val (.int lease), .val (.int stream), .val (.int mode), .val (.int cx), .val (.int cy), .val (.int cz), .val (.int (1 : Int32)), .val (.ref a356), .val (.ref a357), .val (.ref a358), .val (.ref b359), .val (.ref b361), .val (.ref x391), .val (.ref m391)] [])
    refine OGo.step (fun _ k => XS.aload X393.here hx rfl (hb hby at_1195) rfl rfl k) ?_
    show OGo p e below _ T393 (mkF m 1197 #[.val (.int app), .val (.int lease), .val (.int stream), .val (.int mode), .val (.int cx), .val (.int cy), .val (.int cz), .val (.int (1 : Int32)), .val (.ref a356), .val (.ref a357), .val (.ref a358), .val (.ref b359), .val (.ref b361), .val (.ref x391), .val (.ref m391)] [(.ref m391)])
    refine OGo.step (fun _ k => XS.ifnonnullYes X393.here hx rfl (pc0 := 1197) (pc' := 1202) rfl (hb hby at_1197) rfl (by decide) (by decide) k) ?_
    show OGo p e below _ T393 (mkF m 1202 #[.val (.int app), .val (.int lease), .val (.int stream), .val (.int mode), .val (.int cx), .val (.int cy), .val (.int cz), .val (.int (1 : Int32)), .val (.ref a356), .val (.ref a357), .val (.ref a358), .val (.ref b359), .val (.ref b361), .val (.ref x391), .val (.ref m391)] [])
    refine OGo.step (fun _ k => XS.aload X393.here hx rfl (hb hby at_1202) rfl rfl k) ?_
    show OGo p e below _ T393 (mkF m 1204 #[.val (.int app), .val (.int lease), .val (.int stream), .val (.int mode), .val (.int cx), .val (.int cy), .val (.int cz), .val (.int (1 : Int32)), .val (.ref a356), .val (.ref a357), .val (.ref a358), .val (.ref b359), .val (.ref b361), .val (.ref x391), .val (.ref m391)] [(.ref m391)])
    refine OGo.step (fun _ k => XS.aload X393.here hx rfl (hb hby at_1204) rfl rfl k) ?_
    show OGo p e below _ T393 (mkF m 1206 #[.val (.int app), .val (.int lease), .val (.int stream), .val (.int mode), .val (.int cx), .val (.int cy), .val (.int cz), .val (.int (1 : Int32)), .val (.ref a356), .val (.ref a357), .val (.ref a358), .val (.ref b359), .val (.ref b361), .val (.ref x391), .val (.ref m391)] [(.ref b361), (.ref m391)])
    have ne394 : m391 ≠ b361 := (Ne.symm (Nat.ne_of_lt (Nat.lt_of_lt_of_le IF365.lt sm391)))
    obtain ⟨v395, T395, L395, X395, hQ395, st395⟩ := vcall X393 hx hZ391 hown391 (hw _ (List.mem_of_getElem? (i := 263) rfl)) (hw _ (List.mem_of_getElem? (i := 264) rfl)) (hw _ (List.mem_of_getElem? (i := 266) rfl)) rfl (hw _ (List.mem_of_getElem? (i := 266) rfl)) (hw _ (List.mem_of_getElem? (i := 265) rfl)) (hw _ (List.mem_of_getElem? (i := 2) rfl)) (hw _ (List.mem_of_getElem? (i := 267) rfl)) (by decide) (W := 0) (rm_eq l Z a0 hw [] m391 b361 r391 r365 kr391 kr365 (own_b8 (own_c1 cx cy cz)) (own_b8 (own_c1 cx cy cz)) zc wf n0 T391.heap SS' (q382.keep K391 all0) ⟨IE391, IC391, IF391, IV391⟩ ⟨(IE365.keep K391), (IC365.keep K391 nin0), (IF365.keep K391 nin0), (IV365.keep K391 nin0)⟩ (show 86 < 2147483648 by decide) (show 86 < 2147483648 by decide) ne394) e393 (by decide) (by decide) (by decide) (by decide) (g := (mkF m 1206 #[.val (.int app), .val (.int lease), .val (.int stream), .val (.int mode), .val (.int cx), .val (.int cy), .val (.int cz), .val (.int (1 : Int32)), .val (.ref a356), .val (.ref a357), .val (.ref a358), .val (.ref b359), .val (.ref b361), .val (.ref x391), .val (.ref m391)] [(.ref b361), (.ref m391)])) rfl (by rw [hml]; rfl) IE391 (argsL := [(.ref b361)]) (rest := []) opd_31 rfl rfl rfl (by show 2 * 0 + _ ≤ _; exact Nat.le_of_eq rfl) (hb hby at_1206)
    obtain ⟨rfl, rfl, e395⟩ := hQ395
    rw [List.append_nil] at X395
    refine OGo.step st395 ?_
    show OGo p e below _ T395 (mkF m 1209 #[.val (.int app), .val (.int lease), .val (.int stream), .val (.int mode), .val (.int cx), .val (.int cy), .val (.int cz), .val (.int (1 : Int32)), .val (.ref a356), .val (.ref a357), .val (.ref a358), .val (.ref b359), .val (.ref b361), .val (.ref x391), .val (.ref m391)] [(.int (if (own_b8 (own_c1 cx cy cz)) = (own_b8 (own_c1 cx cy cz)) then 1 else 0))])
    rw [if_pos rfl]
    show OGo p e below _ T395 (mkF m 1209 #[.val (.int app), .val (.int lease), .val (.int stream), .val (.int mode), .val (.int cx), .val (.int cy), .val (.int cz), .val (.int (1 : Int32)), .val (.ref a356), .val (.ref a357), .val (.ref a358), .val (.ref b359), .val (.ref b361), .val (.ref x391), .val (.ref m391)] [(.int (1 : Int32))])
    exact OGo.retH X395 hx hZ391 (own_hEL hw) hs0 e395 hS391 hk391 H391 R391 (t := .boolean) hret hlk rfl (Or.inl ⟨rfl, by simp, _, rfl⟩) (hb hby at_1209) (by decide) (by decide) ⟨rfl, NN391⟩
set_option maxRecDepth 65536 in
set_option maxHeartbeats 40000000 in
theorem comes_1 {Post : Tables → Env → Array Value → State → Outcome → State → Prop} (hpost : ∀ tb e args s v u, (limb_1_1.after args s (.returned v) u = true ∧ limb_1_2.after args s (.returned v) u = true ∧ True) → ReturnedEndW s (.returned v) u (Jvm.fieldLocs frame_1_writes args s ++ Jvm.arrayLocs frame_1_arrays args s ++ Jvm.staticLocs frame_1_statics s) 72 13888 → Post tb e args s (.returned v) u) :
    ArmFor flags0 classFile x code maxLocals ret World_1 tables_1 room_1 Calls_1 rest_1 Pre_1 Post := by
  intro l hfl _ _ p e ha hc hk s m args below hf hA hF happ hP
  obtain ⟨hcalls, hrest, hpre⟩ := hP
  obtain ⟨-, -, -, hnamed, -, -, -, hat⟩ := (Spec.applies_iff hf).mp happ
  obtain ⟨hg, hn⟩ := and_e (Cond.before_iff.mp (show (Jvm.Cond.and given_1 narrow_1).before args s = true from hpre))
  obtain ⟨g1, g2⟩ := and_e hg
  obtain ⟨g3, g4⟩ := and_e g2
  obtain ⟨g5, g6⟩ := and_e g4
  obtain ⟨g7, g8⟩ := and_e g6
  obtain ⟨w0, w1, w2, w3, rfl⟩ : ∃ w0 w1 w2 w3 : Value, args = #[w0, w1, w2, w3] := by
    have hs : args.size = 4 := by simpa [Cond.value, given_1] using g1
    obtain ⟨L⟩ := args
    match L, hs with
    | [w0, w1, w2, w3], _ => exact ⟨w0, w1, w2, w3, rfl⟩
  have hw := fun d (hd : d ∈ tables_1) => atoms_spec (ws := Jvm.Cond.code x code maxLocals ret :: tables_1) hat d (List.mem_cons_of_mem _ hd)
  obtain ⟨i0, ei0⟩ := is_v g3
  obtain rfl : w0 = (.int i0) := Option.some.inj ei0
  obtain ⟨i1, ei1⟩ := is_v g5
  obtain rfl : w1 = (.int i1) := Option.some.inj ei1
  obtain ⟨i2, ei2⟩ := is_v g7
  obtain rfl : w2 = (.int i2) := Option.some.inj ei2
  obtain ⟨i3, ei3⟩ := is_v g8
  obtain rfl : w3 = (.int i3) := Option.some.inj ei3
  obtain ⟨hsets, hown0⟩ := atoms_of _ (rest_1_c_eq ▸ (show rest_1_c.before _ s = true from hrest))
  have n3 := not_v (Cond.before_iff.mp (hsets _ (List.mem_of_getElem? (i := 2) rfl)))
  obtain ⟨zc, e6⟩ := is_v (Cond.before_iff.mp (hsets _ (List.mem_of_getElem? (i := 1) rfl)))
  have S8 : Sta s s.heap "java/lang/String" "COMPACT_STRINGS" "Z" (.int zc) := Sta.start e6 (Or.inl (hsets _ (List.mem_of_getElem? (i := 0) rfl)))
  obtain ⟨wf, e10, r11⟩ := isR_v (Cond.before_iff.mp (hsets _ (List.mem_of_getElem? (i := 8) rfl)))
  have S12 : Sta s s.heap "jdk/internal/util/Preconditions" "SIOOBE_FORMATTER" "Ljava/util/function/BiFunction;" wf := Sta.start e10 (Or.inl (hsets _ (List.mem_of_getElem? (i := 7) rfl)))
  have c13 : ¬ (zc = (0 : Int32)) := gotF (Cond.eq_ints e6 (Term.int_eval (0))) n3
  have SS : own_SS s zc wf := ⟨c13, S8, r11, S12⟩
  have H0 : CHv s own_EL s.vm s.heap := CHv.start (own_hEL hw) (fun p hp => hcalls.2.2.1 p hp) (hsets _ (List.mem_of_getElem? (i := 2) rfl)) (hw _ (List.mem_of_getElem? (i := 14) rfl)) (hw _ (List.mem_of_getElem? (i := 10) rfl))
  obtain ⟨wu0, eu0, ru0⟩ := isR_v (Cond.before_iff.mp (hsets _ (List.mem_of_getElem? (i := 16) rfl)))
  obtain ⟨u0, hvu0⟩ : ∃ u : RefV, u.v = wu0 := ⟨⟨wu0, ru0⟩, rfl⟩
  have S20 : Sta s s.heap "java/lang/Throwable" "UNASSIGNED_STACK" "[Ljava/lang/StackTraceElement;" u0.v := by rw [hvu0]; exact Sta.start eu0 (Or.inl (hsets _ (List.mem_of_getElem? (i := 15) rfl)))
  obtain ⟨wu1, eu1, ru1⟩ := isR_v (Cond.before_iff.mp (hsets _ (List.mem_of_getElem? (i := 21) rfl)))
  obtain ⟨u1, hvu1⟩ : ∃ u : RefV, u.v = wu1 := ⟨⟨wu1, ru1⟩, rfl⟩
  have S21 : Sta s s.heap "java/lang/Throwable" "SUPPRESSED_SENTINEL" "Ljava/util/List;" u1.v := by rw [hvu1]; exact Sta.start eu1 (Or.inl (hsets _ (List.mem_of_getElem? (i := 20) rfl)))
  have TS : own_TS s u0 u1 := ⟨S20, S21⟩
  have hlt : l.stackTraces = true := by show (!l.flags.contains noTraceFlag) = true; rw [hfl]; decide +kernel
  have hTK := own_mk hcalls.2.1
  have hBl := own_fk hf hcalls.1
  obtain ⟨n, o, h1, h2, h3, _, L, rfl, ⟨rfl, N⟩, hC, hq⟩ := rm_law l s _ hw tables_1 i0 i1 i2 i3 zc wf s.heap.size u0 u1 s.heap SS (Old.start s) TS hlt p e ha hc hk s m _ below hf ((Spec.applies_iff_loose hf).mp happ).1 ⟨rfl, State.Warmed39.refl s, rfl, H0⟩ ⟨hTK, hBl⟩
  refine ⟨n, _, h1, h2, h3, hpost _ _ _ _ _ _ ⟨Cond.after_iff.mpr rfl, Cond.after_iff.mpr (eq_i res_at (Term.int_eval (1)) rfl), trivial⟩ ⟨hq.1, hq.2.1, hq.2.2.1, (hq.2.2.2.sift fun y hy => Or.inr (N y hy)).mono (by decide) (by decide)⟩⟩
theorem main_1_1 : Claimed_1_1 := comes_1 fun _ _ _ _ _ _ h hF => ⟨h.1, hF⟩
theorem main_1_2 : Claimed_1_2 := comes_1 fun _ _ _ _ _ _ h hF => ⟨h.2.1, hF⟩
end Jvm.Pilot.@@N@@
namespace Jvm.Pilot.@@N@@
open Jvm Jvm.ClassFile Sem Op Lib Jvm.Free Jvm.Stand Jvm.Pilot.@@N@@.Jvm.D
/-! MADE BY PROGRAM (witnessworld.py) out of the Statement's table words and the real class files: 42 classes; the members and pool entries that the words name. The judged class is class 1, her method 1. -/
namespace start1
open Jvm.ClassFile
def u (s : String) : CpInfo := .utf8 (stringToUtf16 s)
/-- a pool by its gaps: so many unusable entries, then the entry; so many at the end -/
def gap : Nat → List CpInfo → List CpInfo
  | 0, r => r
  | n + 1, r => .unusable :: gap n r
def poolList (es : List (Nat × CpInfo)) (last : Nat) : List CpInfo := es.foldr (fun e r => gap e.1 (e.2 :: r)) (gap last [])
def pool (es : List (Nat × CpInfo)) (last : Nat) : Array CpInfo := ⟨poolList es last⟩
def fileOf (pool : Array CpInfo) (this : Nat) (attrs : Array Attribute := #[]) (ms : Array MethodInfo := #[]) (fl : Nat := 33) (sup : Nat := 0) (ifs : Array Nat := #[]) (fds : Array FieldInfo := #[]) : ClassFile where
  minorVersion := 0
  majorVersion := 65
  constantPool := pool
  accessFlags := fl
  thisClass := this
  superClass := sup
  interfaces := ifs
  fields := fds
  methods := ms
  attributes := attrs
def plain (name : String) (sup : Option ClassId) : Class where
  name := name
  kind := .ordinary
  loader := none
  accessFlags := 33
  super := sup
  interfaces := #[]
  cf := none
  fields := #[]
  methods := #[]
  instanceTypes := #[]
  staticTypes := #[]
  resolved := #[]
  callSites := []
  init := .initialized
  statics := none
  mirror := none

def pool0 : Array CpInfo := pool [(5, u "<init>"), (0, u "()V"), (1, .class_ 10), (1, u "java/lang/Object"), (85, u "clone"), (0, u "()Ljava/lang/Object;")] 26

def k0c0 : Code := { maxStack := 0, maxLocals := 1, code := object_method_1_code, exceptionTable := #[], attributes := #[] }
def k0m0 : Method := { name := "<init>", desc := "()V", sig := { parameters := [], returnType := none }, accessFlags := 1, code := some k0c0 }
def k0m1 : Method := { name := "clone", desc := "()Ljava/lang/Object;", sig := { parameters := [], returnType := some (.object "java/lang/Object") }, accessFlags := 260, code := none }
/-- java/lang/Object -/
def k0 : Class := { plain "java/lang/Object" none with
  accessFlags := 33
  interfaces := #[]
  cf := some (fileOf pool0 8 #[] #[{ accessFlags := 1, nameIndex := 5, descriptorIndex := 6, attributes := #[] }, { accessFlags := 260, nameIndex := 96, descriptorIndex := 97, attributes := #[] }] 33 0 #[] #[])
  fields := #[]
  methods := #[k0m0, k0m1]
  instanceTypes := #[]
  staticTypes := #[]
  resolved := Array.replicate 124 none
  statics := none }

def pool1 : Array CpInfo := pool [(2, .class_ 4), (1, u "java/lang/Object"), (0, u "<init>"), (0, u "()V"), (0, .methodref 8 9), (0, .class_ 10), (0, .nameAndType 11 12), (0, u "java/lang/String"), (0, u "valueOf"), (0, u "(C)Ljava/lang/String;"), (0, .methodref 8 14), (0, .nameAndType 5 15), (0, u "([C)V"), (0, .methodref 17 18), (0, .class_ 19), (0, .nameAndType 20 21), (0, u "com/example/drain_shards/drainshards/DrainShardsException"), (0, u "ofOtherStream"), (0, u "(Ljava/lang/String;Ljava/lang/String;Ljava/lang/String;)Lcom/example/drain_shards/drainshards/DrainShardsException;"), (0, .methodref 17 23), (0, .nameAndType 24 25), (0, u "getCause"), (0, u "()Ljava/lang/Throwable;"), (0, .methodref 17 27), (0, .nameAndType 28 29), (0, u "getMessage"), (0, u "()Ljava/lang/String;"), (0, .methodref 8 31), (0, .nameAndType 32 33), (0, u "equals"), (0, u "(Ljava/lang/Object;)Z"), (0, .class_ 35), (0, u "com/example/drain_shards/drainshards/DrainShardsExceptionOfOtherStreamPinLaw"), (2, u "law"), (0, u "(IIII)Z")] 5

def k1m0 : Method := { name := "<init>", desc := "()V", sig := { parameters := [], returnType := none }, accessFlags := 1, code := none }
def k1c1 : Code := { maxStack := 4, maxLocals := 15, code := code, exceptionTable := #[], attributes := #[] }
def k1m1 : Method := { name := "law", desc := "(IIII)Z", sig := { parameters := [.int, .int, .int, .int], returnType := some .boolean }, accessFlags := 9, code := some k1c1 }
/-- com/example/drain_shards/drainshards/DrainShardsExceptionOfOtherStreamPinLaw -/
def k1 : Class := { plain "com/example/drain_shards/drainshards/DrainShardsExceptionOfOtherStreamPinLaw" (some 0) with
  accessFlags := 49
  interfaces := #[]
  cf := some (fileOf pool1 34 #[] #[{ accessFlags := 1, nameIndex := 5, descriptorIndex := 6, attributes := #[] }, { accessFlags := 9, nameIndex := 38, descriptorIndex := 39, attributes := #[] }] 49 2 #[] #[])
  fields := #[]
  methods := #[k1m0, k1m1]
  instanceTypes := #[]
  staticTypes := #[]
  resolved := Array.replicate 45 none
  statics := none }

def pool2 : Array CpInfo := pool [(1, .class_ 2), (0, u "java/io/Serializable"), (0, .class_ 4), (0, u "java/lang/Object")] 2

/-- java/io/Serializable -/
def k2 : Class := { plain "java/io/Serializable" (some 0) with
  accessFlags := 1537
  interfaces := #[]
  cf := some (fileOf pool2 1 #[] #[] 1537 3 #[] #[])
  fields := #[]
  methods := #[]
  instanceTypes := #[]
  staticTypes := #[]
  resolved := Array.replicate 7 none
  statics := none }

def pool3 : Array CpInfo := pool [(1, .class_ 2), (0, u "java/lang/Comparable"), (0, .class_ 4), (0, u "java/lang/Object")] 7

/-- java/lang/Comparable -/
def k3 : Class := { plain "java/lang/Comparable" (some 0) with
  accessFlags := 1537
  interfaces := #[]
  cf := some (fileOf pool3 1 #[] #[] 1537 3 #[] #[])
  fields := #[]
  methods := #[]
  instanceTypes := #[]
  staticTypes := #[]
  resolved := Array.replicate 12 none
  statics := none }

def pool4 : Array CpInfo := pool [(2, .class_ 4), (1, u "java/lang/CharSequence"), (42, .class_ 48), (0, u "java/lang/CharSequence$1CodePointIterator"), (10, .class_ 60), (0, u "java/lang/CharSequence$1CharIterator"), (5, .class_ 67), (0, u "java/lang/Object")] 63

/-- java/lang/CharSequence -/
def k4 : Class := { plain "java/lang/CharSequence" (some 0) with
  accessFlags := 1537
  interfaces := #[]
  cf := some (fileOf pool4 2 #[.nestMembers #[47, 59]] #[] 1537 66 #[] #[])
  fields := #[]
  methods := #[]
  instanceTypes := #[]
  staticTypes := #[]
  resolved := Array.replicate 131 none
  statics := none }

def pool5 : Array CpInfo := pool [(1, .class_ 2), (0, u "java/lang/constant/Constable"), (0, .class_ 4), (0, u "java/lang/Object")] 6

/-- java/lang/constant/Constable -/
def k5 : Class := { plain "java/lang/constant/Constable" (some 0) with
  accessFlags := 1537
  interfaces := #[]
  cf := some (fileOf pool5 1 #[] #[] 1537 3 #[] #[])
  fields := #[]
  methods := #[]
  instanceTypes := #[]
  staticTypes := #[]
  resolved := Array.replicate 11 none
  statics := none }

def pool6 : Array CpInfo := pool [(1, .class_ 2), (0, u "java/lang/constant/ConstantDesc"), (0, .class_ 4), (0, u "java/lang/Object")] 32

/-- java/lang/constant/ConstantDesc -/
def k6 : Class := { plain "java/lang/constant/ConstantDesc" (some 0) with
  accessFlags := 1537
  interfaces := #[]
  cf := some (fileOf pool6 1 #[] #[] 1537 3 #[] #[])
  fields := #[]
  methods := #[]
  instanceTypes := #[]
  staticTypes := #[]
  resolved := Array.replicate 37 none
  statics := none }

def pool7 : Array CpInfo := pool [(1, .methodref 2 3), (0, .class_ 4), (0, .nameAndType 5 6), (0, u "java/lang/Object"), (0, u "<init>"), (0, u "()V"), (2, .fieldref 10 11), (0, .class_ 12), (0, .nameAndType 13 14), (0, u "java/lang/String"), (0, u "value"), (0, u "[B"), (0, .fieldref 10 16), (0, .nameAndType 17 18), (0, u "coder"), (0, u "B"), (2, u "hash"), (0, u "I"), (2, u "hashIsZero"), (0, u "Z"), (0, .methodref 10 28), (0, .nameAndType 5 29), (0, u "([CIILjava/lang/Void;)V"), (8, .fieldref 10 39), (0, .nameAndType 40 26), (0, u "COMPACT_STRINGS"), (1, .class_ 44), (1, u "java/lang/StringUTF16"), (0, u "compress"), (1, .methodref 42 48), (0, .nameAndType 49 50), (0, u "coderFromArrayLen"), (0, u "([BI)B"), (2, u "toBytes"), (0, .methodref 55 56), (0, .class_ 57), (0, .nameAndType 58 59), (0, u "java/util/Arrays"), (0, u "copyOfRange"), (0, u "([BII)[B"), (47, .class_ 109), (1, u "java/lang/StringLatin1"), (32, u "()Z"), (34, .methodref 42 178), (0, .nameAndType 45 179), (0, u "([CII)[B"), (13, .class_ 195), (1, u "java/lang/System"), (13, .methodref 10 210), (0, .nameAndType 5 211), (0, u "([BB)V"), (0, .methodref 193 213), (0, .nameAndType 214 215), (0, u "arraycopy"), (0, u "(Ljava/lang/Object;ILjava/lang/Object;II)V"), (118, u "()I"), (0, .methodref 10 336), (0, .nameAndType 17 337), (0, u "()B"), (2, u "()[B"), (28, u "(C)Z"), (119, .methodref 10 490), (0, .nameAndType 5 491), (0, u "(Ljava/lang/AbstractStringBuilder;Ljava/lang/Void;)V"), (1, .nameAndType 494 142), (0, u "isLatin1"), (11, .nameAndType 507 334), (0, u "length"), (24, u "getBytes"), (8, .methodref 107 542), (0, .nameAndType 543 544), (0, u "equals"), (0, u "([B[B)Z"), (4, .methodref 550 506), (0, .class_ 551), (0, u "java/lang/AbstractStringBuilder"), (0, .methodref 550 553), (0, .nameAndType 554 340), (0, u "getValue"), (18, u "(Ljava/lang/Object;)Z"), (1, .class_ 576), (0, u "java/lang/CharSequence"), (22, u "CASE_INSENSITIVE_ORDER"), (0, u "Ljava/util/Comparator;"), (181, u "valueOf"), (0, u "(C)Ljava/lang/String;"), (37, u "([BIB)V"), (188, u "([C)V"), (4, .methodref 107 1016), (0, .nameAndType 1017 369), (0, u "canEncode"), (0, .methodref 107 1019), (0, .nameAndType 53 1020), (0, u "(C)[B"), (26, .methodref 550 493), (53, u "serialPersistentFields"), (0, u "[Ljava/io/ObjectStreamField;"), (0, .class_ 1104), (0, u "java/lang/String$CaseInsensitiveComparator"), (1, .class_ 1107), (0, u "java/io/Serializable"), (0, .class_ 1109), (0, u "java/lang/Comparable"), (0, .class_ 1111), (0, u "java/lang/constant/Constable"), (0, .class_ 1113), (0, u "java/lang/constant/ConstantDesc"), (2, u "serialVersionUID"), (0, u "J"), (3, u "REPL"), (0, u "C"), (2, u "LATIN1"), (1, u "UTF16"), (105, u "(Ljava/lang/StringBuilder;)V")] 217

def k7m0 : Method := { name := "<init>", desc := "()V", sig := { parameters := [], returnType := none }, accessFlags := 1, code := none }
def k7c1 : Code := { maxStack := 5, maxLocals := 2, code := jdk_42_method_3_code, exceptionTable := #[], attributes := #[] }
def k7m1 : Method := { name := "<init>", desc := "([C)V", sig := { parameters := [(.array .char)], returnType := none }, accessFlags := 1, code := some k7c1 }
def k7c2 : Code := { maxStack := 3, maxLocals := 2, code := jdk_42_method_53_code, exceptionTable := #[], attributes := #[] }
def k7m2 : Method := { name := "<init>", desc := "(Ljava/lang/StringBuilder;)V", sig := { parameters := [(.object "java/lang/StringBuilder")], returnType := none }, accessFlags := 1, code := some k7c2 }
def k7c3 : Code := { maxStack := 2, maxLocals := 1, code := jdk_42_method_54_code, exceptionTable := #[], attributes := #[] }
def k7m3 : Method := { name := "length", desc := "()I", sig := { parameters := [], returnType := some .int }, accessFlags := 1, code := some k7c3 }
def k7c4 : Code := { maxStack := 2, maxLocals := 3, code := jdk_42_method_66_code, exceptionTable := #[], attributes := #[] }
def k7m4 : Method := { name := "equals", desc := "(Ljava/lang/Object;)Z", sig := { parameters := [(.object "java/lang/Object")], returnType := some .boolean }, accessFlags := 1, code := some k7c4 }
def k7c5 : Code := { maxStack := 4, maxLocals := 1, code := jdk_42_method_139_code, exceptionTable := #[], attributes := #[] }
def k7m5 : Method := { name := "valueOf", desc := "(C)Ljava/lang/String;", sig := { parameters := [.char], returnType := some (.object "java/lang/String") }, accessFlags := 9, code := some k7c5 }
def k7c6 : Code := { maxStack := 5, maxLocals := 4, code := jdk_42_method_147_code, exceptionTable := #[], attributes := #[] }
def k7m6 : Method := { name := "getBytes", desc := "([BIB)V", sig := { parameters := [(.array .byte), .int, .byte], returnType := none }, accessFlags := 0, code := some k7c6 }
def k7c7 : Code := { maxStack := 4, maxLocals := 6, code := jdk_42_method_149_code, exceptionTable := #[], attributes := #[] }
def k7m7 : Method := { name := "<init>", desc := "([CIILjava/lang/Void;)V", sig := { parameters := [(.array .char), .int, .int, (.object "java/lang/Void")], returnType := none }, accessFlags := 2, code := some k7c7 }
def k7c8 : Code := { maxStack := 5, maxLocals := 5, code := jdk_42_method_150_code, exceptionTable := #[], attributes := #[] }
def k7m8 : Method := { name := "<init>", desc := "(Ljava/lang/AbstractStringBuilder;Ljava/lang/Void;)V", sig := { parameters := [(.object "java/lang/AbstractStringBuilder"), (.object "java/lang/Void")], returnType := none }, accessFlags := 0, code := some k7c8 }
def k7c9 : Code := { maxStack := 2, maxLocals := 3, code := jdk_42_method_151_code, exceptionTable := #[], attributes := #[] }
def k7m9 : Method := { name := "<init>", desc := "([BB)V", sig := { parameters := [(.array .byte), .byte], returnType := none }, accessFlags := 0, code := some k7c9 }
def k7c10 : Code := { maxStack := 1, maxLocals := 1, code := jdk_42_method_152_code, exceptionTable := #[], attributes := #[] }
def k7m10 : Method := { name := "coder", desc := "()B", sig := { parameters := [], returnType := some .byte }, accessFlags := 0, code := some k7c10 }
/-- java/lang/String -/
def k7 : Class := { plain "java/lang/String" (some 0) with
  accessFlags := 49
  interfaces := #[2, 3, 4, 5, 6]
  cf := some (fileOf pool7 10 #[.nestMembers #[1103]] #[{ accessFlags := 1, nameIndex := 5, descriptorIndex := 6, attributes := #[] }, { accessFlags := 1, nameIndex := 5, descriptorIndex := 1010, attributes := #[] }, { accessFlags := 1, nameIndex := 5, descriptorIndex := 1233, attributes := #[] }, { accessFlags := 1, nameIndex := 507, descriptorIndex := 334, attributes := #[] }, { accessFlags := 1, nameIndex := 543, descriptorIndex := 573, attributes := #[] }, { accessFlags := 9, nameIndex := 782, descriptorIndex := 783, attributes := #[] }, { accessFlags := 0, nameIndex := 532, descriptorIndex := 821, attributes := #[] }, { accessFlags := 2, nameIndex := 5, descriptorIndex := 29, attributes := #[] }, { accessFlags := 0, nameIndex := 5, descriptorIndex := 491, attributes := #[] }, { accessFlags := 0, nameIndex := 5, descriptorIndex := 211, attributes := #[] }, { accessFlags := 0, nameIndex := 17, descriptorIndex := 337, attributes := #[] }] 49 2 #[1106, 1108, 575, 1110, 1112] #[{ accessFlags := 18, nameIndex := 13, descriptorIndex := 14, attributes := #[] }, { accessFlags := 18, nameIndex := 17, descriptorIndex := 18, attributes := #[] }, { accessFlags := 2, nameIndex := 21, descriptorIndex := 22, attributes := #[] }, { accessFlags := 2, nameIndex := 25, descriptorIndex := 26, attributes := #[] }, { accessFlags := 26, nameIndex := 1116, descriptorIndex := 1117, attributes := #[] }, { accessFlags := 24, nameIndex := 40, descriptorIndex := 26, attributes := #[] }, { accessFlags := 26, nameIndex := 1101, descriptorIndex := 1102, attributes := #[] }, { accessFlags := 26, nameIndex := 1121, descriptorIndex := 1122, attributes := #[] }, { accessFlags := 25, nameIndex := 599, descriptorIndex := 600, attributes := #[] }, { accessFlags := 24, nameIndex := 1125, descriptorIndex := 18, attributes := #[] }, { accessFlags := 24, nameIndex := 1127, descriptorIndex := 18, attributes := #[] }])
  fields := #[{ name := "value", type := (.array .byte), accessFlags := 18, slot := 0, constantValue := 0 }, { name := "coder", type := .byte, accessFlags := 18, slot := 1, constantValue := 0 }, { name := "hash", type := .int, accessFlags := 2, slot := 2, constantValue := 0 }, { name := "hashIsZero", type := .boolean, accessFlags := 2, slot := 3, constantValue := 0 }, { name := "serialVersionUID", type := .long, accessFlags := 26, slot := 0, constantValue := 0 }, { name := "COMPACT_STRINGS", type := .boolean, accessFlags := 24, slot := 1, constantValue := 0 }, { name := "serialPersistentFields", type := (.array (.object "java/io/ObjectStreamField")), accessFlags := 26, slot := 2, constantValue := 0 }, { name := "REPL", type := .char, accessFlags := 26, slot := 3, constantValue := 0 }, { name := "CASE_INSENSITIVE_ORDER", type := (.object "java/util/Comparator"), accessFlags := 25, slot := 4, constantValue := 0 }, { name := "LATIN1", type := .byte, accessFlags := 24, slot := 5, constantValue := 0 }, { name := "UTF16", type := .byte, accessFlags := 24, slot := 6, constantValue := 0 }]
  methods := #[k7m0, k7m1, k7m2, k7m3, k7m4, k7m5, k7m6, k7m7, k7m8, k7m9, k7m10]
  instanceTypes := #[(.array .byte), .byte, .int, .boolean]
  staticTypes := #[.long, .boolean, (.array (.object "java/io/ObjectStreamField")), .char, (.object "java/util/Comparator"), .byte, .byte]
  resolved := Array.replicate 1451 none
  statics := some 0 }

def pool8 : Array CpInfo := pool [(4, .class_ 6), (1, u "java/lang/Object"), (0, u "<init>"), (0, u "()V"), (5, .class_ 16), (1, u "java/lang/StringLatin1"), (73, u "canEncode"), (14, u "(C)Z"), (15, u "$assertionsDisabled"), (0, u "Z"), (98, .class_ 223), (1, u "java/lang/StringLatin1$LinesSpliterator"), (57, u "equals"), (0, u "([B[B)Z"), (97, u "toBytes"), (1, u "(C)[B"), (7, .class_ 391), (0, u "java/lang/StringLatin1$CharsSpliterator")] 3

def k8m0 : Method := { name := "<init>", desc := "()V", sig := { parameters := [], returnType := none }, accessFlags := 0, code := none }
def k8c1 : Code := { maxStack := 2, maxLocals := 1, code := jdk_43_method_3_code, exceptionTable := #[], attributes := #[] }
def k8m1 : Method := { name := "canEncode", desc := "(C)Z", sig := { parameters := [.char], returnType := some .boolean }, accessFlags := 9, code := some k8c1 }
def k8c2 : Code := { maxStack := 3, maxLocals := 3, code := jdk_43_method_13_code, exceptionTable := #[], attributes := #[] }
def k8m2 : Method := { name := "equals", desc := "([B[B)Z", sig := { parameters := [(.array .byte), (.array .byte)], returnType := some .boolean }, accessFlags := 9, code := some k8c2 }
def k8c3 : Code := { maxStack := 4, maxLocals := 1, code := jdk_43_method_46_code, exceptionTable := #[], attributes := #[] }
def k8m3 : Method := { name := "toBytes", desc := "(C)[B", sig := { parameters := [.char], returnType := some (.array .byte) }, accessFlags := 9, code := some k8c3 }
/-- java/lang/StringLatin1 -/
def k8 : Class := { plain "java/lang/StringLatin1" (some 0) with
  accessFlags := 48
  interfaces := #[]
  cf := some (fileOf pool8 14 #[.nestMembers #[390, 221]] #[{ accessFlags := 0, nameIndex := 7, descriptorIndex := 8, attributes := #[] }, { accessFlags := 9, nameIndex := 90, descriptorIndex := 105, attributes := #[] }, { accessFlags := 9, nameIndex := 281, descriptorIndex := 282, attributes := #[] }, { accessFlags := 9, nameIndex := 380, descriptorIndex := 382, attributes := #[] }] 48 4 #[] #[{ accessFlags := 4120, nameIndex := 121, descriptorIndex := 122, attributes := #[] }])
  fields := #[{ name := "$assertionsDisabled", type := .boolean, accessFlags := 4120, slot := 0, constantValue := 0 }]
  methods := #[k8m0, k8m1, k8m2, k8m3]
  instanceTypes := #[]
  staticTypes := #[.boolean]
  resolved := Array.replicate 395 none
  statics := none }

def pool9 : Array CpInfo := pool [(6, .class_ 8), (1, u "java/lang/Object"), (0, u "<init>"), (0, u "()V"), (1, .class_ 14), (1, u "java/lang/StringUTF16"), (31, u "$assertionsDisabled"), (0, u "Z"), (13, u "HI_BYTE_SHIFT"), (0, u "I"), (2, u "LO_BYTE_SHIFT"), (49, .methodref 12 116), (0, .nameAndType 117 118), (0, u "compress"), (0, u "([CI[BII)I"), (3, u "([CII)[B"), (138, u "coderFromArrayLen"), (0, u "([BI)B"), (106, .class_ 371), (1, u "java/lang/StringUTF16$LinesSpliterator"), (58, u "MAX_LENGTH"), (196, .class_ 628), (0, u "java/lang/StringUTF16$CodePointsSpliterator"), (0, .class_ 630), (0, u "java/lang/StringUTF16$CharsSpliterator")] 4

def k9m0 : Method := { name := "<init>", desc := "()V", sig := { parameters := [], returnType := none }, accessFlags := 0, code := none }
def k9c1 : Code := { maxStack := 2, maxLocals := 2, code := jdk_52_method_15_code, exceptionTable := #[], attributes := #[] }
def k9m1 : Method := { name := "coderFromArrayLen", desc := "([BI)B", sig := { parameters := [(.array .byte), .int], returnType := some .byte }, accessFlags := 8, code := some k9c1 }
def k9c2 : Code := { maxStack := 5, maxLocals := 6, code := jdk_52_method_16_code, exceptionTable := #[], attributes := #[] }
def k9m2 : Method := { name := "compress", desc := "([CII)[B", sig := { parameters := [(.array .char), .int, .int], returnType := some (.array .byte) }, accessFlags := 9, code := some k9c2 }
def k9c3 : Code := { maxStack := 3, maxLocals := 7, code := jdk_52_method_21_code, exceptionTable := #[], attributes := #[] }
def k9m3 : Method := { name := "compress", desc := "([CI[BII)I", sig := { parameters := [(.array .char), .int, (.array .byte), .int, .int], returnType := some .int }, accessFlags := 9, code := some k9c3 }
/-- java/lang/StringUTF16 -/
def k9 : Class := { plain "java/lang/StringUTF16" (some 0) with
  accessFlags := 48
  interfaces := #[]
  cf := some (fileOf pool9 12 #[.nestMembers #[627, 629, 369]] #[{ accessFlags := 0, nameIndex := 9, descriptorIndex := 10, attributes := #[] }, { accessFlags := 8, nameIndex := 261, descriptorIndex := 262, attributes := #[] }, { accessFlags := 9, nameIndex := 117, descriptorIndex := 122, attributes := #[] }, { accessFlags := 9, nameIndex := 117, descriptorIndex := 118, attributes := #[] }] 48 6 #[] #[{ accessFlags := 26, nameIndex := 61, descriptorIndex := 62, attributes := #[] }, { accessFlags := 26, nameIndex := 65, descriptorIndex := 62, attributes := #[] }, { accessFlags := 24, nameIndex := 430, descriptorIndex := 62, attributes := #[] }, { accessFlags := 4120, nameIndex := 46, descriptorIndex := 47, attributes := #[] }])
  fields := #[{ name := "HI_BYTE_SHIFT", type := .int, accessFlags := 26, slot := 0, constantValue := 0 }, { name := "LO_BYTE_SHIFT", type := .int, accessFlags := 26, slot := 1, constantValue := 0 }, { name := "MAX_LENGTH", type := .int, accessFlags := 24, slot := 2, constantValue := 0 }, { name := "$assertionsDisabled", type := .boolean, accessFlags := 4120, slot := 3, constantValue := 0 }]
  methods := #[k9m0, k9m1, k9m2, k9m3]
  instanceTypes := #[]
  staticTypes := #[.int, .int, .int, .boolean]
  resolved := Array.replicate 635 none
  statics := none }

def pool10 : Array CpInfo := pool [(1, .methodref 2 3), (0, .class_ 4), (0, .nameAndType 5 6), (0, u "java/lang/Object"), (0, u "<init>"), (0, u "()V"), (0, .fieldref 8 9), (0, .class_ 10), (0, .nameAndType 11 12), (0, u "java/lang/Throwable"), (0, u "cause"), (0, u "Ljava/lang/Throwable;"), (0, .fieldref 8 14), (0, .nameAndType 15 16), (0, u "UNASSIGNED_STACK"), (0, u "[Ljava/lang/StackTraceElement;"), (0, .fieldref 8 18), (0, .nameAndType 19 16), (0, u "stackTrace"), (0, .fieldref 8 21), (0, .nameAndType 22 23), (0, u "SUPPRESSED_SENTINEL"), (0, u "Ljava/util/List;"), (0, .fieldref 8 25), (0, .nameAndType 26 23), (0, u "suppressedExceptions"), (0, .methodref 8 28), (0, .nameAndType 29 30), (0, u "fillInStackTrace"), (0, u "()Ljava/lang/Throwable;"), (0, .fieldref 8 32), (0, .nameAndType 33 34), (0, u "detailMessage"), (0, u "Ljava/lang/String;"), (3, u "()Ljava/lang/String;"), (2, u "getMessage"), (51, .class_ 94), (0, u "java/lang/Throwable$WrappedPrintStream"), (6, .class_ 103), (1, u "java/lang/Throwable$PrintStreamOrWriter"), (54, u "getCause"), (6, u "$assertionsDisabled"), (0, u "Z"), (26, .class_ 194), (0, u "java/lang/Throwable$WrappedPrintWriter"), (3, .fieldref 8 199), (0, .nameAndType 200 201), (0, u "backtrace"), (0, u "Ljava/lang/Object;"), (0, .methodref 8 203), (0, .nameAndType 29 204), (0, u "(I)Ljava/lang/Throwable;"), (6, u "depth"), (0, u "I"), (10, u "(Ljava/lang/String;)V"), (45, .class_ 271), (1, u "java/lang/Throwable$SentinelHolder"), (32, u "EMPTY_THROWABLE_ARRAY"), (0, u "[Ljava/lang/Throwable;"), (12, .class_ 319), (0, u "java/io/Serializable"), (0, u "serialVersionUID"), (0, u "J"), (5, u "NULL_CAUSE_MESSAGE"), (0, u "SELF_SUPPRESSION_MESSAGE"), (0, u "CAUSE_CAPTION"), (0, u "SUPPRESSED_CAPTION")] 73

def k10c0 : Code := { maxStack := 2, maxLocals := 1, code := jdk_78_method_1_code, exceptionTable := #[], attributes := #[] }
def k10m0 : Method := { name := "<init>", desc := "()V", sig := { parameters := [], returnType := none }, accessFlags := 1, code := some k10c0 }
def k10c1 : Code := { maxStack := 2, maxLocals := 2, code := jdk_78_method_2_code, exceptionTable := #[], attributes := #[] }
def k10m1 : Method := { name := "<init>", desc := "(Ljava/lang/String;)V", sig := { parameters := [(.object "java/lang/String")], returnType := none }, accessFlags := 1, code := some k10c1 }
def k10c2 : Code := { maxStack := 1, maxLocals := 1, code := jdk_78_method_6_code, exceptionTable := #[], attributes := #[] }
def k10m2 : Method := { name := "getMessage", desc := "()Ljava/lang/String;", sig := { parameters := [], returnType := some (.object "java/lang/String") }, accessFlags := 1, code := some k10c2 }
def k10c3 : Code := { maxStack := 2, maxLocals := 1, code := ⟨#[0x2a, 0xb4, 0x00, 0x07, 0x2a, 0xa6, 0x00, 0x07, 0x01, 0xa7, 0x00, 0x07, 0x2a, 0xb4, 0x00, 0x07, 0xb0]⟩, exceptionTable := #[], attributes := #[] }
def k10m3 : Method := { name := "getCause", desc := "()Ljava/lang/Throwable;", sig := { parameters := [], returnType := some (.object "java/lang/Throwable") }, accessFlags := 33, code := some k10c3 }
def k10c4 : Code := { maxStack := 2, maxLocals := 1, code := ⟨#[0x2a, 0xb4, 0x00, 0x11, 0xc7, 0x00, 0x0a, 0x2a, 0xb4, 0x00, 0xc6, 0xc6, 0x00, 0x10, 0x2a, 0x03, 0xb6, 0x00, 0xca, 0x57, 0x2a, 0xb2, 0x00, 0x0d, 0xb5, 0x00, 0x11, 0x2a, 0xb0]⟩, exceptionTable := #[], attributes := #[] }
def k10m4 : Method := { name := "fillInStackTrace", desc := "()Ljava/lang/Throwable;", sig := { parameters := [], returnType := some (.object "java/lang/Throwable") }, accessFlags := 33, code := some k10c4 }
def k10m5 : Method := { name := "fillInStackTrace", desc := "(I)Ljava/lang/Throwable;", sig := { parameters := [.int], returnType := some (.object "java/lang/Throwable") }, accessFlags := 258, code := none }
/-- java/lang/Throwable -/
def k10 : Class := { plain "java/lang/Throwable" (some 0) with
  accessFlags := 33
  interfaces := #[2]
  cf := some (fileOf pool10 8 #[.nestMembers #[193, 93, 101, 269]] #[{ accessFlags := 1, nameIndex := 5, descriptorIndex := 6, attributes := #[] }, { accessFlags := 1, nameIndex := 5, descriptorIndex := 223, attributes := #[] }, { accessFlags := 1, nameIndex := 41, descriptorIndex := 38, attributes := #[] }, { accessFlags := 33, nameIndex := 158, descriptorIndex := 30, attributes := #[] }, { accessFlags := 33, nameIndex := 29, descriptorIndex := 30, attributes := #[] }, { accessFlags := 258, nameIndex := 29, descriptorIndex := 204, attributes := #[] }] 33 2 #[318] #[{ accessFlags := 26, nameIndex := 320, descriptorIndex := 321, attributes := #[] }, { accessFlags := 130, nameIndex := 200, descriptorIndex := 201, attributes := #[] }, { accessFlags := 2, nameIndex := 33, descriptorIndex := 34, attributes := #[] }, { accessFlags := 26, nameIndex := 15, descriptorIndex := 16, attributes := #[] }, { accessFlags := 2, nameIndex := 11, descriptorIndex := 12, attributes := #[] }, { accessFlags := 2, nameIndex := 19, descriptorIndex := 16, attributes := #[] }, { accessFlags := 130, nameIndex := 211, descriptorIndex := 212, attributes := #[] }, { accessFlags := 26, nameIndex := 22, descriptorIndex := 23, attributes := #[] }, { accessFlags := 2, nameIndex := 26, descriptorIndex := 23, attributes := #[] }, { accessFlags := 26, nameIndex := 327, descriptorIndex := 34, attributes := #[] }, { accessFlags := 26, nameIndex := 328, descriptorIndex := 34, attributes := #[] }, { accessFlags := 26, nameIndex := 329, descriptorIndex := 34, attributes := #[] }, { accessFlags := 26, nameIndex := 330, descriptorIndex := 34, attributes := #[] }, { accessFlags := 26, nameIndex := 304, descriptorIndex := 305, attributes := #[] }, { accessFlags := 4120, nameIndex := 165, descriptorIndex := 166, attributes := #[] }])
  fields := #[{ name := "serialVersionUID", type := .long, accessFlags := 26, slot := 0, constantValue := 0 }, { name := "backtrace", type := (.object "java/lang/Object"), accessFlags := 130, slot := 0, constantValue := 0 }, { name := "detailMessage", type := (.object "java/lang/String"), accessFlags := 2, slot := 1, constantValue := 0 }, { name := "UNASSIGNED_STACK", type := (.array (.object "java/lang/StackTraceElement")), accessFlags := 26, slot := 1, constantValue := 0 }, { name := "cause", type := (.object "java/lang/Throwable"), accessFlags := 2, slot := 2, constantValue := 0 }, { name := "stackTrace", type := (.array (.object "java/lang/StackTraceElement")), accessFlags := 2, slot := 3, constantValue := 0 }, { name := "depth", type := .int, accessFlags := 130, slot := 4, constantValue := 0 }, { name := "SUPPRESSED_SENTINEL", type := (.object "java/util/List"), accessFlags := 26, slot := 2, constantValue := 0 }, { name := "suppressedExceptions", type := (.object "java/util/List"), accessFlags := 2, slot := 5, constantValue := 0 }, { name := "NULL_CAUSE_MESSAGE", type := (.object "java/lang/String"), accessFlags := 26, slot := 3, constantValue := 0 }, { name := "SELF_SUPPRESSION_MESSAGE", type := (.object "java/lang/String"), accessFlags := 26, slot := 4, constantValue := 0 }, { name := "CAUSE_CAPTION", type := (.object "java/lang/String"), accessFlags := 26, slot := 5, constantValue := 0 }, { name := "SUPPRESSED_CAPTION", type := (.object "java/lang/String"), accessFlags := 26, slot := 6, constantValue := 0 }, { name := "EMPTY_THROWABLE_ARRAY", type := (.array (.object "java/lang/Throwable")), accessFlags := 26, slot := 7, constantValue := 0 }, { name := "$assertionsDisabled", type := .boolean, accessFlags := 4120, slot := 8, constantValue := 0 }]
  methods := #[k10m0, k10m1, k10m2, k10m3, k10m4, k10m5]
  instanceTypes := #[(.object "java/lang/Object"), (.object "java/lang/String"), (.object "java/lang/Throwable"), (.array (.object "java/lang/StackTraceElement")), .int, (.object "java/util/List")]
  staticTypes := #[.long, (.array (.object "java/lang/StackTraceElement")), (.object "java/util/List"), (.object "java/lang/String"), (.object "java/lang/String"), (.object "java/lang/String"), (.object "java/lang/String"), (.array (.object "java/lang/Throwable")), .boolean]
  resolved := Array.replicate 404 none
  statics := some 1 }

def pool11 : Array CpInfo := pool [(2, .class_ 4), (1, u "java/lang/Throwable"), (0, u "<init>"), (0, u "()V"), (0, .methodref 2 8), (0, .nameAndType 5 9), (0, u "(Ljava/lang/String;)V"), (9, .class_ 20), (0, u "java/lang/Exception"), (0, u "serialVersionUID"), (0, u "J")] 17

def k11m0 : Method := { name := "<init>", desc := "()V", sig := { parameters := [], returnType := none }, accessFlags := 1, code := none }
def k11c1 : Code := { maxStack := 2, maxLocals := 2, code := jdk_59_method_2_code, exceptionTable := #[], attributes := #[] }
def k11m1 : Method := { name := "<init>", desc := "(Ljava/lang/String;)V", sig := { parameters := [(.object "java/lang/String")], returnType := none }, accessFlags := 1, code := some k11c1 }
/-- java/lang/Exception -/
def k11 : Class := { plain "java/lang/Exception" (some 10) with
  accessFlags := 33
  interfaces := #[]
  cf := some (fileOf pool11 19 #[] #[{ accessFlags := 1, nameIndex := 5, descriptorIndex := 6, attributes := #[] }, { accessFlags := 1, nameIndex := 5, descriptorIndex := 9, attributes := #[] }] 33 2 #[] #[{ accessFlags := 24, nameIndex := 21, descriptorIndex := 22, attributes := #[] }])
  fields := #[{ name := "serialVersionUID", type := .long, accessFlags := 24, slot := 0, constantValue := 0 }]
  methods := #[k11m0, k11m1]
  instanceTypes := #[(.object "java/lang/Object"), (.object "java/lang/String"), (.object "java/lang/Throwable"), (.array (.object "java/lang/StackTraceElement")), .int, (.object "java/util/List")]
  staticTypes := #[.long]
  resolved := Array.replicate 40 none
  statics := none }

def pool12 : Array CpInfo := pool [(2, .class_ 4), (1, u "java/lang/Exception"), (0, u "<init>"), (0, u "()V"), (0, .methodref 2 8), (0, .nameAndType 5 9), (0, u "(Ljava/lang/String;)V"), (9, .class_ 20), (0, u "java/lang/RuntimeException"), (0, u "serialVersionUID"), (0, u "J")] 17

def k12m0 : Method := { name := "<init>", desc := "()V", sig := { parameters := [], returnType := none }, accessFlags := 1, code := none }
def k12c1 : Code := { maxStack := 2, maxLocals := 2, code := jdk_58_method_2_code, exceptionTable := #[], attributes := #[] }
def k12m1 : Method := { name := "<init>", desc := "(Ljava/lang/String;)V", sig := { parameters := [(.object "java/lang/String")], returnType := none }, accessFlags := 1, code := some k12c1 }
/-- java/lang/RuntimeException -/
def k12 : Class := { plain "java/lang/RuntimeException" (some 11) with
  accessFlags := 33
  interfaces := #[]
  cf := some (fileOf pool12 19 #[] #[{ accessFlags := 1, nameIndex := 5, descriptorIndex := 6, attributes := #[] }, { accessFlags := 1, nameIndex := 5, descriptorIndex := 9, attributes := #[] }] 33 2 #[] #[{ accessFlags := 24, nameIndex := 21, descriptorIndex := 22, attributes := #[] }])
  fields := #[{ name := "serialVersionUID", type := .long, accessFlags := 24, slot := 0, constantValue := 0 }]
  methods := #[k12m0, k12m1]
  instanceTypes := #[(.object "java/lang/Object"), (.object "java/lang/String"), (.object "java/lang/Throwable"), (.array (.object "java/lang/StackTraceElement")), .int, (.object "java/util/List")]
  staticTypes := #[.long]
  resolved := Array.replicate 40 none
  statics := none }

def pool13 : Array CpInfo := pool [(1, .methodref 2 3), (0, .class_ 4), (0, .nameAndType 5 6), (0, u "java/lang/RuntimeException"), (0, u "<init>"), (0, u "(Ljava/lang/String;)V"), (16, u "()Ljava/lang/String;"), (6, .class_ 31), (0, u "com/example/drain_shards/drainshards/DrainShardsException"), (0, .class_ 33), (0, u "java/lang/StringBuilder"), (0, .methodref 32 35), (0, .nameAndType 5 36), (0, u "()V"), (2, .methodref 32 40), (0, .nameAndType 41 42), (0, u "append"), (0, u "(Ljava/lang/String;)Ljava/lang/StringBuilder;"), (2, .methodref 32 46), (0, .nameAndType 47 23), (0, u "toString"), (6, .string 55), (0, u " "), (11, .string 68), (0, u "has leases for a stream it did not record"), (0, .string 70), (0, u "has its leases for stream "), (0, .string 72), (0, u ", not "), (0, .string 74), (0, u "application "), (0, .string 76), (0, u "; read "), (0, .string 78), (0, u " under another applicationName"), (0, .methodref 30 3), (0, u "serialVersionUID"), (0, u "J"), (11, u "ofOtherStream"), (0, u "(Ljava/lang/String;Ljava/lang/String;Ljava/lang/String;)Lcom/example/drain_shards/drainshards/DrainShardsException;")] 2

def k13c0 : Code := { maxStack := 2, maxLocals := 2, code := prog_4_method_1_code, exceptionTable := #[], attributes := #[] }
def k13m0 : Method := { name := "<init>", desc := "(Ljava/lang/String;)V", sig := { parameters := [(.object "java/lang/String")], returnType := none }, accessFlags := 1, code := some k13c0 }
def k13c1 : Code := { maxStack := 4, maxLocals := 4, code := prog_4_method_6_code, exceptionTable := #[], attributes := #[] }
def k13m1 : Method := { name := "ofOtherStream", desc := "(Ljava/lang/String;Ljava/lang/String;Ljava/lang/String;)Lcom/example/drain_shards/drainshards/DrainShardsException;", sig := { parameters := [(.object "java/lang/String"), (.object "java/lang/String"), (.object "java/lang/String")], returnType := some (.object "com/example/drain_shards/drainshards/DrainShardsException") }, accessFlags := 8, code := some k13c1 }
/-- com/example/drain_shards/drainshards/DrainShardsException -/
def k13 : Class := { plain "com/example/drain_shards/drainshards/DrainShardsException" (some 12) with
  accessFlags := 33
  interfaces := #[]
  cf := some (fileOf pool13 30 #[] #[{ accessFlags := 1, nameIndex := 5, descriptorIndex := 6, attributes := #[] }, { accessFlags := 8, nameIndex := 93, descriptorIndex := 94, attributes := #[] }] 33 2 #[] #[{ accessFlags := 26, nameIndex := 80, descriptorIndex := 81, attributes := #[] }])
  fields := #[{ name := "serialVersionUID", type := .long, accessFlags := 26, slot := 0, constantValue := 0 }]
  methods := #[k13m0, k13m1]
  instanceTypes := #[(.object "java/lang/Object"), (.object "java/lang/String"), (.object "java/lang/Throwable"), (.array (.object "java/lang/StackTraceElement")), .int, (.object "java/util/List")]
  staticTypes := #[.long]
  resolved := Array.replicate 97 none
  statics := none }

def pool14 : Array CpInfo := pool [(1, .class_ 2), (0, u "java/lang/Appendable"), (0, .class_ 4), (0, u "java/lang/Object")] 9

/-- java/lang/Appendable -/
def k14 : Class := { plain "java/lang/Appendable" (some 0) with
  accessFlags := 1537
  interfaces := #[]
  cf := some (fileOf pool14 1 #[] #[] 1537 3 #[] #[])
  fields := #[]
  methods := #[]
  instanceTypes := #[]
  staticTypes := #[]
  resolved := Array.replicate 14 none
  statics := none }

def pool15 : Array CpInfo := pool [(1, .class_ 2), (0, u "java/lang/String"), (0, .methodref 4 5), (0, .class_ 6), (0, .nameAndType 7 8), (0, u "java/lang/Object"), (0, u "<init>"), (0, u "()V"), (1, .class_ 12), (1, u "java/lang/AbstractStringBuilder"), (0, u "EMPTYVALUE"), (0, u "[B"), (0, .fieldref 10 16), (0, .nameAndType 17 14), (0, u "value"), (0, .fieldref 1 19), (0, .nameAndType 20 21), (0, u "COMPACT_STRINGS"), (0, u "Z"), (0, .fieldref 10 23), (0, .nameAndType 24 25), (0, u "coder"), (0, u "B"), (6, .methodref 1 33), (0, .nameAndType 34 35), (0, u "length"), (0, u "()I"), (3, .integer 2147483647), (0, .methodref 1 41), (0, .nameAndType 24 42), (0, u "()B"), (2, u "append"), (0, u "(Ljava/lang/String;)Ljava/lang/AbstractStringBuilder;"), (1, .class_ 49), (0, u "java/lang/CharSequence"), (19, u "(Ljava/lang/String;)V"), (5, u "maybeLatin1"), (3, .fieldref 10 80), (0, .nameAndType 81 82), (0, u "count"), (0, u "I"), (2, u "isLatin1"), (0, u "()Z"), (13, .methodref 10 101), (0, .nameAndType 102 103), (0, u "ensureCapacityInternal"), (0, u "(I)V"), (0, .methodref 10 105), (0, .nameAndType 106 107), (0, u "newCapacity"), (0, u "(I)I"), (0, .methodref 109 110), (0, .class_ 111), (0, .nameAndType 112 113), (0, u "java/util/Arrays"), (0, u "copyOf"), (0, u "([BI)[B"), (0, .methodref 115 116), (0, .class_ 117), (0, .nameAndType 118 119), (0, u "jdk/internal/util/ArraysSupport"), (0, u "newLength"), (0, u "(III)I"), (88, .methodref 10 209), (0, .nameAndType 210 211), (0, u "putStringAt"), (0, u "(ILjava/lang/String;)V"), (5, u "inflateIfNeededFor"), (2, .nameAndType 221 222), (0, u "getBytes"), (0, u "([BIB)V"), (174, .methodref 10 398), (0, .nameAndType 217 69), (0, .methodref 1 220), (3, u "()[B"), (40, .class_ 445), (0, u "java/lang/Appendable"), (106, u "getValue")] 56

def k15m0 : Method := { name := "<init>", desc := "()V", sig := { parameters := [], returnType := none }, accessFlags := 0, code := none }
def k15c1 : Code := { maxStack := 2, maxLocals := 2, code := jdk_68_method_2_code, exceptionTable := #[], attributes := #[] }
def k15m1 : Method := { name := "<init>", desc := "(I)V", sig := { parameters := [.int], returnType := none }, accessFlags := 0, code := some k15c1 }
def k15c2 : Code := { maxStack := 1, maxLocals := 1, code := jdk_68_method_6_code, exceptionTable := #[], attributes := #[] }
def k15m2 : Method := { name := "length", desc := "()I", sig := { parameters := [], returnType := some .int }, accessFlags := 1, code := some k15c2 }
def k15c3 : Code := { maxStack := 4, maxLocals := 3, code := jdk_68_method_9_code, exceptionTable := #[], attributes := #[] }
def k15m3 : Method := { name := "ensureCapacityInternal", desc := "(I)V", sig := { parameters := [.int], returnType := none }, accessFlags := 2, code := some k15c3 }
def k15c4 : Code := { maxStack := 5, maxLocals := 6, code := jdk_68_method_10_code, exceptionTable := #[], attributes := #[] }
def k15m4 : Method := { name := "newCapacity", desc := "(I)I", sig := { parameters := [.int], returnType := some .int }, accessFlags := 2, code := some k15c4 }
def k15c5 : Code := { maxStack := 3, maxLocals := 3, code := jdk_68_method_22_code, exceptionTable := #[], attributes := #[] }
def k15m5 : Method := { name := "append", desc := "(Ljava/lang/String;)Ljava/lang/AbstractStringBuilder;", sig := { parameters := [(.object "java/lang/String")], returnType := some (.object "java/lang/AbstractStringBuilder") }, accessFlags := 1, code := some k15c5 }
def k15c6 : Code := { maxStack := 1, maxLocals := 1, code := jdk_68_method_64_code, exceptionTable := #[], attributes := #[] }
def k15m6 : Method := { name := "getValue", desc := "()[B", sig := { parameters := [], returnType := some (.array .byte) }, accessFlags := 16, code := some k15c6 }
def k15c7 : Code := { maxStack := 1, maxLocals := 1, code := jdk_68_method_68_code, exceptionTable := #[], attributes := #[] }
def k15m7 : Method := { name := "isLatin1", desc := "()Z", sig := { parameters := [], returnType := some .boolean }, accessFlags := 16, code := some k15c7 }
def k15c8 : Code := { maxStack := 2, maxLocals := 2, code := jdk_68_method_71_code, exceptionTable := #[], attributes := #[] }
def k15m8 : Method := { name := "inflateIfNeededFor", desc := "(Ljava/lang/String;)V", sig := { parameters := [(.object "java/lang/String")], returnType := none }, accessFlags := 2, code := some k15c8 }
def k15c9 : Code := { maxStack := 4, maxLocals := 3, code := jdk_68_method_73_code, exceptionTable := #[], attributes := #[] }
def k15m9 : Method := { name := "putStringAt", desc := "(ILjava/lang/String;)V", sig := { parameters := [.int, (.object "java/lang/String")], returnType := none }, accessFlags := 2, code := some k15c9 }
/-- java/lang/AbstractStringBuilder -/
def k15 : Class := { plain "java/lang/AbstractStringBuilder" (some 0) with
  accessFlags := 1056
  interfaces := #[14, 4]
  cf := some (fileOf pool15 10 #[] #[{ accessFlags := 0, nameIndex := 7, descriptorIndex := 8, attributes := #[] }, { accessFlags := 0, nameIndex := 7, descriptorIndex := 103, attributes := #[] }, { accessFlags := 1, nameIndex := 34, descriptorIndex := 35, attributes := #[] }, { accessFlags := 2, nameIndex := 102, descriptorIndex := 103, attributes := #[] }, { accessFlags := 2, nameIndex := 106, descriptorIndex := 107, attributes := #[] }, { accessFlags := 1, nameIndex := 45, descriptorIndex := 46, attributes := #[] }, { accessFlags := 16, nameIndex := 552, descriptorIndex := 403, attributes := #[] }, { accessFlags := 16, nameIndex := 85, descriptorIndex := 86, attributes := #[] }, { accessFlags := 2, nameIndex := 217, descriptorIndex := 69, attributes := #[] }, { accessFlags := 2, nameIndex := 210, descriptorIndex := 211, attributes := #[] }] 1056 4 #[444, 48] #[{ accessFlags := 0, nameIndex := 17, descriptorIndex := 14, attributes := #[] }, { accessFlags := 0, nameIndex := 24, descriptorIndex := 25, attributes := #[] }, { accessFlags := 0, nameIndex := 75, descriptorIndex := 21, attributes := #[] }, { accessFlags := 0, nameIndex := 81, descriptorIndex := 82, attributes := #[] }, { accessFlags := 26, nameIndex := 13, descriptorIndex := 14, attributes := #[] }])
  fields := #[{ name := "value", type := (.array .byte), accessFlags := 0, slot := 0, constantValue := 0 }, { name := "coder", type := .byte, accessFlags := 0, slot := 1, constantValue := 0 }, { name := "maybeLatin1", type := .boolean, accessFlags := 0, slot := 2, constantValue := 0 }, { name := "count", type := .int, accessFlags := 0, slot := 3, constantValue := 0 }, { name := "EMPTYVALUE", type := (.array .byte), accessFlags := 26, slot := 0, constantValue := 0 }]
  methods := #[k15m0, k15m1, k15m2, k15m3, k15m4, k15m5, k15m6, k15m7, k15m8, k15m9]
  instanceTypes := #[(.array .byte), .byte, .boolean, .int]
  staticTypes := #[(.array .byte)]
  resolved := Array.replicate 609 none
  statics := none }

def pool16 : Array CpInfo := pool [(1, .methodref 2 3), (0, .class_ 4), (0, .nameAndType 5 6), (0, u "java/lang/AbstractStringBuilder"), (0, u "<init>"), (0, u "(I)V"), (11, .class_ 20), (1, u "java/lang/String"), (3, .class_ 26), (1, u "java/lang/StringBuilder"), (0, u "append"), (0, u "(Ljava/lang/String;)Ljava/lang/StringBuilder;"), (0, .methodref 2 30), (0, .nameAndType 27 31), (0, u "(Ljava/lang/String;)Ljava/lang/AbstractStringBuilder;"), (105, .methodref 18 138), (0, .nameAndType 5 139), (0, u "(Ljava/lang/StringBuilder;)V"), (5, u "()V"), (10, u "()I"), (186, .methodref 2 344), (0, .nameAndType 345 156), (0, u "length"), (3, .class_ 350), (0, u "java/lang/Appendable"), (0, .class_ 352), (0, u "java/io/Serializable"), (0, .class_ 354), (0, u "java/lang/Comparable"), (0, .class_ 356), (0, u "java/lang/CharSequence"), (0, u "serialVersionUID"), (0, u "J"), (40, u "toString"), (0, u "()Ljava/lang/String;")] 21

def k16c0 : Code := { maxStack := 2, maxLocals := 1, code := jdk_67_method_1_code, exceptionTable := #[], attributes := #[] }
def k16m0 : Method := { name := "<init>", desc := "()V", sig := { parameters := [], returnType := none }, accessFlags := 1, code := some k16c0 }
def k16c1 : Code := { maxStack := 2, maxLocals := 2, code := jdk_67_method_7_code, exceptionTable := #[], attributes := #[] }
def k16m1 : Method := { name := "append", desc := "(Ljava/lang/String;)Ljava/lang/StringBuilder;", sig := { parameters := [(.object "java/lang/String")], returnType := some (.object "java/lang/StringBuilder") }, accessFlags := 1, code := some k16c1 }
def k16c2 : Code := { maxStack := 3, maxLocals := 1, code := jdk_67_method_42_code, exceptionTable := #[], attributes := #[] }
def k16m2 : Method := { name := "toString", desc := "()Ljava/lang/String;", sig := { parameters := [], returnType := some (.object "java/lang/String") }, accessFlags := 1, code := some k16c2 }
def k16c3 : Code := { maxStack := 1, maxLocals := 1, code := jdk_67_method_93_code, exceptionTable := #[], attributes := #[] }
def k16m3 : Method := { name := "length", desc := "()I", sig := { parameters := [], returnType := some .int }, accessFlags := 4161, code := some k16c3 }
/-- java/lang/StringBuilder -/
def k16 : Class := { plain "java/lang/StringBuilder" (some 15) with
  accessFlags := 49
  interfaces := #[14, 2, 3, 4]
  cf := some (fileOf pool16 24 #[] #[{ accessFlags := 1, nameIndex := 5, descriptorIndex := 145, attributes := #[] }, { accessFlags := 1, nameIndex := 27, descriptorIndex := 28, attributes := #[] }, { accessFlags := 1, nameIndex := 399, descriptorIndex := 400, attributes := #[] }, { accessFlags := 4161, nameIndex := 345, descriptorIndex := 156, attributes := #[] }] 49 2 #[349, 351, 353, 355] #[{ accessFlags := 24, nameIndex := 357, descriptorIndex := 358, attributes := #[] }])
  fields := #[{ name := "serialVersionUID", type := .long, accessFlags := 24, slot := 0, constantValue := 0 }]
  methods := #[k16m0, k16m1, k16m2, k16m3]
  instanceTypes := #[(.array .byte), .byte, .boolean, .int]
  staticTypes := #[.long]
  resolved := Array.replicate 422 none
  statics := none }

def pool17 : Array CpInfo := pool [(9, u "<init>"), (6, .class_ 18), (1, u "java/lang/Object"), (0, u "()V"), (1, .class_ 23), (1, u "jdk/internal/util/ArraysSupport"), (0, u "LOG2_ARRAY_LONG_INDEX_SCALE"), (0, u "I"), (2, u "U"), (0, u "Ljdk/internal/misc/Unsafe;"), (8, u "BIG_ENDIAN"), (0, u "Z"), (8, u "LOG2_BYTE_BIT_SIZE"), (4, u "LOG2_ARRAY_INT_INDEX_SCALE"), (54, u "JLA"), (0, u "Ljdk/internal/access/JavaLangAccess;"), (11, u "LOG2_ARRAY_BOOLEAN_INDEX_SCALE"), (9, u "LOG2_ARRAY_BYTE_INDEX_SCALE"), (5, u "LOG2_ARRAY_CHAR_INDEX_SCALE"), (5, u "LOG2_ARRAY_SHORT_INDEX_SCALE"), (18, u "LOG2_ARRAY_FLOAT_INDEX_SCALE"), (24, u "LOG2_ARRAY_DOUBLE_INDEX_SCALE"), (6, .methodref 195 196), (0, .class_ 197), (0, .nameAndType 198 199), (0, u "java/lang/Math"), (0, u "max"), (0, u "(II)I"), (0, .integer 2147483639), (76, u "T_BOOLEAN"), (2, u "T_CHAR"), (1, u "T_FLOAT"), (1, u "T_DOUBLE"), (1, u "T_BYTE"), (1, u "T_SHORT"), (1, u "T_INT"), (1, u "T_LONG"), (1, u "SOFT_MAX_ARRAY_LENGTH"), (56, u "newLength"), (0, u "(III)I")] 25

def k17m0 : Method := { name := "<init>", desc := "()V", sig := { parameters := [], returnType := none }, accessFlags := 2, code := none }
def k17c1 : Code := { maxStack := 3, maxLocals := 4, code := jdk_48_method_27_code, exceptionTable := #[], attributes := #[] }
def k17m1 : Method := { name := "newLength", desc := "(III)I", sig := { parameters := [.int, .int, .int], returnType := some .int }, accessFlags := 9, code := some k17c1 }
/-- jdk/internal/util/ArraysSupport -/
def k17 : Class := { plain "jdk/internal/util/ArraysSupport" (some 0) with
  accessFlags := 33
  interfaces := #[]
  cf := some (fileOf pool17 21 #[] #[{ accessFlags := 2, nameIndex := 9, descriptorIndex := 19, attributes := #[] }, { accessFlags := 9, nameIndex := 351, descriptorIndex := 352, attributes := #[] }] 33 16 #[] #[{ accessFlags := 24, nameIndex := 28, descriptorIndex := 29, attributes := #[] }, { accessFlags := 26, nameIndex := 38, descriptorIndex := 39, attributes := #[] }, { accessFlags := 25, nameIndex := 121, descriptorIndex := 25, attributes := #[] }, { accessFlags := 25, nameIndex := 131, descriptorIndex := 25, attributes := #[] }, { accessFlags := 25, nameIndex := 137, descriptorIndex := 25, attributes := #[] }, { accessFlags := 25, nameIndex := 143, descriptorIndex := 25, attributes := #[] }, { accessFlags := 25, nameIndex := 53, descriptorIndex := 25, attributes := #[] }, { accessFlags := 25, nameIndex := 24, descriptorIndex := 25, attributes := #[] }, { accessFlags := 25, nameIndex := 162, descriptorIndex := 25, attributes := #[] }, { accessFlags := 25, nameIndex := 187, descriptorIndex := 25, attributes := #[] }, { accessFlags := 26, nameIndex := 48, descriptorIndex := 25, attributes := #[] }, { accessFlags := 25, nameIndex := 277, descriptorIndex := 25, attributes := #[] }, { accessFlags := 25, nameIndex := 280, descriptorIndex := 25, attributes := #[] }, { accessFlags := 25, nameIndex := 282, descriptorIndex := 25, attributes := #[] }, { accessFlags := 25, nameIndex := 284, descriptorIndex := 25, attributes := #[] }, { accessFlags := 25, nameIndex := 286, descriptorIndex := 25, attributes := #[] }, { accessFlags := 25, nameIndex := 288, descriptorIndex := 25, attributes := #[] }, { accessFlags := 25, nameIndex := 290, descriptorIndex := 25, attributes := #[] }, { accessFlags := 25, nameIndex := 292, descriptorIndex := 25, attributes := #[] }, { accessFlags := 26, nameIndex := 108, descriptorIndex := 109, attributes := #[] }, { accessFlags := 25, nameIndex := 294, descriptorIndex := 25, attributes := #[] }])
  fields := #[{ name := "U", type := (.object "jdk/internal/misc/Unsafe"), accessFlags := 24, slot := 0, constantValue := 0 }, { name := "BIG_ENDIAN", type := .boolean, accessFlags := 26, slot := 1, constantValue := 0 }, { name := "LOG2_ARRAY_BOOLEAN_INDEX_SCALE", type := .int, accessFlags := 25, slot := 2, constantValue := 0 }, { name := "LOG2_ARRAY_BYTE_INDEX_SCALE", type := .int, accessFlags := 25, slot := 3, constantValue := 0 }, { name := "LOG2_ARRAY_CHAR_INDEX_SCALE", type := .int, accessFlags := 25, slot := 4, constantValue := 0 }, { name := "LOG2_ARRAY_SHORT_INDEX_SCALE", type := .int, accessFlags := 25, slot := 5, constantValue := 0 }, { name := "LOG2_ARRAY_INT_INDEX_SCALE", type := .int, accessFlags := 25, slot := 6, constantValue := 0 }, { name := "LOG2_ARRAY_LONG_INDEX_SCALE", type := .int, accessFlags := 25, slot := 7, constantValue := 0 }, { name := "LOG2_ARRAY_FLOAT_INDEX_SCALE", type := .int, accessFlags := 25, slot := 8, constantValue := 0 }, { name := "LOG2_ARRAY_DOUBLE_INDEX_SCALE", type := .int, accessFlags := 25, slot := 9, constantValue := 0 }, { name := "LOG2_BYTE_BIT_SIZE", type := .int, accessFlags := 26, slot := 10, constantValue := 0 }, { name := "T_BOOLEAN", type := .int, accessFlags := 25, slot := 11, constantValue := 0 }, { name := "T_CHAR", type := .int, accessFlags := 25, slot := 12, constantValue := 0 }, { name := "T_FLOAT", type := .int, accessFlags := 25, slot := 13, constantValue := 0 }, { name := "T_DOUBLE", type := .int, accessFlags := 25, slot := 14, constantValue := 0 }, { name := "T_BYTE", type := .int, accessFlags := 25, slot := 15, constantValue := 0 }, { name := "T_SHORT", type := .int, accessFlags := 25, slot := 16, constantValue := 0 }, { name := "T_INT", type := .int, accessFlags := 25, slot := 17, constantValue := 0 }, { name := "T_LONG", type := .int, accessFlags := 25, slot := 18, constantValue := 0 }, { name := "JLA", type := (.object "jdk/internal/access/JavaLangAccess"), accessFlags := 26, slot := 19, constantValue := 0 }, { name := "SOFT_MAX_ARRAY_LENGTH", type := .int, accessFlags := 25, slot := 20, constantValue := 0 }]
  methods := #[k17m0, k17m1]
  instanceTypes := #[]
  staticTypes := #[(.object "jdk/internal/misc/Unsafe"), .boolean, .int, .int, .int, .int, .int, .int, .int, .int, .int, .int, .int, .int, .int, .int, .int, .int, .int, (.object "jdk/internal/access/JavaLangAccess"), .int]
  resolved := Array.replicate 378 none
  statics := none }

def pool18 : Array CpInfo := pool [(1, .class_ 2), (0, u "java/lang/Math"), (1, .class_ 6), (1, u "java/lang/Object"), (0, u "<init>"), (0, u "()V"), (89, .class_ 100), (1, u "java/lang/Math$RandomNumberGeneratorHolder"), (71, u "negativeZeroFloatBits"), (0, u "J"), (2, u "negativeZeroDoubleBits"), (21, u "max"), (2, u "min"), (43, u "$assertionsDisabled"), (0, u "Z"), (88, u "(II)I"), (2, u "twoToTheDoubleScaleDown"), (0, u "D"), (4, u "twoToTheDoubleScaleUp"), (9, u "E"), (3, u "PI"), (2, u "TAU"), (2, u "DEGREES_TO_RADIANS"), (0, u "RADIANS_TO_DEGREES")] 94

def k18m0 : Method := { name := "<init>", desc := "()V", sig := { parameters := [], returnType := none }, accessFlags := 2, code := none }
def k18c1 : Code := { maxStack := 2, maxLocals := 2, code := jdk_29_method_65_code, exceptionTable := #[], attributes := #[] }
def k18m1 : Method := { name := "max", desc := "(II)I", sig := { parameters := [.int, .int], returnType := some .int }, accessFlags := 9, code := some k18c1 }
def k18c2 : Code := { maxStack := 2, maxLocals := 2, code := jdk_29_method_69_code, exceptionTable := #[], attributes := #[] }
def k18m2 : Method := { name := "min", desc := "(II)I", sig := { parameters := [.int, .int], returnType := some .int }, accessFlags := 9, code := some k18c2 }
/-- java/lang/Math -/
def k18 : Class := { plain "java/lang/Math" (some 0) with
  accessFlags := 49
  interfaces := #[]
  cf := some (fileOf pool18 1 #[.nestMembers #[98]] #[{ accessFlags := 2, nameIndex := 7, descriptorIndex := 8, attributes := #[] }, { accessFlags := 9, nameIndex := 198, descriptorIndex := 335, attributes := #[] }, { accessFlags := 9, nameIndex := 201, descriptorIndex := 335, attributes := #[] }] 49 4 #[] #[{ accessFlags := 25, nameIndex := 354, descriptorIndex := 339, attributes := #[] }, { accessFlags := 25, nameIndex := 358, descriptorIndex := 339, attributes := #[] }, { accessFlags := 25, nameIndex := 361, descriptorIndex := 339, attributes := #[] }, { accessFlags := 26, nameIndex := 364, descriptorIndex := 339, attributes := #[] }, { accessFlags := 26, nameIndex := 365, descriptorIndex := 339, attributes := #[] }, { accessFlags := 26, nameIndex := 172, descriptorIndex := 173, attributes := #[] }, { accessFlags := 26, nameIndex := 176, descriptorIndex := 173, attributes := #[] }, { accessFlags := 8, nameIndex := 344, descriptorIndex := 339, attributes := #[] }, { accessFlags := 8, nameIndex := 338, descriptorIndex := 339, attributes := #[] }, { accessFlags := 4120, nameIndex := 245, descriptorIndex := 246, attributes := #[] }])
  fields := #[{ name := "E", type := .double, accessFlags := 25, slot := 0, constantValue := 0 }, { name := "PI", type := .double, accessFlags := 25, slot := 1, constantValue := 0 }, { name := "TAU", type := .double, accessFlags := 25, slot := 2, constantValue := 0 }, { name := "DEGREES_TO_RADIANS", type := .double, accessFlags := 26, slot := 3, constantValue := 0 }, { name := "RADIANS_TO_DEGREES", type := .double, accessFlags := 26, slot := 4, constantValue := 0 }, { name := "negativeZeroFloatBits", type := .long, accessFlags := 26, slot := 5, constantValue := 0 }, { name := "negativeZeroDoubleBits", type := .long, accessFlags := 26, slot := 6, constantValue := 0 }, { name := "twoToTheDoubleScaleUp", type := .double, accessFlags := 8, slot := 7, constantValue := 0 }, { name := "twoToTheDoubleScaleDown", type := .double, accessFlags := 8, slot := 8, constantValue := 0 }, { name := "$assertionsDisabled", type := .boolean, accessFlags := 4120, slot := 9, constantValue := 0 }]
  methods := #[k18m0, k18m1, k18m2]
  instanceTypes := #[]
  staticTypes := #[.double, .double, .double, .double, .double, .long, .long, .double, .double, .boolean]
  resolved := Array.replicate 460 none
  statics := none }

def pool19 : Array CpInfo := pool [(2, .class_ 4), (1, u "java/lang/Object"), (0, u "<init>"), (0, u "()V"), (7, .class_ 16), (1, u "java/util/Arrays"), (57, .class_ 76), (1, u "java/util/Arrays$NaturalOrder"), (32, u "()Ljava/lang/Object;"), (3, .class_ 115), (1, u "java/util/Arrays$LegacyMergeSort"), (1, u "Z"), (10, .nameAndType 129 109), (0, u "clone"), (9, u "copyOfRange"), (10, .methodref 151 152), (0, .class_ 153), (0, .nameAndType 154 155), (0, u "java/lang/System"), (0, u "arraycopy"), (0, u "(Ljava/lang/Object;ILjava/lang/Object;II)V"), (146, u "copyOf"), (1, .methodref 305 306), (0, .class_ 307), (0, .nameAndType 308 309), (0, u "java/lang/Math"), (0, u "min"), (0, u "(II)I"), (0, .methodref 311 128), (0, .class_ 312), (0, u "[B"), (26, .methodref 14 340), (0, .nameAndType 341 342), (0, u "copyOfRangeByte"), (0, u "([BII)[B"), (0, .methodref 14 344), (0, .nameAndType 345 346), (0, u "checkLength"), (0, u "(II)V"), (28, .class_ 376), (0, u "java/util/Arrays$ArrayList"), (68, u "$assertionsDisabled"), (269, u "MIN_ARRAY_SORT_GRAN"), (0, u "I"), (2, u "INSERTIONSORT_THRESHOLD"), (149, u "([BI)[B"), (105, .class_ 976), (0, u "java/util/Arrays$ArrayItr")] 52

def k19m0 : Method := { name := "<init>", desc := "()V", sig := { parameters := [], returnType := none }, accessFlags := 2, code := none }
def k19c1 : Code := { maxStack := 6, maxLocals := 3, code := jdk_65_method_121_code, exceptionTable := #[], attributes := #[] }
def k19m1 : Method := { name := "copyOf", desc := "([BI)[B", sig := { parameters := [(.array .byte), .int], returnType := some (.array .byte) }, accessFlags := 9, code := some k19c1 }
def k19c2 : Code := { maxStack := 4, maxLocals := 2, code := jdk_65_method_131_code, exceptionTable := #[], attributes := #[] }
def k19m2 : Method := { name := "checkLength", desc := "(II)V", sig := { parameters := [.int, .int], returnType := none }, accessFlags := 10, code := some k19c2 }
def k19c3 : Code := { maxStack := 3, maxLocals := 3, code := jdk_65_method_132_code, exceptionTable := #[], attributes := #[] }
def k19m3 : Method := { name := "copyOfRange", desc := "([BII)[B", sig := { parameters := [(.array .byte), .int, .int], returnType := some (.array .byte) }, accessFlags := 9, code := some k19c3 }
def k19c4 : Code := { maxStack := 6, maxLocals := 5, code := jdk_65_method_133_code, exceptionTable := #[], attributes := #[] }
def k19m4 : Method := { name := "copyOfRangeByte", desc := "([BII)[B", sig := { parameters := [(.array .byte), .int, .int], returnType := some (.array .byte) }, accessFlags := 10, code := some k19c4 }
/-- java/util/Arrays -/
def k19 : Class := { plain "java/util/Arrays" (some 0) with
  accessFlags := 49
  interfaces := #[]
  cf := some (fileOf pool19 14 #[.nestMembers #[975, 375, 113, 74]] #[{ accessFlags := 2, nameIndex := 5, descriptorIndex := 6, attributes := #[] }, { accessFlags := 9, nameIndex := 302, descriptorIndex := 869, attributes := #[] }, { accessFlags := 10, nameIndex := 345, descriptorIndex := 346, attributes := #[] }, { accessFlags := 9, nameIndex := 139, descriptorIndex := 342, attributes := #[] }, { accessFlags := 10, nameIndex := 341, descriptorIndex := 342, attributes := #[] }] 49 2 #[] #[{ accessFlags := 26, nameIndex := 715, descriptorIndex := 716, attributes := #[] }, { accessFlags := 26, nameIndex := 719, descriptorIndex := 716, attributes := #[] }, { accessFlags := 4120, nameIndex := 445, descriptorIndex := 117, attributes := #[] }])
  fields := #[{ name := "MIN_ARRAY_SORT_GRAN", type := .int, accessFlags := 26, slot := 0, constantValue := 0 }, { name := "INSERTIONSORT_THRESHOLD", type := .int, accessFlags := 26, slot := 1, constantValue := 0 }, { name := "$assertionsDisabled", type := .boolean, accessFlags := 4120, slot := 2, constantValue := 0 }]
  methods := #[k19m0, k19m1, k19m2, k19m3, k19m4]
  instanceTypes := #[]
  staticTypes := #[.int, .int, .boolean]
  resolved := Array.replicate 1029 none
  statics := none }

def pool20 : Array CpInfo := pool [(2, .class_ 4), (1, u "java/lang/Object"), (0, u "<init>"), (0, u "()V"), (1, .class_ 10), (1, u "java/lang/System"), (0, u "allowSecurityManager"), (0, u "I"), (16, u "cons"), (0, u "Ljava/io/Console;"), (77, .class_ 110), (1, u "java/lang/System$CallersHolder"), (43, u "initialErrStream"), (0, u "Ljava/io/PrintStream;"), (19, u "security"), (0, u "Ljava/lang/SecurityManager;"), (31, .class_ 209), (0, u "java/lang/System$1"), (7, u "props"), (0, u "Ljava/util/Properties;"), (2, u "lineSeparator"), (0, u "Ljava/lang/String;"), (96, .class_ 321), (1, u "java/lang/System$LoggerFinder"), (5, .class_ 328), (0, u "java/lang/System$Logger"), (67, u "err"), (2, u "out"), (91, u "notSupportedJnuEncoding"), (15, u "in"), (17, u "initialIn"), (0, u "Ljava/io/InputStream;"), (35, u "bootLayer"), (0, u "Ljava/lang/ModuleLayer;"), (99, .class_ 664), (0, u "java/lang/System$2"), (9, u "NEVER"), (2, u "MAYBE"), (49, u "arraycopy"), (0, u "(Ljava/lang/Object;ILjava/lang/Object;II)V"), (72, .class_ 802), (0, u "java/lang/System$Logger$Level")] 31

def k20m0 : Method := { name := "<init>", desc := "()V", sig := { parameters := [], returnType := none }, accessFlags := 2, code := none }
def k20m1 : Method := { name := "arraycopy", desc := "(Ljava/lang/Object;ILjava/lang/Object;II)V", sig := { parameters := [(.object "java/lang/Object"), .int, (.object "java/lang/Object"), .int, .int], returnType := none }, accessFlags := 265, code := none }
/-- java/lang/System -/
def k20 : Class := { plain "java/lang/System" (some 0) with
  accessFlags := 49
  interfaces := #[]
  cf := some (fileOf pool20 8 #[.nestMembers #[319, 327, 801, 108, 663, 208]] #[{ accessFlags := 2, nameIndex := 5, descriptorIndex := 6, attributes := #[] }, { accessFlags := 265, nameIndex := 727, descriptorIndex := 728, attributes := #[] }] 49 2 #[] #[{ accessFlags := 25, nameIndex := 507, descriptorIndex := 526, attributes := #[] }, { accessFlags := 25, nameIndex := 399, descriptorIndex := 155, attributes := #[] }, { accessFlags := 25, nameIndex := 396, descriptorIndex := 155, attributes := #[] }, { accessFlags := 10, nameIndex := 525, descriptorIndex := 526, attributes := #[] }, { accessFlags := 26, nameIndex := 674, descriptorIndex := 12, attributes := #[] }, { accessFlags := 26, nameIndex := 677, descriptorIndex := 12, attributes := #[] }, { accessFlags := 10, nameIndex := 11, descriptorIndex := 12, attributes := #[] }, { accessFlags := 74, nameIndex := 175, descriptorIndex := 176, attributes := #[] }, { accessFlags := 10, nameIndex := 491, descriptorIndex := 222, attributes := #[] }, { accessFlags := 74, nameIndex := 29, descriptorIndex := 30, attributes := #[] }, { accessFlags := 74, nameIndex := 154, descriptorIndex := 155, attributes := #[] }, { accessFlags := 10, nameIndex := 217, descriptorIndex := 218, attributes := #[] }, { accessFlags := 10, nameIndex := 221, descriptorIndex := 222, attributes := #[] }, { accessFlags := 8, nameIndex := 562, descriptorIndex := 563, attributes := #[] }])
  fields := #[{ name := "in", type := (.object "java/io/InputStream"), accessFlags := 25, slot := 0, constantValue := 0 }, { name := "out", type := (.object "java/io/PrintStream"), accessFlags := 25, slot := 1, constantValue := 0 }, { name := "err", type := (.object "java/io/PrintStream"), accessFlags := 25, slot := 2, constantValue := 0 }, { name := "initialIn", type := (.object "java/io/InputStream"), accessFlags := 10, slot := 3, constantValue := 0 }, { name := "NEVER", type := .int, accessFlags := 26, slot := 4, constantValue := 0 }, { name := "MAYBE", type := .int, accessFlags := 26, slot := 5, constantValue := 0 }, { name := "allowSecurityManager", type := .int, accessFlags := 10, slot := 6, constantValue := 0 }, { name := "security", type := (.object "java/lang/SecurityManager"), accessFlags := 74, slot := 7, constantValue := 0 }, { name := "notSupportedJnuEncoding", type := (.object "java/lang/String"), accessFlags := 10, slot := 8, constantValue := 0 }, { name := "cons", type := (.object "java/io/Console"), accessFlags := 74, slot := 9, constantValue := 0 }, { name := "initialErrStream", type := (.object "java/io/PrintStream"), accessFlags := 74, slot := 10, constantValue := 0 }, { name := "props", type := (.object "java/util/Properties"), accessFlags := 10, slot := 11, constantValue := 0 }, { name := "lineSeparator", type := (.object "java/lang/String"), accessFlags := 10, slot := 12, constantValue := 0 }, { name := "bootLayer", type := (.object "java/lang/ModuleLayer"), accessFlags := 8, slot := 13, constantValue := 0 }]
  methods := #[k20m0, k20m1]
  instanceTypes := #[]
  staticTypes := #[(.object "java/io/InputStream"), (.object "java/io/PrintStream"), (.object "java/io/PrintStream"), (.object "java/io/InputStream"), .int, .int, .int, (.object "java/lang/SecurityManager"), (.object "java/lang/String"), (.object "java/io/Console"), (.object "java/io/PrintStream"), (.object "java/util/Properties"), (.object "java/lang/String"), (.object "java/lang/ModuleLayer")]
  resolved := Array.replicate 834 none
  statics := none }

def pool21 : Array CpInfo := pool [(1, .class_ 2), (0, u "java/lang/Cloneable"), (0, .class_ 4), (0, u "java/lang/Object")] 2

/-- java/lang/Cloneable -/
def k21 : Class := { plain "java/lang/Cloneable" (some 0) with
  accessFlags := 1537
  interfaces := #[]
  cf := some (fileOf pool21 1 #[] #[] 1537 3 #[] #[])
  fields := #[]
  methods := #[]
  instanceTypes := #[]
  staticTypes := #[]
  resolved := Array.replicate 7 none
  statics := none }

def pool22 : Array CpInfo := pool [(2, .class_ 4), (1, u "java/lang/Object"), (0, u "<init>"), (0, u "()V"), (17, .class_ 26), (1, u "jdk/internal/util/Preconditions"), (28, .class_ 56), (0, u "jdk/internal/util/Preconditions$4"), (57, .class_ 115), (0, u "jdk/internal/util/Preconditions$1"), (7, u "SIOOBE_FORMATTER"), (0, u "Ljava/util/function/BiFunction;"), (0, .class_ 126), (0, u "jdk/internal/util/Preconditions$2"), (3, u "AIOOBE_FORMATTER"), (0, .class_ 132), (0, u "jdk/internal/util/Preconditions$3"), (3, u "IOOBE_FORMATTER")] 57

def k22m0 : Method := { name := "<init>", desc := "()V", sig := { parameters := [], returnType := none }, accessFlags := 1, code := none }
/-- jdk/internal/util/Preconditions -/
def k22 : Class := { plain "jdk/internal/util/Preconditions" (some 0) with
  accessFlags := 33
  interfaces := #[]
  cf := some (fileOf pool22 24 #[.nestMembers #[55, 131, 125, 114]] #[{ accessFlags := 1, nameIndex := 5, descriptorIndex := 6, attributes := #[] }] 33 2 #[] #[{ accessFlags := 25, nameIndex := 123, descriptorIndex := 124, attributes := #[] }, { accessFlags := 25, nameIndex := 130, descriptorIndex := 124, attributes := #[] }, { accessFlags := 25, nameIndex := 136, descriptorIndex := 124, attributes := #[] }])
  fields := #[{ name := "SIOOBE_FORMATTER", type := (.object "java/util/function/BiFunction"), accessFlags := 25, slot := 0, constantValue := 0 }, { name := "AIOOBE_FORMATTER", type := (.object "java/util/function/BiFunction"), accessFlags := 25, slot := 1, constantValue := 0 }, { name := "IOOBE_FORMATTER", type := (.object "java/util/function/BiFunction"), accessFlags := 25, slot := 2, constantValue := 0 }]
  methods := #[k22m0]
  instanceTypes := #[]
  staticTypes := #[(.object "java/util/function/BiFunction"), (.object "java/util/function/BiFunction"), (.object "java/util/function/BiFunction")]
  resolved := Array.replicate 194 none
  statics := some 2 }

def pool23 : Array CpInfo := pool [(2, .class_ 4), (1, u "java/lang/Object"), (0, u "<init>"), (0, u "()V"), (12, .class_ 20), (0, u "java/util/Collections"), (63, u "r"), (0, u "Ljava/util/Random;"), (80, .class_ 167), (0, u "java/util/Collections$UnmodifiableCollection"), (6, .class_ 175), (0, u "java/util/Collections$UnmodifiableSequencedCollection"), (6, .class_ 183), (0, u "java/util/Collections$UnmodifiableSet"), (6, .class_ 191), (0, u "java/util/Collections$UnmodifiableSequencedSet"), (6, .class_ 199), (0, u "java/util/Collections$UnmodifiableSortedSet"), (6, .class_ 207), (0, u "java/util/Collections$UnmodifiableNavigableSet"), (4, .class_ 213), (0, u "java/util/Collections$UnmodifiableList"), (1, .class_ 216), (0, u "java/util/Collections$UnmodifiableRandomAccessList"), (6, .class_ 224), (0, u "java/util/Collections$UnmodifiableMap"), (6, .class_ 232), (0, u "java/util/Collections$UnmodifiableSequencedMap"), (4, .class_ 238), (0, u "java/util/Collections$UnmodifiableSortedMap"), (6, .class_ 246), (0, u "java/util/Collections$UnmodifiableNavigableMap"), (3, .class_ 251), (0, u "java/util/Collections$SynchronizedCollection"), (4, .class_ 257), (0, u "java/util/Collections$SynchronizedSet"), (4, .class_ 263), (0, u "java/util/Collections$SynchronizedSortedSet"), (1, .class_ 266), (0, u "java/util/Collections$SynchronizedNavigableSet"), (1, .class_ 269), (0, u "java/util/Collections$SynchronizedRandomAccessList"), (1, .class_ 272), (0, u "java/util/Collections$SynchronizedList"), (5, .class_ 279), (0, u "java/util/Collections$SynchronizedMap"), (1, .class_ 282), (0, u "java/util/Collections$SynchronizedSortedMap"), (1, .class_ 285), (0, u "java/util/Collections$SynchronizedNavigableMap"), (1, .class_ 288), (0, u "java/util/Collections$CheckedCollection"), (11, .class_ 301), (0, u "java/util/Collections$CheckedQueue"), (3, .class_ 306), (0, u "java/util/Collections$CheckedSet"), (3, .class_ 311), (0, u "java/util/Collections$CheckedSortedSet"), (3, .class_ 316), (0, u "java/util/Collections$CheckedNavigableSet"), (3, .class_ 321), (0, u "java/util/Collections$CheckedRandomAccessList"), (3, .class_ 326), (0, u "java/util/Collections$CheckedList"), (1, .class_ 329), (0, u "java/util/Collections$CheckedMap"), (3, .class_ 334), (0, u "java/util/Collections$CheckedSortedMap"), (3, .class_ 339), (0, u "java/util/Collections$CheckedNavigableMap"), (4, .class_ 346), (1, u "java/util/Collections$EmptyIterator"), (3, .class_ 352), (1, u "java/util/Collections$EmptyListIterator"), (2, .class_ 357), (1, u "java/util/Collections$EmptyEnumeration"), (4, u "EMPTY_SET"), (0, u "Ljava/util/Set;"), (6, u "EMPTY_LIST"), (0, u "Ljava/util/List;"), (2, u "EMPTY_MAP"), (0, u "Ljava/util/Map;"), (4, .class_ 381), (0, u "java/util/Collections$SingletonSet"), (2, .class_ 385), (0, u "java/util/Collections$1"), (1, .class_ 388), (0, u "java/util/Collections$2"), (1, .class_ 391), (0, u "java/util/Collections$SingletonList"), (1, .class_ 394), (0, u "java/util/Collections$SingletonMap"), (22, .class_ 418), (0, u "java/util/Collections$CopiesList"), (4, .class_ 425), (1, u "java/util/Collections$ReverseComparator"), (8, .class_ 435), (0, u "java/util/Collections$ReverseComparator2"), (6, .class_ 443), (0, u "java/util/Collections$3"), (25, .class_ 470), (0, u "java/util/Collections$SetFromMap"), (2, .class_ 474), (0, u "java/util/Collections$SequencedSetFromMap"), (3, .class_ 479), (0, u "java/util/Collections$AsLIFOQueue"), (11, .class_ 492), (0, u "java/util/Collections$EmptySet"), (1, .class_ 495), (0, u "java/util/Collections$EmptyList"), (1, .class_ 498), (0, u "java/util/Collections$EmptyMap"), (1, u "BINARYSEARCH_THRESHOLD"), (0, u "I"), (2, u "REVERSE_THRESHOLD"), (1, u "SHUFFLE_THRESHOLD"), (1, u "FILL_THRESHOLD"), (1, u "ROTATE_THRESHOLD"), (1, u "COPY_THRESHOLD"), (1, u "REPLACEALL_THRESHOLD"), (1, u "INDEXOFSUBLIST_THRESHOLD"), (333, .class_ 851), (0, u "java/util/Collections$CheckedMap$CheckedEntrySet"), (0, .class_ 853), (0, u "java/util/Collections$CheckedMap$CheckedEntrySet$CheckedEntry"), (0, .class_ 855), (0, u "java/util/Collections$CheckedMap$CheckedEntrySet$1"), (0, .class_ 857), (0, u "java/util/Collections$CheckedList$1"), (0, .class_ 859), (0, u "java/util/Collections$CheckedCollection$1"), (0, .class_ 861), (0, u "java/util/Collections$UnmodifiableNavigableMap$EmptyNavigableMap"), (0, .class_ 863), (0, u "java/util/Collections$UnmodifiableMap$UnmodifiableEntrySet"), (0, .class_ 865), (0, u "java/util/Collections$UnmodifiableMap$UnmodifiableEntrySet$UnmodifiableEntry"), (0, .class_ 867), (0, u "java/util/Collections$UnmodifiableMap$UnmodifiableEntrySet$UnmodifiableEntrySetSpliterator"), (0, .class_ 869), (0, u "java/util/Collections$UnmodifiableMap$UnmodifiableEntrySet$1"), (0, .class_ 871), (0, u "java/util/Collections$UnmodifiableList$1"), (0, .class_ 873), (0, u "java/util/Collections$UnmodifiableNavigableSet$EmptyNavigableSet"), (0, .class_ 875), (0, u "java/util/Collections$UnmodifiableCollection$1")] 57

def k23m0 : Method := { name := "<init>", desc := "()V", sig := { parameters := [], returnType := none }, accessFlags := 2, code := none }
/-- java/util/Collections -/
def k23 : Class := { plain "java/util/Collections" (some 0) with
  accessFlags := 33
  interfaces := #[]
  cf := some (fileOf pool23 19 #[.nestMembers #[478, 473, 469, 434, 423, 417, 393, 390, 380, 497, 494, 491, 355, 350, 344, 338, 333, 328, 850, 852, 854, 320, 325, 856, 315, 310, 305, 300, 287, 858, 284, 281, 278, 268, 271, 265, 262, 256, 250, 245, 860, 237, 231, 223, 862, 864, 866, 868, 215, 212, 870, 206, 872, 198, 190, 182, 174, 166, 874, 442, 387, 384]] #[{ accessFlags := 2, nameIndex := 5, descriptorIndex := 6, attributes := #[] }] 33 2 #[] #[{ accessFlags := 26, nameIndex := 500, descriptorIndex := 501, attributes := #[] }, { accessFlags := 26, nameIndex := 504, descriptorIndex := 501, attributes := #[] }, { accessFlags := 26, nameIndex := 506, descriptorIndex := 501, attributes := #[] }, { accessFlags := 26, nameIndex := 508, descriptorIndex := 501, attributes := #[] }, { accessFlags := 26, nameIndex := 510, descriptorIndex := 501, attributes := #[] }, { accessFlags := 26, nameIndex := 512, descriptorIndex := 501, attributes := #[] }, { accessFlags := 26, nameIndex := 514, descriptorIndex := 501, attributes := #[] }, { accessFlags := 26, nameIndex := 516, descriptorIndex := 501, attributes := #[] }, { accessFlags := 10, nameIndex := 84, descriptorIndex := 85, attributes := #[] }, { accessFlags := 25, nameIndex := 362, descriptorIndex := 363, attributes := #[] }, { accessFlags := 25, nameIndex := 370, descriptorIndex := 371, attributes := #[] }, { accessFlags := 25, nameIndex := 374, descriptorIndex := 375, attributes := #[] }])
  fields := #[{ name := "BINARYSEARCH_THRESHOLD", type := .int, accessFlags := 26, slot := 0, constantValue := 0 }, { name := "REVERSE_THRESHOLD", type := .int, accessFlags := 26, slot := 1, constantValue := 0 }, { name := "SHUFFLE_THRESHOLD", type := .int, accessFlags := 26, slot := 2, constantValue := 0 }, { name := "FILL_THRESHOLD", type := .int, accessFlags := 26, slot := 3, constantValue := 0 }, { name := "ROTATE_THRESHOLD", type := .int, accessFlags := 26, slot := 4, constantValue := 0 }, { name := "COPY_THRESHOLD", type := .int, accessFlags := 26, slot := 5, constantValue := 0 }, { name := "REPLACEALL_THRESHOLD", type := .int, accessFlags := 26, slot := 6, constantValue := 0 }, { name := "INDEXOFSUBLIST_THRESHOLD", type := .int, accessFlags := 26, slot := 7, constantValue := 0 }, { name := "r", type := (.object "java/util/Random"), accessFlags := 10, slot := 8, constantValue := 0 }, { name := "EMPTY_SET", type := (.object "java/util/Set"), accessFlags := 25, slot := 9, constantValue := 0 }, { name := "EMPTY_LIST", type := (.object "java/util/List"), accessFlags := 25, slot := 10, constantValue := 0 }, { name := "EMPTY_MAP", type := (.object "java/util/Map"), accessFlags := 25, slot := 11, constantValue := 0 }]
  methods := #[k23m0]
  instanceTypes := #[]
  staticTypes := #[.int, .int, .int, .int, .int, .int, .int, .int, (.object "java/util/Random"), (.object "java/util/Set"), (.object "java/util/List"), (.object "java/util/Map")]
  resolved := Array.replicate 933 none
  statics := some 3 }

def pool24 : Array CpInfo := pool [(8, .class_ 10), (1, u "java/lang/Iterable"), (24, .class_ 36), (0, u "java/lang/Object")] 25

/-- java/lang/Iterable -/
def k24 : Class := { plain "java/lang/Iterable" (some 0) with
  accessFlags := 1537
  interfaces := #[]
  cf := some (fileOf pool24 8 #[] #[] 1537 35 #[] #[])
  fields := #[]
  methods := #[]
  instanceTypes := #[]
  staticTypes := #[]
  resolved := Array.replicate 62 none
  statics := none }

def pool25 : Array CpInfo := pool [(10, .class_ 12), (1, u "java/util/Collection"), (47, .class_ 61), (0, u "java/lang/Object"), (0, .class_ 63), (0, u "java/lang/Iterable")] 51

/-- java/util/Collection -/
def k25 : Class := { plain "java/util/Collection" (some 0) with
  accessFlags := 1537
  interfaces := #[24]
  cf := some (fileOf pool25 10 #[] #[] 1537 60 #[62] #[])
  fields := #[]
  methods := #[]
  instanceTypes := #[]
  staticTypes := #[]
  resolved := Array.replicate 115 none
  statics := none }

def pool26 : Array CpInfo := pool [(2, .class_ 4), (1, u "java/lang/Object"), (0, u "<init>"), (0, u "()V"), (1, .class_ 10), (1, u "java/util/AbstractCollection"), (66, .class_ 78), (0, u "java/util/Collection")] 81

def k26m0 : Method := { name := "<init>", desc := "()V", sig := { parameters := [], returnType := none }, accessFlags := 4, code := none }
/-- java/util/AbstractCollection -/
def k26 : Class := { plain "java/util/AbstractCollection" (some 0) with
  accessFlags := 1057
  interfaces := #[25]
  cf := some (fileOf pool26 8 #[] #[{ accessFlags := 4, nameIndex := 5, descriptorIndex := 6, attributes := #[] }] 1057 2 #[77] #[])
  fields := #[]
  methods := #[k26m0]
  instanceTypes := #[]
  staticTypes := #[]
  resolved := Array.replicate 160 none
  statics := none }

def pool27 : Array CpInfo := pool [(8, .class_ 10), (1, u "java/util/SequencedCollection"), (15, .class_ 27), (0, u "java/lang/Object"), (0, .class_ 29), (0, u "java/util/Collection")] 27

/-- java/util/SequencedCollection -/
def k27 : Class := { plain "java/util/SequencedCollection" (some 0) with
  accessFlags := 1537
  interfaces := #[25]
  cf := some (fileOf pool27 8 #[] #[] 1537 26 #[28] #[])
  fields := #[]
  methods := #[]
  instanceTypes := #[]
  staticTypes := #[]
  resolved := Array.replicate 57 none
  statics := none }

def pool28 : Array CpInfo := pool [(8, .class_ 10), (1, u "java/util/List"), (92, .class_ 104), (0, u "java/lang/Object"), (15, .class_ 121), (0, u "java/util/SequencedCollection")] 129

/-- java/util/List -/
def k28 : Class := { plain "java/util/List" (some 0) with
  accessFlags := 1537
  interfaces := #[27]
  cf := some (fileOf pool28 8 #[] #[] 1537 103 #[120] #[])
  fields := #[]
  methods := #[]
  instanceTypes := #[]
  staticTypes := #[]
  resolved := Array.replicate 251 none
  statics := none }

def pool29 : Array CpInfo := pool [(2, .class_ 4), (1, u "java/util/AbstractCollection"), (0, u "<init>"), (0, u "()V"), (1, .class_ 10), (1, u "java/util/AbstractList"), (0, u "modCount"), (0, u "I"), (64, .class_ 78), (0, u "java/util/AbstractList$Itr"), (3, .class_ 83), (0, u "java/util/AbstractList$ListItr"), (9, .class_ 94), (0, u "java/util/AbstractList$RandomAccessSubList"), (3, .class_ 99), (0, u "java/util/AbstractList$SubList"), (33, .class_ 134), (0, u "java/util/List"), (73, .class_ 209), (0, u "java/util/AbstractList$SubList$1"), (0, .class_ 211), (0, u "java/util/AbstractList$RandomAccessSpliterator")] 6

def k29m0 : Method := { name := "<init>", desc := "()V", sig := { parameters := [], returnType := none }, accessFlags := 4, code := none }
/-- java/util/AbstractList -/
def k29 : Class := { plain "java/util/AbstractList" (some 26) with
  accessFlags := 1057
  interfaces := #[28]
  cf := some (fileOf pool29 8 #[.nestMembers #[93, 98, 208, 210, 82, 77]] #[{ accessFlags := 4, nameIndex := 5, descriptorIndex := 6, attributes := #[] }] 1057 2 #[133] #[{ accessFlags := 132, nameIndex := 11, descriptorIndex := 12, attributes := #[] }])
  fields := #[{ name := "modCount", type := .int, accessFlags := 132, slot := 0, constantValue := 0 }]
  methods := #[k29m0]
  instanceTypes := #[.int]
  staticTypes := #[]
  resolved := Array.replicate 218 none
  statics := none }

def pool30 : Array CpInfo := pool [(1, .class_ 2), (0, u "java/util/RandomAccess"), (0, .class_ 4), (0, u "java/lang/Object")] 2

/-- java/util/RandomAccess -/
def k30 : Class := { plain "java/util/RandomAccess" (some 0) with
  accessFlags := 1537
  interfaces := #[]
  cf := some (fileOf pool30 1 #[] #[] 1537 3 #[] #[])
  fields := #[]
  methods := #[]
  instanceTypes := #[]
  staticTypes := #[]
  resolved := Array.replicate 7 none
  statics := none }

def pool31 : Array CpInfo := pool [(2, .class_ 4), (1, u "java/util/AbstractList"), (0, u "<init>"), (0, u "()V"), (1, .class_ 10), (1, u "java/util/Collections"), (54, .class_ 66), (0, u "java/util/Collections$EmptyList"), (0, .class_ 68), (0, u "java/util/RandomAccess"), (0, .class_ 70), (0, u "java/io/Serializable"), (0, u "serialVersionUID"), (0, u "J")] 77

def k31m0 : Method := { name := "<init>", desc := "()V", sig := { parameters := [], returnType := none }, accessFlags := 2, code := none }
/-- java/util/Collections$EmptyList -/
def k31 : Class := { plain "java/util/Collections$EmptyList" (some 29) with
  accessFlags := 32
  interfaces := #[30, 2]
  cf := some (fileOf pool31 65 #[.nestHost 8] #[{ accessFlags := 2, nameIndex := 5, descriptorIndex := 6, attributes := #[] }] 32 2 #[67, 69] #[{ accessFlags := 26, nameIndex := 71, descriptorIndex := 72, attributes := #[] }])
  fields := #[{ name := "serialVersionUID", type := .long, accessFlags := 26, slot := 0, constantValue := 0 }]
  methods := #[k31m0]
  instanceTypes := #[.int]
  staticTypes := #[.long]
  resolved := Array.replicate 150 none
  statics := none }

def pool32 : Array CpInfo := pool [(2, .class_ 4), (1, u "java/lang/StackTraceElement"), (0, u "<init>"), (2, .class_ 10), (1, u "java/lang/Object"), (0, u "()V"), (2, u "format"), (0, u "B"), (2, u "classLoaderName"), (0, u "Ljava/lang/String;"), (2, u "moduleName"), (2, u "moduleVersion"), (12, u "declaringClass"), (4, u "methodName"), (2, u "fileName"), (2, u "lineNumber"), (0, u "I"), (65, u "declaringClassObject"), (0, u "Ljava/lang/Class;"), (33, .class_ 153), (1, u "java/lang/StackTraceElement$HashedModules"), (17, .class_ 172), (0, u "java/io/Serializable"), (0, u "NATIVE_METHOD"), (1, u "UNKNOWN_SOURCE"), (2, u "BUILTIN_CLASS_LOADER"), (1, u "JDK_NON_UPGRADEABLE_MODULE"), (1, u "serialVersionUID"), (0, u "J")] 51

def k32m0 : Method := { name := "<init>", desc := "()V", sig := { parameters := [], returnType := none }, accessFlags := 2, code := none }
/-- java/lang/StackTraceElement -/
def k32 : Class := { plain "java/lang/StackTraceElement" (some 0) with
  accessFlags := 49
  interfaces := #[2]
  cf := some (fileOf pool32 2 #[.nestMembers #[151]] #[{ accessFlags := 2, nameIndex := 5, descriptorIndex := 11, attributes := #[] }] 49 8 #[171] #[{ accessFlags := 26, nameIndex := 173, descriptorIndex := 19, attributes := #[] }, { accessFlags := 26, nameIndex := 175, descriptorIndex := 19, attributes := #[] }, { accessFlags := 130, nameIndex := 116, descriptorIndex := 117, attributes := #[] }, { accessFlags := 2, nameIndex := 18, descriptorIndex := 19, attributes := #[] }, { accessFlags := 2, nameIndex := 22, descriptorIndex := 19, attributes := #[] }, { accessFlags := 2, nameIndex := 25, descriptorIndex := 19, attributes := #[] }, { accessFlags := 2, nameIndex := 38, descriptorIndex := 19, attributes := #[] }, { accessFlags := 2, nameIndex := 43, descriptorIndex := 19, attributes := #[] }, { accessFlags := 2, nameIndex := 46, descriptorIndex := 19, attributes := #[] }, { accessFlags := 2, nameIndex := 49, descriptorIndex := 50, attributes := #[] }, { accessFlags := 2, nameIndex := 14, descriptorIndex := 15, attributes := #[] }, { accessFlags := 26, nameIndex := 178, descriptorIndex := 15, attributes := #[] }, { accessFlags := 26, nameIndex := 180, descriptorIndex := 15, attributes := #[] }, { accessFlags := 26, nameIndex := 182, descriptorIndex := 183, attributes := #[] }])
  fields := #[{ name := "NATIVE_METHOD", type := (.object "java/lang/String"), accessFlags := 26, slot := 0, constantValue := 0 }, { name := "UNKNOWN_SOURCE", type := (.object "java/lang/String"), accessFlags := 26, slot := 1, constantValue := 0 }, { name := "declaringClassObject", type := (.object "java/lang/Class"), accessFlags := 130, slot := 0, constantValue := 0 }, { name := "classLoaderName", type := (.object "java/lang/String"), accessFlags := 2, slot := 1, constantValue := 0 }, { name := "moduleName", type := (.object "java/lang/String"), accessFlags := 2, slot := 2, constantValue := 0 }, { name := "moduleVersion", type := (.object "java/lang/String"), accessFlags := 2, slot := 3, constantValue := 0 }, { name := "declaringClass", type := (.object "java/lang/String"), accessFlags := 2, slot := 4, constantValue := 0 }, { name := "methodName", type := (.object "java/lang/String"), accessFlags := 2, slot := 5, constantValue := 0 }, { name := "fileName", type := (.object "java/lang/String"), accessFlags := 2, slot := 6, constantValue := 0 }, { name := "lineNumber", type := .int, accessFlags := 2, slot := 7, constantValue := 0 }, { name := "format", type := .byte, accessFlags := 2, slot := 8, constantValue := 0 }, { name := "BUILTIN_CLASS_LOADER", type := .byte, accessFlags := 26, slot := 2, constantValue := 0 }, { name := "JDK_NON_UPGRADEABLE_MODULE", type := .byte, accessFlags := 26, slot := 3, constantValue := 0 }, { name := "serialVersionUID", type := .long, accessFlags := 26, slot := 4, constantValue := 0 }]
  methods := #[k32m0]
  instanceTypes := #[(.object "java/lang/Class"), (.object "java/lang/String"), (.object "java/lang/String"), (.object "java/lang/String"), (.object "java/lang/String"), (.object "java/lang/String"), (.object "java/lang/String"), .int, .byte]
  staticTypes := #[(.object "java/lang/String"), (.object "java/lang/String"), .byte, .byte, .long]
  resolved := Array.replicate 235 none
  statics := none }

/-- the primitive byte -/
def k33 : Class := { plain "byte" none with kind := .primitive 'B', accessFlags := 0x411 }
/-- [B -/
def k34 : Class := { plain "[B" (some 0) with kind := .array 33 .byte, interfaces := #[21, 2], accessFlags := 1041 }

/-- the primitive char -/
def k35 : Class := { plain "char" none with kind := .primitive 'C', accessFlags := 0x411 }
/-- [C -/
def k36 : Class := { plain "[C" (some 0) with kind := .array 35 .char, interfaces := #[21, 2], accessFlags := 1041 }

/-- the primitive int -/
def k37 : Class := { plain "int" none with kind := .primitive 'I', accessFlags := 0x411 }
/-- [I -/
def k38 : Class := { plain "[I" (some 0) with kind := .array 37 .int, interfaces := #[21, 2], accessFlags := 1041 }

/-- [Ljava/lang/Object; -/
def k39 : Class := { plain "[Ljava/lang/Object;" (some 0) with kind := .array 0 (.object "java/lang/Object"), interfaces := #[21, 2], accessFlags := 1041 }

/-- [Ljava/lang/StackTraceElement; -/
def k40 : Class := { plain "[Ljava/lang/StackTraceElement;" (some 0) with kind := .array 32 (.object "java/lang/StackTraceElement"), interfaces := #[21, 2], accessFlags := 1041 }

/-- [Ljava/lang/Throwable; -/
def k41 : Class := { plain "[Ljava/lang/Throwable;" (some 0) with kind := .array 10 (.object "java/lang/Throwable"), interfaces := #[21, 2], accessFlags := 1041 }

def heap : Heap := #[{ cls := 7, slots := #[.long 0, .int 1, .null, .int 0, .null, .int 0, .int 0], vm := .statics 7 },
  { cls := 10, slots := #[.long 0, .ref 4, .ref 5, .null, .null, .null, .null, .ref 6, .int 1], vm := .statics 10 },
  { cls := 22, slots := #[.null, .null, .null], vm := .statics 22 },
  { cls := 23, slots := #[.int 0, .int 0, .int 0, .int 0, .int 0, .int 0, .int 0, .int 0, .null, .null, .ref 5, .null], vm := .statics 23 },
  { cls := 40, slots := #[], vm := .none },
  { cls := 31, slots := #[.int 0], vm := .none },
  { cls := 41, slots := #[], vm := .none }]
def classes : Array Class := #[k0, k1, k2, k3, k4, k5, k6, k7, k8, k9, k10, k11, k12, k13, k14, k15, k16, k17, k18, k19, k20, k21, k22, k23, k24, k25, k26, k27, k28, k29, k30, k31, k32, k33, k34, k35, k36, k37, k38, k39, k40, k41]
def interned : List (Array UInt16 × Addr) := []
def slotsUsed : Nat := 32
def theMethod : MethodId := ⟨1, 1⟩
def args0 : Array Value := #[.int 65, .int 66, .int 67, .int 1]
def aboutOver (below : List Frame) : State where
  vm := { classes := classes, interned := interned.toArray }
  heap := heap
  slotsUsed := slotsUsed
  threads := #[{ frames := .invoking theMethod args0 :: below }]
def below0 : List Frame := [.native { method := ⟨0, 0⟩, args := #[] }]
def about1 : State := aboutOver below0
def p0 : Program := .bare "" "" ""
def e0 : Env := launch0.env 0 0 0
theorem w_frames : about1.frames = Frame.invoking theMethod args0 :: below0 := rfl
set_option maxRecDepth 65536 in
theorem w_args : argsFit about1.vm theMethod args0 = true := by decide +kernel
set_option maxRecDepth 65536 in
theorem w_heap : heapFits about1 = true := by decide +kernel
set_option maxRecDepth 65536 in
theorem w_runnable : about1.curStatus? = some .runnable := by decide +kernel
set_option maxRecDepth 65536 in
theorem w_alone : about1.alone = true := by decide +kernel
set_option maxRecDepth 65536 in
theorem w_named : about1.methodNamed? x = some theMethod := by decide +kernel
set_option maxRecDepth 65536 in
theorem w_hears : about1.hears theMethod below0 = true := by decide +kernel
set_option maxRecDepth 65536 in
theorem w_ripe : about1.ripe theMethod args0 below0 = true := by decide +kernel
theorem w_running : about1.status = .running := rfl
set_option maxRecDepth 65536 in
theorem w_room : about1.hasRoom e0.platform room_1 = true :=
  launch0.hasRoom_least _ room_1 (by decide +kernel) (by decide +kernel) (by decide +kernel) (by decide +kernel) (by decide +kernel) (by decide +kernel)
theorem allAtoms_all (ts : List Jvm.Cond) (a : Array Jvm.Value) (st : Jvm.State) : (allAtoms ts).before a st = ts.all (fun c => c.before a st) := by
  induction ts with
  | nil => rfl
  | cons c t ih =>
    show (Jvm.Cond.and c (allAtoms t)).before a st = _
    rw [Jvm.Cond.before_and, ih, List.all_cons]
def words1 : List Jvm.Cond := Jvm.Cond.code x code maxLocals ret :: tables_1
/-- a 'code' word, met by the world's own term for the bytes: nothing is compared byte by byte -/
theorem code_word {y : MethodName} {bytes : ByteArray} {mx : Nat} {rt : Option FieldType} {a : Array Value} {s : State} {m : MethodId} {meth : Method} {c : Code} (h1 : s.methodNamed? y = some m) (h2 : s.vm.method? m = some meth) (h3 : meth.code = some c) (h4 : c.code = bytes)
    (h5 : (c.maxLocals == mx && c.exceptionTable.isEmpty && decide (c.maxStack ≤ mostOperands) && decide (meth.sig.returnType = rt) && !meth.locks && decide (parseMethodDescriptor y.desc = some meth.sig)) = true) : (Jvm.Cond.code y bytes mx rt).before a s = true := by
  simp only [Bool.and_eq_true, beq_iff_eq, Bool.not_eq_true', decide_eq_true_eq] at h5
  obtain ⟨⟨⟨⟨⟨g1, g2⟩, g3⟩, g4⟩, g5⟩, g6⟩ := h5
  simp [Cond.before, Cond.holds, Cond.value, h1, h2, h3, h4, g1, g2, g3, g4, g5, g6]
def isCode : Jvm.Cond → Bool
  | .code _ _ _ _ => true
  | _ => false
theorem all_split {L : List Jvm.Cond} {P : Jvm.Cond → Bool} (h1 : L.all (fun c => isCode c || P c) = true) (h2 : ∀ c ∈ L.filter isCode, P c = true) : L.all P = true := by
  refine List.all_eq_true.mpr fun c hc => ?_
  have h := List.all_eq_true.mp h1 c hc
  rcases Bool.eq_false_or_eq_true (isCode c) with hi | hi
  · exact h2 c (List.mem_filter.mpr ⟨hc, hi⟩)
  · simpa [hi] using h
set_option maxRecDepth 65536 in
theorem w_c0 : (Jvm.Cond.code x code maxLocals ret).before args0 about1 = true := code_word (m := ⟨1, 1⟩) (meth := k1m1) (c := k1c1) (by decide +kernel) rfl rfl rfl (by decide +kernel)
set_option maxRecDepth 65536 in
theorem w_c1 : (Jvm.Cond.code ({ cls := "java/lang/String", name := "valueOf", desc := "(C)Ljava/lang/String;" } : Jvm.MethodName) jdk_42_method_139_code (1 : Nat) (Option.some (Jvm.ClassFile.FieldType.object "java/lang/String"))).before args0 about1 = true := code_word (m := ⟨7, 5⟩) (meth := k7m5) (c := k7c5) (by decide +kernel) rfl rfl rfl (by decide +kernel)
set_option maxRecDepth 65536 in
theorem w_c2 : (Jvm.Cond.code ({ cls := "java/lang/StringLatin1", name := "canEncode", desc := "(C)Z" } : Jvm.MethodName) jdk_43_method_3_code (1 : Nat) (Option.some Jvm.ClassFile.FieldType.boolean)).before args0 about1 = true := code_word (m := ⟨8, 1⟩) (meth := k8m1) (c := k8c1) (by decide +kernel) rfl rfl rfl (by decide +kernel)
set_option maxRecDepth 65536 in
theorem w_c3 : (Jvm.Cond.code ({ cls := "java/lang/StringLatin1", name := "toBytes", desc := "(C)[B" } : Jvm.MethodName) jdk_43_method_46_code (1 : Nat) (Option.some (Jvm.ClassFile.FieldType.array Jvm.ClassFile.FieldType.byte))).before args0 about1 = true := code_word (m := ⟨8, 3⟩) (meth := k8m3) (c := k8c3) (by decide +kernel) rfl rfl rfl (by decide +kernel)
set_option maxRecDepth 65536 in
theorem w_c4 : (Jvm.Cond.code ({ cls := "java/lang/String", name := "<init>", desc := "([BB)V" } : Jvm.MethodName) jdk_42_method_151_code (3 : Nat) (Option.none : Option Jvm.ClassFile.FieldType)).before args0 about1 = true := code_word (m := ⟨7, 9⟩) (meth := k7m9) (c := k7c9) (by decide +kernel) rfl rfl rfl (by decide +kernel)
set_option maxRecDepth 65536 in
theorem w_c5 : (Jvm.Cond.code ({ cls := "java/lang/Object", name := "<init>", desc := "()V" } : Jvm.MethodName) object_method_1_code (1 : Nat) (Option.none : Option Jvm.ClassFile.FieldType)).before args0 about1 = true := code_word (m := ⟨0, 0⟩) (meth := k0m0) (c := k0c0) (by decide +kernel) rfl rfl rfl (by decide +kernel)
set_option maxRecDepth 65536 in
theorem w_c6 : (Jvm.Cond.code ({ cls := "java/lang/String", name := "<init>", desc := "([C)V" } : Jvm.MethodName) jdk_42_method_3_code (2 : Nat) (Option.none : Option Jvm.ClassFile.FieldType)).before args0 about1 = true := code_word (m := ⟨7, 1⟩) (meth := k7m1) (c := k7c1) (by decide +kernel) rfl rfl rfl (by decide +kernel)
set_option maxRecDepth 65536 in
theorem w_c7 : (Jvm.Cond.code ({ cls := "java/lang/String", name := "<init>", desc := "([CIILjava/lang/Void;)V" } : Jvm.MethodName) jdk_42_method_149_code (6 : Nat) (Option.none : Option Jvm.ClassFile.FieldType)).before args0 about1 = true := code_word (m := ⟨7, 7⟩) (meth := k7m7) (c := k7c7) (by decide +kernel) rfl rfl rfl (by decide +kernel)
set_option maxRecDepth 65536 in
theorem w_c8 : (Jvm.Cond.code ({ cls := "java/lang/StringUTF16", name := "compress", desc := "([CII)[B" } : Jvm.MethodName) jdk_52_method_16_code (6 : Nat) (Option.some (Jvm.ClassFile.FieldType.array Jvm.ClassFile.FieldType.byte))).before args0 about1 = true := code_word (m := ⟨9, 2⟩) (meth := k9m2) (c := k9c2) (by decide +kernel) rfl rfl rfl (by decide +kernel)
set_option maxRecDepth 65536 in
theorem w_c9 : (Jvm.Cond.code ({ cls := "java/lang/StringUTF16", name := "compress", desc := "([CI[BII)I" } : Jvm.MethodName) jdk_52_method_21_code (7 : Nat) (Option.some Jvm.ClassFile.FieldType.int)).before args0 about1 = true := code_word (m := ⟨9, 3⟩) (meth := k9m3) (c := k9c3) (by decide +kernel) rfl rfl rfl (by decide +kernel)
set_option maxRecDepth 65536 in
theorem w_c10 : (Jvm.Cond.code ({ cls := "java/lang/StringUTF16", name := "coderFromArrayLen", desc := "([BI)B" } : Jvm.MethodName) jdk_52_method_15_code (2 : Nat) (Option.some Jvm.ClassFile.FieldType.byte)).before args0 about1 = true := code_word (m := ⟨9, 1⟩) (meth := k9m1) (c := k9c1) (by decide +kernel) rfl rfl rfl (by decide +kernel)
set_option maxRecDepth 65536 in
theorem w_c11 : (Jvm.Cond.code ({ cls := "com/example/drain_shards/drainshards/DrainShardsException", name := "ofOtherStream", desc := "(Ljava/lang/String;Ljava/lang/String;Ljava/lang/String;)Lcom/example/drain_shards/drainshards/DrainShardsException;" } : Jvm.MethodName) prog_4_method_6_code (4 : Nat) (Option.some (Jvm.ClassFile.FieldType.object "com/example/drain_shards/drainshards/DrainShardsException"))).before args0 about1 = true := code_word (m := ⟨13, 1⟩) (meth := k13m1) (c := k13c1) (by decide +kernel) rfl rfl rfl (by decide +kernel)
set_option maxRecDepth 65536 in
theorem w_c12 : (Jvm.Cond.code ({ cls := "java/lang/StringBuilder", name := "<init>", desc := "()V" } : Jvm.MethodName) jdk_67_method_1_code (1 : Nat) (Option.none : Option Jvm.ClassFile.FieldType)).before args0 about1 = true := code_word (m := ⟨16, 0⟩) (meth := k16m0) (c := k16c0) (by decide +kernel) rfl rfl rfl (by decide +kernel)
set_option maxRecDepth 65536 in
theorem w_c13 : (Jvm.Cond.code ({ cls := "java/lang/AbstractStringBuilder", name := "<init>", desc := "(I)V" } : Jvm.MethodName) jdk_68_method_2_code (2 : Nat) (Option.none : Option Jvm.ClassFile.FieldType)).before args0 about1 = true := code_word (m := ⟨15, 1⟩) (meth := k15m1) (c := k15c1) (by decide +kernel) rfl rfl rfl (by decide +kernel)
set_option maxRecDepth 65536 in
theorem w_c14 : (Jvm.Cond.code ({ cls := "java/lang/StringBuilder", name := "append", desc := "(Ljava/lang/String;)Ljava/lang/StringBuilder;" } : Jvm.MethodName) jdk_67_method_7_code (2 : Nat) (Option.some (Jvm.ClassFile.FieldType.object "java/lang/StringBuilder"))).before args0 about1 = true := code_word (m := ⟨16, 1⟩) (meth := k16m1) (c := k16c1) (by decide +kernel) rfl rfl rfl (by decide +kernel)
set_option maxRecDepth 65536 in
theorem w_c15 : (Jvm.Cond.code ({ cls := "java/lang/AbstractStringBuilder", name := "append", desc := "(Ljava/lang/String;)Ljava/lang/AbstractStringBuilder;" } : Jvm.MethodName) jdk_68_method_22_code (3 : Nat) (Option.some (Jvm.ClassFile.FieldType.object "java/lang/AbstractStringBuilder"))).before args0 about1 = true := code_word (m := ⟨15, 5⟩) (meth := k15m5) (c := k15c5) (by decide +kernel) rfl rfl rfl (by decide +kernel)
set_option maxRecDepth 65536 in
theorem w_c16 : (Jvm.Cond.code ({ cls := "java/lang/String", name := "length", desc := "()I" } : Jvm.MethodName) jdk_42_method_54_code (1 : Nat) (Option.some Jvm.ClassFile.FieldType.int)).before args0 about1 = true := code_word (m := ⟨7, 3⟩) (meth := k7m3) (c := k7c3) (by decide +kernel) rfl rfl rfl (by decide +kernel)
set_option maxRecDepth 65536 in
theorem w_c17 : (Jvm.Cond.code ({ cls := "java/lang/String", name := "coder", desc := "()B" } : Jvm.MethodName) jdk_42_method_152_code (1 : Nat) (Option.some Jvm.ClassFile.FieldType.byte)).before args0 about1 = true := code_word (m := ⟨7, 10⟩) (meth := k7m10) (c := k7c10) (by decide +kernel) rfl rfl rfl (by decide +kernel)
set_option maxRecDepth 65536 in
theorem w_c18 : (Jvm.Cond.code ({ cls := "java/lang/AbstractStringBuilder", name := "ensureCapacityInternal", desc := "(I)V" } : Jvm.MethodName) jdk_68_method_9_code (3 : Nat) (Option.none : Option Jvm.ClassFile.FieldType)).before args0 about1 = true := code_word (m := ⟨15, 3⟩) (meth := k15m3) (c := k15c3) (by decide +kernel) rfl rfl rfl (by decide +kernel)
set_option maxRecDepth 65536 in
theorem w_c19 : (Jvm.Cond.code ({ cls := "java/lang/AbstractStringBuilder", name := "newCapacity", desc := "(I)I" } : Jvm.MethodName) jdk_68_method_10_code (6 : Nat) (Option.some Jvm.ClassFile.FieldType.int)).before args0 about1 = true := code_word (m := ⟨15, 4⟩) (meth := k15m4) (c := k15c4) (by decide +kernel) rfl rfl rfl (by decide +kernel)
set_option maxRecDepth 65536 in
theorem w_c20 : (Jvm.Cond.code ({ cls := "jdk/internal/util/ArraysSupport", name := "newLength", desc := "(III)I" } : Jvm.MethodName) jdk_48_method_27_code (4 : Nat) (Option.some Jvm.ClassFile.FieldType.int)).before args0 about1 = true := code_word (m := ⟨17, 1⟩) (meth := k17m1) (c := k17c1) (by decide +kernel) rfl rfl rfl (by decide +kernel)
set_option maxRecDepth 65536 in
theorem w_c21 : (Jvm.Cond.code ({ cls := "java/lang/Math", name := "max", desc := "(II)I" } : Jvm.MethodName) jdk_29_method_65_code (2 : Nat) (Option.some Jvm.ClassFile.FieldType.int)).before args0 about1 = true := code_word (m := ⟨18, 1⟩) (meth := k18m1) (c := k18c1) (by decide +kernel) rfl rfl rfl (by decide +kernel)
set_option maxRecDepth 65536 in
theorem w_c22 : (Jvm.Cond.code ({ cls := "java/util/Arrays", name := "copyOf", desc := "([BI)[B" } : Jvm.MethodName) jdk_65_method_121_code (3 : Nat) (Option.some (Jvm.ClassFile.FieldType.array Jvm.ClassFile.FieldType.byte))).before args0 about1 = true := code_word (m := ⟨19, 1⟩) (meth := k19m1) (c := k19c1) (by decide +kernel) rfl rfl rfl (by decide +kernel)
set_option maxRecDepth 65536 in
theorem w_c23 : (Jvm.Cond.code ({ cls := "java/lang/Math", name := "min", desc := "(II)I" } : Jvm.MethodName) jdk_29_method_69_code (2 : Nat) (Option.some Jvm.ClassFile.FieldType.int)).before args0 about1 = true := code_word (m := ⟨18, 2⟩) (meth := k18m2) (c := k18c2) (by decide +kernel) rfl rfl rfl (by decide +kernel)
set_option maxRecDepth 65536 in
theorem w_c24 : (Jvm.Cond.code ({ cls := "java/lang/AbstractStringBuilder", name := "putStringAt", desc := "(ILjava/lang/String;)V" } : Jvm.MethodName) jdk_68_method_73_code (3 : Nat) (Option.none : Option Jvm.ClassFile.FieldType)).before args0 about1 = true := code_word (m := ⟨15, 9⟩) (meth := k15m9) (c := k15c9) (by decide +kernel) rfl rfl rfl (by decide +kernel)
set_option maxRecDepth 65536 in
theorem w_c25 : (Jvm.Cond.code ({ cls := "java/lang/AbstractStringBuilder", name := "inflateIfNeededFor", desc := "(Ljava/lang/String;)V" } : Jvm.MethodName) jdk_68_method_71_code (2 : Nat) (Option.none : Option Jvm.ClassFile.FieldType)).before args0 about1 = true := code_word (m := ⟨15, 8⟩) (meth := k15m8) (c := k15c8) (by decide +kernel) rfl rfl rfl (by decide +kernel)
set_option maxRecDepth 65536 in
theorem w_c26 : (Jvm.Cond.code ({ cls := "java/lang/String", name := "getBytes", desc := "([BIB)V" } : Jvm.MethodName) jdk_42_method_147_code (4 : Nat) (Option.none : Option Jvm.ClassFile.FieldType)).before args0 about1 = true := code_word (m := ⟨7, 6⟩) (meth := k7m6) (c := k7c6) (by decide +kernel) rfl rfl rfl (by decide +kernel)
set_option maxRecDepth 65536 in
theorem w_c27 : (Jvm.Cond.code ({ cls := "java/lang/StringBuilder", name := "toString", desc := "()Ljava/lang/String;" } : Jvm.MethodName) jdk_67_method_42_code (1 : Nat) (Option.some (Jvm.ClassFile.FieldType.object "java/lang/String"))).before args0 about1 = true := code_word (m := ⟨16, 2⟩) (meth := k16m2) (c := k16c2) (by decide +kernel) rfl rfl rfl (by decide +kernel)
set_option maxRecDepth 65536 in
theorem w_c28 : (Jvm.Cond.code ({ cls := "java/lang/String", name := "<init>", desc := "(Ljava/lang/StringBuilder;)V" } : Jvm.MethodName) jdk_42_method_53_code (2 : Nat) (Option.none : Option Jvm.ClassFile.FieldType)).before args0 about1 = true := code_word (m := ⟨7, 2⟩) (meth := k7m2) (c := k7c2) (by decide +kernel) rfl rfl rfl (by decide +kernel)
set_option maxRecDepth 65536 in
theorem w_c29 : (Jvm.Cond.code ({ cls := "java/lang/String", name := "<init>", desc := "(Ljava/lang/AbstractStringBuilder;Ljava/lang/Void;)V" } : Jvm.MethodName) jdk_42_method_150_code (5 : Nat) (Option.none : Option Jvm.ClassFile.FieldType)).before args0 about1 = true := code_word (m := ⟨7, 8⟩) (meth := k7m8) (c := k7c8) (by decide +kernel) rfl rfl rfl (by decide +kernel)
set_option maxRecDepth 65536 in
theorem w_c30 : (Jvm.Cond.code ({ cls := "java/lang/AbstractStringBuilder", name := "getValue", desc := "()[B" } : Jvm.MethodName) jdk_68_method_64_code (1 : Nat) (Option.some (Jvm.ClassFile.FieldType.array Jvm.ClassFile.FieldType.byte))).before args0 about1 = true := code_word (m := ⟨15, 6⟩) (meth := k15m6) (c := k15c6) (by decide +kernel) rfl rfl rfl (by decide +kernel)
set_option maxRecDepth 65536 in
theorem w_c31 : (Jvm.Cond.code ({ cls := "java/lang/StringBuilder", name := "length", desc := "()I" } : Jvm.MethodName) jdk_67_method_93_code (1 : Nat) (Option.some Jvm.ClassFile.FieldType.int)).before args0 about1 = true := code_word (m := ⟨16, 3⟩) (meth := k16m3) (c := k16c3) (by decide +kernel) rfl rfl rfl (by decide +kernel)
set_option maxRecDepth 65536 in
theorem w_c32 : (Jvm.Cond.code ({ cls := "java/lang/AbstractStringBuilder", name := "length", desc := "()I" } : Jvm.MethodName) jdk_68_method_6_code (1 : Nat) (Option.some Jvm.ClassFile.FieldType.int)).before args0 about1 = true := code_word (m := ⟨15, 2⟩) (meth := k15m2) (c := k15c2) (by decide +kernel) rfl rfl rfl (by decide +kernel)
set_option maxRecDepth 65536 in
theorem w_c33 : (Jvm.Cond.code ({ cls := "java/lang/AbstractStringBuilder", name := "isLatin1", desc := "()Z" } : Jvm.MethodName) jdk_68_method_68_code (1 : Nat) (Option.some Jvm.ClassFile.FieldType.boolean)).before args0 about1 = true := code_word (m := ⟨15, 7⟩) (meth := k15m7) (c := k15c7) (by decide +kernel) rfl rfl rfl (by decide +kernel)
set_option maxRecDepth 65536 in
theorem w_c34 : (Jvm.Cond.code ({ cls := "java/util/Arrays", name := "copyOfRange", desc := "([BII)[B" } : Jvm.MethodName) jdk_65_method_132_code (3 : Nat) (Option.some (Jvm.ClassFile.FieldType.array Jvm.ClassFile.FieldType.byte))).before args0 about1 = true := code_word (m := ⟨19, 3⟩) (meth := k19m3) (c := k19c3) (by decide +kernel) rfl rfl rfl (by decide +kernel)
set_option maxRecDepth 65536 in
theorem w_c35 : (Jvm.Cond.code ({ cls := "java/util/Arrays", name := "copyOfRangeByte", desc := "([BII)[B" } : Jvm.MethodName) jdk_65_method_133_code (5 : Nat) (Option.some (Jvm.ClassFile.FieldType.array Jvm.ClassFile.FieldType.byte))).before args0 about1 = true := code_word (m := ⟨19, 4⟩) (meth := k19m4) (c := k19c4) (by decide +kernel) rfl rfl rfl (by decide +kernel)
set_option maxRecDepth 65536 in
theorem w_c36 : (Jvm.Cond.code ({ cls := "java/util/Arrays", name := "checkLength", desc := "(II)V" } : Jvm.MethodName) jdk_65_method_131_code (2 : Nat) (Option.none : Option Jvm.ClassFile.FieldType)).before args0 about1 = true := code_word (m := ⟨19, 2⟩) (meth := k19m2) (c := k19c2) (by decide +kernel) rfl rfl rfl (by decide +kernel)
set_option maxRecDepth 65536 in
theorem w_c37 : (Jvm.Cond.code ({ cls := "com/example/drain_shards/drainshards/DrainShardsException", name := "<init>", desc := "(Ljava/lang/String;)V" } : Jvm.MethodName) prog_4_method_1_code (2 : Nat) (Option.none : Option Jvm.ClassFile.FieldType)).before args0 about1 = true := code_word (m := ⟨13, 0⟩) (meth := k13m0) (c := k13c0) (by decide +kernel) rfl rfl rfl (by decide +kernel)
set_option maxRecDepth 65536 in
theorem w_c38 : (Jvm.Cond.code ({ cls := "java/lang/RuntimeException", name := "<init>", desc := "(Ljava/lang/String;)V" } : Jvm.MethodName) jdk_58_method_2_code (2 : Nat) (Option.none : Option Jvm.ClassFile.FieldType)).before args0 about1 = true := code_word (m := ⟨12, 1⟩) (meth := k12m1) (c := k12c1) (by decide +kernel) rfl rfl rfl (by decide +kernel)
set_option maxRecDepth 65536 in
theorem w_c39 : (Jvm.Cond.code ({ cls := "java/lang/Exception", name := "<init>", desc := "(Ljava/lang/String;)V" } : Jvm.MethodName) jdk_59_method_2_code (2 : Nat) (Option.none : Option Jvm.ClassFile.FieldType)).before args0 about1 = true := code_word (m := ⟨11, 1⟩) (meth := k11m1) (c := k11c1) (by decide +kernel) rfl rfl rfl (by decide +kernel)
set_option maxRecDepth 65536 in
theorem w_c40 : (Jvm.Cond.code ({ cls := "java/lang/Throwable", name := "<init>", desc := "(Ljava/lang/String;)V" } : Jvm.MethodName) jdk_78_method_2_code (2 : Nat) (Option.none : Option Jvm.ClassFile.FieldType)).before args0 about1 = true := code_word (m := ⟨10, 1⟩) (meth := k10m1) (c := k10c1) (by decide +kernel) rfl rfl rfl (by decide +kernel)
set_option maxRecDepth 65536 in
theorem w_c41 : (Jvm.Cond.code ({ cls := "java/lang/Throwable", name := "<init>", desc := "()V" } : Jvm.MethodName) jdk_78_method_1_code (1 : Nat) (Option.none : Option Jvm.ClassFile.FieldType)).before args0 about1 = true := code_word (m := ⟨10, 0⟩) (meth := k10m0) (c := k10c0) (by decide +kernel) rfl rfl rfl (by decide +kernel)
set_option maxRecDepth 65536 in
theorem w_c42 : (Jvm.Cond.code ({ cls := "java/lang/Throwable", name := "getMessage", desc := "()Ljava/lang/String;" } : Jvm.MethodName) jdk_78_method_6_code (1 : Nat) (Option.some (Jvm.ClassFile.FieldType.object "java/lang/String"))).before args0 about1 = true := code_word (m := ⟨10, 2⟩) (meth := k10m2) (c := k10c2) (by decide +kernel) rfl rfl rfl (by decide +kernel)
set_option maxRecDepth 65536 in
theorem w_c43 : (Jvm.Cond.code ({ cls := "java/lang/String", name := "equals", desc := "(Ljava/lang/Object;)Z" } : Jvm.MethodName) jdk_42_method_66_code (3 : Nat) (Option.some Jvm.ClassFile.FieldType.boolean)).before args0 about1 = true := code_word (m := ⟨7, 4⟩) (meth := k7m4) (c := k7c4) (by decide +kernel) rfl rfl rfl (by decide +kernel)
set_option maxRecDepth 65536 in
theorem w_c44 : (Jvm.Cond.code ({ cls := "java/lang/StringLatin1", name := "equals", desc := "([B[B)Z" } : Jvm.MethodName) jdk_43_method_13_code (3 : Nat) (Option.some Jvm.ClassFile.FieldType.boolean)).before args0 about1 = true := code_word (m := ⟨8, 2⟩) (meth := k8m2) (c := k8c2) (by decide +kernel) rfl rfl rfl (by decide +kernel)
def codes1 : List Jvm.Cond := [Jvm.Cond.code x code maxLocals ret, Jvm.Cond.code ({ cls := "java/lang/String", name := "valueOf", desc := "(C)Ljava/lang/String;" } : Jvm.MethodName) jdk_42_method_139_code (1 : Nat) (Option.some (Jvm.ClassFile.FieldType.object "java/lang/String")), Jvm.Cond.code ({ cls := "java/lang/StringLatin1", name := "canEncode", desc := "(C)Z" } : Jvm.MethodName) jdk_43_method_3_code (1 : Nat) (Option.some Jvm.ClassFile.FieldType.boolean), Jvm.Cond.code ({ cls := "java/lang/StringLatin1", name := "toBytes", desc := "(C)[B" } : Jvm.MethodName) jdk_43_method_46_code (1 : Nat) (Option.some (Jvm.ClassFile.FieldType.array Jvm.ClassFile.FieldType.byte)), Jvm.Cond.code ({ cls := "java/lang/String", name := "<init>", desc := "([BB)V" } : Jvm.MethodName) jdk_42_method_151_code (3 : Nat) (Option.none : Option Jvm.ClassFile.FieldType), Jvm.Cond.code ({ cls := "java/lang/Object", name := "<init>", desc := "()V" } : Jvm.MethodName) object_method_1_code (1 : Nat) (Option.none : Option Jvm.ClassFile.FieldType), Jvm.Cond.code ({ cls := "java/lang/String", name := "<init>", desc := "([C)V" } : Jvm.MethodName) jdk_42_method_3_code (2 : Nat) (Option.none : Option Jvm.ClassFile.FieldType), Jvm.Cond.code ({ cls := "java/lang/String", name := "<init>", desc := "([CIILjava/lang/Void;)V" } : Jvm.MethodName) jdk_42_method_149_code (6 : Nat) (Option.none : Option Jvm.ClassFile.FieldType), Jvm.Cond.code ({ cls := "java/lang/StringUTF16", name := "compress", desc := "([CII)[B" } : Jvm.MethodName) jdk_52_method_16_code (6 : Nat) (Option.some (Jvm.ClassFile.FieldType.array Jvm.ClassFile.FieldType.byte)), Jvm.Cond.code ({ cls := "java/lang/StringUTF16", name := "compress", desc := "([CI[BII)I" } : Jvm.MethodName) jdk_52_method_21_code (7 : Nat) (Option.some Jvm.ClassFile.FieldType.int), Jvm.Cond.code ({ cls := "java/lang/StringUTF16", name := "coderFromArrayLen", desc := "([BI)B" } : Jvm.MethodName) jdk_52_method_15_code (2 : Nat) (Option.some Jvm.ClassFile.FieldType.byte), Jvm.Cond.code ({ cls := "com/example/drain_shards/drainshards/DrainShardsException", name := "ofOtherStream", desc := "(Ljava/lang/String;Ljava/lang/String;Ljava/lang/String;)Lcom/example/drain_shards/drainshards/DrainShardsException;" } : Jvm.MethodName) prog_4_method_6_code (4 : Nat) (Option.some (Jvm.ClassFile.FieldType.object "com/example/drain_shards/drainshards/DrainShardsException")), Jvm.Cond.code ({ cls := "java/lang/StringBuilder", name := "<init>", desc := "()V" } : Jvm.MethodName) jdk_67_method_1_code (1 : Nat) (Option.none : Option Jvm.ClassFile.FieldType), Jvm.Cond.code ({ cls := "java/lang/AbstractStringBuilder", name := "<init>", desc := "(I)V" } : Jvm.MethodName) jdk_68_method_2_code (2 : Nat) (Option.none : Option Jvm.ClassFile.FieldType), Jvm.Cond.code ({ cls := "java/lang/StringBuilder", name := "append", desc := "(Ljava/lang/String;)Ljava/lang/StringBuilder;" } : Jvm.MethodName) jdk_67_method_7_code (2 : Nat) (Option.some (Jvm.ClassFile.FieldType.object "java/lang/StringBuilder")), Jvm.Cond.code ({ cls := "java/lang/AbstractStringBuilder", name := "append", desc := "(Ljava/lang/String;)Ljava/lang/AbstractStringBuilder;" } : Jvm.MethodName) jdk_68_method_22_code (3 : Nat) (Option.some (Jvm.ClassFile.FieldType.object "java/lang/AbstractStringBuilder")), Jvm.Cond.code ({ cls := "java/lang/String", name := "length", desc := "()I" } : Jvm.MethodName) jdk_42_method_54_code (1 : Nat) (Option.some Jvm.ClassFile.FieldType.int), Jvm.Cond.code ({ cls := "java/lang/String", name := "coder", desc := "()B" } : Jvm.MethodName) jdk_42_method_152_code (1 : Nat) (Option.some Jvm.ClassFile.FieldType.byte), Jvm.Cond.code ({ cls := "java/lang/AbstractStringBuilder", name := "ensureCapacityInternal", desc := "(I)V" } : Jvm.MethodName) jdk_68_method_9_code (3 : Nat) (Option.none : Option Jvm.ClassFile.FieldType), Jvm.Cond.code ({ cls := "java/lang/AbstractStringBuilder", name := "newCapacity", desc := "(I)I" } : Jvm.MethodName) jdk_68_method_10_code (6 : Nat) (Option.some Jvm.ClassFile.FieldType.int), Jvm.Cond.code ({ cls := "jdk/internal/util/ArraysSupport", name := "newLength", desc := "(III)I" } : Jvm.MethodName) jdk_48_method_27_code (4 : Nat) (Option.some Jvm.ClassFile.FieldType.int), Jvm.Cond.code ({ cls := "java/lang/Math", name := "max", desc := "(II)I" } : Jvm.MethodName) jdk_29_method_65_code (2 : Nat) (Option.some Jvm.ClassFile.FieldType.int), Jvm.Cond.code ({ cls := "java/util/Arrays", name := "copyOf", desc := "([BI)[B" } : Jvm.MethodName) jdk_65_method_121_code (3 : Nat) (Option.some (Jvm.ClassFile.FieldType.array Jvm.ClassFile.FieldType.byte)), Jvm.Cond.code ({ cls := "java/lang/Math", name := "min", desc := "(II)I" } : Jvm.MethodName) jdk_29_method_69_code (2 : Nat) (Option.some Jvm.ClassFile.FieldType.int), Jvm.Cond.code ({ cls := "java/lang/AbstractStringBuilder", name := "putStringAt", desc := "(ILjava/lang/String;)V" } : Jvm.MethodName) jdk_68_method_73_code (3 : Nat) (Option.none : Option Jvm.ClassFile.FieldType), Jvm.Cond.code ({ cls := "java/lang/AbstractStringBuilder", name := "inflateIfNeededFor", desc := "(Ljava/lang/String;)V" } : Jvm.MethodName) jdk_68_method_71_code (2 : Nat) (Option.none : Option Jvm.ClassFile.FieldType), Jvm.Cond.code ({ cls := "java/lang/String", name := "getBytes", desc := "([BIB)V" } : Jvm.MethodName) jdk_42_method_147_code (4 : Nat) (Option.none : Option Jvm.ClassFile.FieldType), Jvm.Cond.code ({ cls := "java/lang/StringBuilder", name := "toString", desc := "()Ljava/lang/String;" } : Jvm.MethodName) jdk_67_method_42_code (1 : Nat) (Option.some (Jvm.ClassFile.FieldType.object "java/lang/String")), Jvm.Cond.code ({ cls := "java/lang/String", name := "<init>", desc := "(Ljava/lang/StringBuilder;)V" } : Jvm.MethodName) jdk_42_method_53_code (2 : Nat) (Option.none : Option Jvm.ClassFile.FieldType), Jvm.Cond.code ({ cls := "java/lang/String", name := "<init>", desc := "(Ljava/lang/AbstractStringBuilder;Ljava/lang/Void;)V" } : Jvm.MethodName) jdk_42_method_150_code (5 : Nat) (Option.none : Option Jvm.ClassFile.FieldType), Jvm.Cond.code ({ cls := "java/lang/AbstractStringBuilder", name := "getValue", desc := "()[B" } : Jvm.MethodName) jdk_68_method_64_code (1 : Nat) (Option.some (Jvm.ClassFile.FieldType.array Jvm.ClassFile.FieldType.byte)), Jvm.Cond.code ({ cls := "java/lang/StringBuilder", name := "length", desc := "()I" } : Jvm.MethodName) jdk_67_method_93_code (1 : Nat) (Option.some Jvm.ClassFile.FieldType.int), Jvm.Cond.code ({ cls := "java/lang/AbstractStringBuilder", name := "length", desc := "()I" } : Jvm.MethodName) jdk_68_method_6_code (1 : Nat) (Option.some Jvm.ClassFile.FieldType.int), Jvm.Cond.code ({ cls := "java/lang/AbstractStringBuilder", name := "isLatin1", desc := "()Z" } : Jvm.MethodName) jdk_68_method_68_code (1 : Nat) (Option.some Jvm.ClassFile.FieldType.boolean), Jvm.Cond.code ({ cls := "java/util/Arrays", name := "copyOfRange", desc := "([BII)[B" } : Jvm.MethodName) jdk_65_method_132_code (3 : Nat) (Option.some (Jvm.ClassFile.FieldType.array Jvm.ClassFile.FieldType.byte)), Jvm.Cond.code ({ cls := "java/util/Arrays", name := "copyOfRangeByte", desc := "([BII)[B" } : Jvm.MethodName) jdk_65_method_133_code (5 : Nat) (Option.some (Jvm.ClassFile.FieldType.array Jvm.ClassFile.FieldType.byte)), Jvm.Cond.code ({ cls := "java/util/Arrays", name := "checkLength", desc := "(II)V" } : Jvm.MethodName) jdk_65_method_131_code (2 : Nat) (Option.none : Option Jvm.ClassFile.FieldType), Jvm.Cond.code ({ cls := "com/example/drain_shards/drainshards/DrainShardsException", name := "<init>", desc := "(Ljava/lang/String;)V" } : Jvm.MethodName) prog_4_method_1_code (2 : Nat) (Option.none : Option Jvm.ClassFile.FieldType), Jvm.Cond.code ({ cls := "java/lang/RuntimeException", name := "<init>", desc := "(Ljava/lang/String;)V" } : Jvm.MethodName) jdk_58_method_2_code (2 : Nat) (Option.none : Option Jvm.ClassFile.FieldType), Jvm.Cond.code ({ cls := "java/lang/Exception", name := "<init>", desc := "(Ljava/lang/String;)V" } : Jvm.MethodName) jdk_59_method_2_code (2 : Nat) (Option.none : Option Jvm.ClassFile.FieldType), Jvm.Cond.code ({ cls := "java/lang/Throwable", name := "<init>", desc := "(Ljava/lang/String;)V" } : Jvm.MethodName) jdk_78_method_2_code (2 : Nat) (Option.none : Option Jvm.ClassFile.FieldType), Jvm.Cond.code ({ cls := "java/lang/Throwable", name := "<init>", desc := "()V" } : Jvm.MethodName) jdk_78_method_1_code (1 : Nat) (Option.none : Option Jvm.ClassFile.FieldType), Jvm.Cond.code ({ cls := "java/lang/Throwable", name := "getMessage", desc := "()Ljava/lang/String;" } : Jvm.MethodName) jdk_78_method_6_code (1 : Nat) (Option.some (Jvm.ClassFile.FieldType.object "java/lang/String")), Jvm.Cond.code ({ cls := "java/lang/String", name := "equals", desc := "(Ljava/lang/Object;)Z" } : Jvm.MethodName) jdk_42_method_66_code (3 : Nat) (Option.some Jvm.ClassFile.FieldType.boolean), Jvm.Cond.code ({ cls := "java/lang/StringLatin1", name := "equals", desc := "([B[B)Z" } : Jvm.MethodName) jdk_43_method_13_code (3 : Nat) (Option.some Jvm.ClassFile.FieldType.boolean)]
set_option maxRecDepth 65536 in
theorem codes_eq : words1.filter isCode = codes1 := rfl
theorem w_codes : ∀ c ∈ words1.filter isCode, c.before args0 about1 = true := by
  rw [codes_eq]
  intro c hc
  simp only [codes1, List.mem_cons, List.not_mem_nil, or_false] at hc
  rcases hc with rfl | rfl | rfl | rfl | rfl | rfl | rfl | rfl | rfl | rfl | rfl | rfl | rfl | rfl | rfl | rfl | rfl | rfl | rfl | rfl | rfl | rfl | rfl | rfl | rfl | rfl | rfl | rfl | rfl | rfl | rfl | rfl | rfl | rfl | rfl | rfl | rfl | rfl | rfl | rfl | rfl | rfl | rfl | rfl | rfl
  · exact w_c0
  · exact w_c1
  · exact w_c2
  · exact w_c3
  · exact w_c4
  · exact w_c5
  · exact w_c6
  · exact w_c7
  · exact w_c8
  · exact w_c9
  · exact w_c10
  · exact w_c11
  · exact w_c12
  · exact w_c13
  · exact w_c14
  · exact w_c15
  · exact w_c16
  · exact w_c17
  · exact w_c18
  · exact w_c19
  · exact w_c20
  · exact w_c21
  · exact w_c22
  · exact w_c23
  · exact w_c24
  · exact w_c25
  · exact w_c26
  · exact w_c27
  · exact w_c28
  · exact w_c29
  · exact w_c30
  · exact w_c31
  · exact w_c32
  · exact w_c33
  · exact w_c34
  · exact w_c35
  · exact w_c36
  · exact w_c37
  · exact w_c38
  · exact w_c39
  · exact w_c40
  · exact w_c41
  · exact w_c42
  · exact w_c43
  · exact w_c44
set_option maxRecDepth 65536 in
theorem w_t1 : (words1.take 24).all (fun c => isCode c || c.before args0 about1) = true := by decide +kernel
set_option maxRecDepth 65536 in
theorem w_t2 : ((words1.drop 24).take 24).all (fun c => isCode c || c.before args0 about1) = true := by decide +kernel
set_option maxRecDepth 65536 in
theorem w_t3 : (((words1.drop 24).drop 24).take 24).all (fun c => isCode c || c.before args0 about1) = true := by decide +kernel
set_option maxRecDepth 65536 in
theorem w_t4 : ((((words1.drop 24).drop 24).drop 24).take 24).all (fun c => isCode c || c.before args0 about1) = true := by decide +kernel
set_option maxRecDepth 65536 in
theorem w_t5 : (((((words1.drop 24).drop 24).drop 24).drop 24).take 24).all (fun c => isCode c || c.before args0 about1) = true := by decide +kernel
set_option maxRecDepth 65536 in
theorem w_t6 : ((((((words1.drop 24).drop 24).drop 24).drop 24).drop 24).take 24).all (fun c => isCode c || c.before args0 about1) = true := by decide +kernel
set_option maxRecDepth 65536 in
theorem w_t7 : (((((((words1.drop 24).drop 24).drop 24).drop 24).drop 24).drop 24).take 24).all (fun c => isCode c || c.before args0 about1) = true := by decide +kernel
set_option maxRecDepth 65536 in
theorem w_t8 : ((((((((words1.drop 24).drop 24).drop 24).drop 24).drop 24).drop 24).drop 24).take 24).all (fun c => isCode c || c.before args0 about1) = true := by decide +kernel
set_option maxRecDepth 65536 in
theorem w_t9 : (((((((((words1.drop 24).drop 24).drop 24).drop 24).drop 24).drop 24).drop 24).drop 24).take 24).all (fun c => isCode c || c.before args0 about1) = true := by decide +kernel
set_option maxRecDepth 65536 in
theorem w_t10 : ((((((((((words1.drop 24).drop 24).drop 24).drop 24).drop 24).drop 24).drop 24).drop 24).drop 24).take 24).all (fun c => isCode c || c.before args0 about1) = true := by decide +kernel
set_option maxRecDepth 65536 in
theorem w_t11 : (((((((((((words1.drop 24).drop 24).drop 24).drop 24).drop 24).drop 24).drop 24).drop 24).drop 24).drop 24).take 24).all (fun c => isCode c || c.before args0 about1) = true := by decide +kernel
set_option maxRecDepth 65536 in
theorem w_t12 : (((((((((((words1.drop 24).drop 24).drop 24).drop 24).drop 24).drop 24).drop 24).drop 24).drop 24).drop 24).drop 24).all (fun c => isCode c || c.before args0 about1) = true := by decide +kernel
theorem w_tables : (allAtoms (Jvm.Cond.code x code maxLocals ret :: tables_1)).before args0 about1 = true := by
  rw [allAtoms_all]
  show words1.all (fun c => c.before args0 about1) = true
  refine all_split ?_ w_codes
  rw [← List.take_append_drop 24 words1, List.all_append, w_t1, ← List.take_append_drop 24 (words1.drop 24), List.all_append, w_t2, ← List.take_append_drop 24 ((words1.drop 24).drop 24), List.all_append, w_t3, ← List.take_append_drop 24 (((words1.drop 24).drop 24).drop 24), List.all_append, w_t4, ← List.take_append_drop 24 ((((words1.drop 24).drop 24).drop 24).drop 24), List.all_append, w_t5, ← List.take_append_drop 24 (((((words1.drop 24).drop 24).drop 24).drop 24).drop 24), List.all_append, w_t6, ← List.take_append_drop 24 ((((((words1.drop 24).drop 24).drop 24).drop 24).drop 24).drop 24), List.all_append, w_t7, ← List.take_append_drop 24 (((((((words1.drop 24).drop 24).drop 24).drop 24).drop 24).drop 24).drop 24), List.all_append, w_t8, ← List.take_append_drop 24 ((((((((words1.drop 24).drop 24).drop 24).drop 24).drop 24).drop 24).drop 24).drop 24), List.all_append, w_t9, ← List.take_append_drop 24 (((((((((words1.drop 24).drop 24).drop 24).drop 24).drop 24).drop 24).drop 24).drop 24).drop 24), List.all_append, w_t10, ← List.take_append_drop 24 ((((((((((words1.drop 24).drop 24).drop 24).drop 24).drop 24).drop 24).drop 24).drop 24).drop 24).drop 24), List.all_append, w_t11, w_t12]
  rfl
set_option maxRecDepth 65536 in
theorem w_rest : rest_1_c.before args0 about1 = true := by decide +kernel
set_option maxRecDepth 65536 in
theorem w_case : (Jvm.Cond.and given_1 narrow_1).before args0 about1 = true := by decide +kernel
set_option maxRecDepth 65536 in
theorem w_consts : constsHeld consts_1 about1 := Jvm.Lit.constsHeldB_iff.mp (by decide +kernel)
theorem w_applies : (headSpec (Jvm.Cond.code x code maxLocals ret :: tables_1) room_1).applies x e0.platform about1 = true :=
  (Spec.applies_iff w_frames).mpr ⟨w_running, w_runnable, w_alone, w_named, w_hears, w_ripe, w_room, w_tables⟩
theorem atStart : AtStart classFile x code maxLocals ret World_1 tables_1 room_1 Calls_1 rest_1 Pre_1 launch0 p0 e0 about1 theMethod args0 below0 :=
  ⟨lists_1, trivial, launch0.admits_env _ _ _, launch0.least_env, fairChoices_fair.cas, fairChoices_fair.clock, w_frames, w_args, w_heap, w_applies, ⟨(by decide +kernel : framesKnown about1 = true), ⟨(by decide +kernel : tablesKnown about1 = true), ⟨w_consts, trivial⟩⟩⟩, w_rest, w_case⟩
end start1
theorem witness_1 : WitnessClaimed_1 := ⟨start1.p0, start1.e0, start1.about1, start1.theMethod, start1.args0, start1.below0, start1.atStart⟩
end Jvm.Pilot.@@N@@
