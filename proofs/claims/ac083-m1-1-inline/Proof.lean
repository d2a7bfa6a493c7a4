import JvmDerived
import JvmDerived.Pilot.@@N@@Statement
import JvmDerived.Pilot.@@N@@Code
set_option linter.unusedVariables false
set_option linter.unusedSimpArgs false
namespace Jvm.OwnKit
open Sem ClassFile Op Lib Jvm.Stand Jvm.Free Jvm.LawKit Jvm.RoadKit
/-- the contract of a body: from these arguments at this heap it returns, and Q says what it left -/
abbrev Con (l : Launch) (Z : State) (y : MethodName) (bytes : ByteArray) (maxL : Nat) (ret : Option FieldType) (ws : List Jvm.Cond) (rm : Room) (as' : Array Value) (h0 : Heap) (Q : Option Value → Heap → List Loc → Prop) : Prop :=
  MetFree l y (head1 (Jvm.Cond.code y bytes maxL ret :: ws) rm) (fun a U => a = as' ∧ Z.Warmed39 U.vm ∧ U.heap = h0) (fun _ _ _ _ _ => True) (fun _ U o U' => ∃ v L, o = .returned v ∧ Q v U'.heap L ∧ FrameEnd U o U' L rm.cells rm.slots)
/-- how a body ends -/
abbrev EndQ (s : State) (rm : Room) (Q : Option Value → Heap → List Loc → Prop) : Outcome → State → Prop := fun o t => ∃ v L, o = .returned v ∧ Q v t.heap L ∧ FrameEnd s o t L rm.cells rm.slots
/-- from this frame on the body comes to its end, and Qe holds there -/
def OGo (p : Program) (e : Env) (below : List Frame) (Qe : Outcome → State → Prop) (T : State) (g : JFrame) : Prop :=
  ∃ s₂ o, Steps p.tables e below (T.setTop g) s₂ ∧ s₂.status = .running ∧ Ended s₂ below o ∧ Qe o s₂
section K
variable {p : Program} {l : Launch} {e : Env} {R : Room} {s : State} {m : MethodId} {args : Array Value} {below : List Frame} {meth : Method} {c : Code} {T T' : State} {locs : List Loc} {cells slots : Nat} {Qe : Outcome → State → Prop} {g g' : JFrame} {Z : State} {a0 : Array Value} {h : Heap}
theorem OGo.step (st : ∀ t, Steps p.tables e below (T'.setTop g') t → Steps p.tables e below (T.setTop g) t) (k : OGo p e below Qe T' g') : OGo p e below Qe T g := by
  obtain ⟨s₂, o, h1, h2⟩ := k
  exact ⟨s₂, o, st _ h1, h2⟩
theorem OGo.cast (q : g' = g) (k : OGo p e below Qe T g') : OGo p e below Qe T g := q ▸ k
theorem Con.intro {y : MethodName} {bytes : ByteArray} {maxL : Nat} {ret : Option FieldType} {ws : List Jvm.Cond} {rm : Room} {as' : Array Value} {h0 : Heap} {Q : Option Value → Heap → List Loc → Prop} (hpl : plainFor y = true)
    (body : ∀ (p : Program) (e : Env) (s : State) (m : MethodId) (below : List Frame) (meth : Method) (c : Code) (s₁ : State), p.tables.exec = Jvm.exec → c.code = bytes → c.maxLocals = maxL → s.vm.findClass y.cls = some m.cls →
      meth.sig.returnType = ret → meth.locks = false → Z.Warmed39 s.vm → meth.name = y.name → Stand p l e rm s m as' below meth c s₁ [] 0 0 → s₁.heap = h0 → OGo p e below (EndQ s rm Q) s₁ (entryFrame m as' maxL)) :
    Con l Z y bytes maxL ret ws rm as' h0 Q := by
  refine MetFree.of_bodySF hpl hisR ?_
  intro p e s m args below meth c s₁ Bd hml0 hP hK
  obtain ⟨rfl, hZ, hh⟩ := hP
  exact body p e s m below meth c s₁ Bd.exec Bd.bytes hml0 (findClass_of_methodNamed Bd.named) Bd.returns Bd.notSynchronized hZ (name_of_methodNamed Bd.named Bd.method).1 (Stand.of_body Bd) (by rw [← hh, Bd.state]; rfl)
theorem OGo.ret {Q : Option Value → Heap → List Loc → Prop} {rm : Room} (X : Stand p l e R s m args below meth c T locs cells slots) (hx : p.tables.exec = Jvm.exec) {pc : Nat} {Ls : Array Slot} {w : Value} {t : FieldType} {i : Instr} {rest : List Value} (hret : meth.sig.returnType = some t) (hlk : meth.locks = false) (hn : narrow t w = w)
    (hi : (i = .ireturn ∧ (t = .int ∨ t = .boolean ∨ t = .byte ∨ t = .char ∨ t = .short) ∧ ∃ z, w = .int z) ∨ (i = .lreturn ∧ t = .long ∧ ∃ z, w = .long z) ∨ (i = .dreturn ∧ t = .double ∧ ∃ z, w = .double z) ∨ (i = .freturn ∧ t = .float ∧ ∃ z, w = .float z) ∨ (i = .areturn ∧ t.isReference = true ∧ w.isRef = true))
    (hd : decode c.code pc = .ok (i, 1)) (hc : cells ≤ rm.cells) (hs : slots ≤ rm.slots) (hQ : Q (some w) T.heap locs) : OGo p e below (EndQ s rm Q) T (mkF m pc Ls (w :: rest)) := by
  obtain ⟨fs, hr, hrun, hended, hW, hsame⟩ := X.leave (v := some w) (fun h => by rw [hret] at h; cases h) hlk
  exact ⟨_, _, retOut X hx hret hn hi hd hr, hrun, hended, _, _, rfl, hQ, ⟨_, rfl⟩, hW, hsame.mono hc hs⟩
theorem OGo.retV {Q : Option Value → Heap → List Loc → Prop} {rm : Room} (X : Stand p l e R s m args below meth c T locs cells slots) (hx : p.tables.exec = Jvm.exec) {pc : Nat} {Ls : Array Slot} (hret : meth.sig.returnType = none) (hlk : meth.locks = false)
    (hd : decode c.code pc = .ok (.return_, 1)) (hc : cells ≤ rm.cells) (hs : slots ≤ rm.slots) (hQ : Q none T.heap locs) : OGo p e below (EndQ s rm Q) T (mkF m pc Ls []) := by
  obtain ⟨fs, hr, hrun, hended, hW, hsame⟩ := X.leave (v := none) (fun _ => rfl) hlk
  exact ⟨_, _, X.returnOut hx hret hd hr, hrun, hended, _, _, rfl, hQ, ⟨_, rfl⟩, hW, hsame.mono hc hs⟩
theorem riI {z : Int32} {t : FieldType} (ht : t = .int ∨ t = .boolean ∨ t = .byte ∨ t = .char ∨ t = .short) : (Instr.ireturn = .ireturn ∧ (t = .int ∨ t = .boolean ∨ t = .byte ∨ t = .char ∨ t = .short) ∧ ∃ y, Value.int z = .int y) ∨ (Instr.ireturn = .lreturn ∧ t = .long ∧ ∃ y, Value.int z = .long y) ∨ (Instr.ireturn = .dreturn ∧ t = .double ∧ ∃ y, Value.int z = .double y) ∨ (Instr.ireturn = .freturn ∧ t = .float ∧ ∃ y, Value.int z = .float y) ∨ (Instr.ireturn = .areturn ∧ t.isReference = true ∧ (Value.int z).isRef = true) := Or.inl ⟨rfl, ht, z, rfl⟩
/-- a static call by its contract -/
theorem scall (X : Stand p l e R s m args below meth c T locs cells slots) (hx : p.tables.exec = Jvm.exec) (hZ : Z.Warmed39 s.vm) {own : String} {index : Nat} {y : MethodName} {bytes : ByteArray} {maxL : Nat} {ret : Option FieldType} (hown : s.vm.findClass own = some m.cls)
    (w1 : (Jvm.Cond.methodLink own index y).before a0 Z = true) (w2 : (Jvm.Cond.static y).before a0 Z = true) (w3 : (Jvm.Cond.initialized y.cls).before a0 Z = true) (w4 : (Jvm.Cond.code y bytes maxL ret).before a0 Z = true) (hy : y.cls ≠ "java/lang/invoke/MethodHandle" ∧ y.cls ≠ "java/lang/invoke/VarHandle")
    {W : Nat} {rm : Room} {as' : Array Value} {Q : Option Value → Heap → List Loc → Prop} (hM : Con l Z y bytes maxL ret [] rm as' h Q) (eT : T.heap = h) (hf : rm.frames + 1 ≤ R.frames) (hl : W + (maxL + 11) + rm.locals ≤ R.locals) (hc : cells + rm.cells ≤ R.cells) (hs : slots + rm.slots ≤ R.slots)
    {g : JFrame} (hg : g.method = m) (hsize : g.locals.size = c.maxLocals) {argsL rest : List Value} {ps : List FieldType} {r : Option FieldType} (hpd : parseMethodDescriptor y.desc = some ⟨ps, r⟩) (hlen : argsL.length = ps.length) (hstack : g.stack = argsL.reverse ++ rest) (has : argsL.toArray = as') (hW : 2 * g.monitorRoom + (rest.map fun v => v.category).sum ≤ W)
    (hdg : decode c.code g.pc = .ok (.invokestatic index, 3)) :
    ∃ (v : Option Value) (T' : State) (L : List Loc), Stand p l e R s m args below meth c T' (locs ++ L) (cells + rm.cells) (slots + rm.slots) ∧ Q v T'.heap L ∧
      ∀ target, Steps p.tables e below (T'.setTop { g with pc := g.pc + 3, stack := v.toList ++ rest }) target → Steps p.tables e below (T.setTop g) target := by
  obtain ⟨v, vm₁, ⟨T', L', k', n'⟩, -, X', ⟨L, hQ, e1, e2, e3⟩, st⟩ := Jvm.LawKit.callS X hx hown (mvT hZ w1) (mvT hZ w2) (mvT hZ w3) (mvT hZ w4) hy (backOf (W := W) hM hZ w4 w3 hf hl) hg hsize (lenOf hpd hlen) hstack hW hdg (fun _ _ => ⟨has, eT, hc, hs⟩)
  dsimp only [Pt.U, Pt.locs, Pt.cells, Pt.slots] at X' e1 e2 e3 st hQ
  subst e1 e2 e3
  exact ⟨v, T', L, X', hQ, st⟩
/-- a constructor by its contract -/
theorem icall (X : Stand p l e R s m args below meth c T locs cells slots) (hx : p.tables.exec = Jvm.exec) (hZ : Z.Warmed39 s.vm) {own : String} {index : Nat} {y : MethodName} {bytes : ByteArray} {maxL : Nat} (hy1 : y.name = "<init>") (hown : s.vm.findClass own = some m.cls)
    (w1 : (Jvm.Cond.methodLink own index y).before a0 Z = true) (w2 : (Jvm.Cond.instanceMethod y).before a0 Z = true) (w3 : (Jvm.Cond.initialized y.cls).before a0 Z = true) (w4 : (Jvm.Cond.code y bytes maxL none).before a0 Z = true) (hy : y.cls ≠ "java/lang/invoke/MethodHandle" ∧ y.cls ≠ "java/lang/invoke/VarHandle")
    {W : Nat} {rm : Room} {as' : Array Value} {Q : Option Value → Heap → List Loc → Prop} (hM : Con l Z y bytes maxL none [] rm as' h Q) (eT : T.heap = h) (hf : rm.frames + 1 ≤ R.frames) (hl : W + (maxL + 11) + rm.locals ≤ R.locals) (hc : cells + rm.cells ≤ R.cells) (hs : slots + rm.slots ≤ R.slots)
    {g : JFrame} (hg : g.method = m) (hsize : g.locals.size = c.maxLocals) {a : Addr} {argsL rest : List Value} {ps : List FieldType} {r : Option FieldType} (hpd : parseMethodDescriptor y.desc = some ⟨ps, r⟩) (hlen : argsL.length = ps.length) (hstack : g.stack = argsL.reverse ++ .ref a :: rest) (has : (Value.ref a :: argsL).toArray = as') (hW : 2 * g.monitorRoom + (rest.map fun v => v.category).sum ≤ W)
    (hdg : decode c.code g.pc = .ok (.invokespecial index, 3)) :
    ∃ (v : Option Value) (T' : State) (L : List Loc), Stand p l e R s m args below meth c T' (locs ++ L) (cells + rm.cells) (slots + rm.slots) ∧ Q v T'.heap L ∧
      ∀ target, Steps p.tables e below (T'.setTop { g with pc := g.pc + 3, stack := v.toList ++ rest }) target → Steps p.tables e below (T.setTop g) target := by
  obtain ⟨v, vm₁, ⟨T', L', k', n'⟩, -, X', ⟨L, hQ, e1, e2, e3⟩, st⟩ := X.specialBack hx hy1 hown (mvT hZ w1) (mvT hZ w2) (mvT hZ w4) hy (backOf (W := W) hM hZ w4 w3 hf hl) hg hsize (Steps.refl _) (lenOf hpd hlen) hstack hW hdg (fun _ _ => ⟨has, eT, hc, hs⟩)
  dsimp only [Pt.U, Pt.locs, Pt.cells, Pt.slots] at X' e1 e2 e3 st hQ
  subst e1 e2 e3
  exact ⟨v, T', L, X', hQ, fun t k => st.trans k⟩
theorem own_nf {C : String} {x' y z : MethodName} (w : (Jvm.Cond.selects C x' z).before args s = true) (hz : z.cls = y.cls) : NotFace s y := fun r0 h0 => by
  obtain ⟨c2, r2, m2, q1, q2, q3, q4, kP, hkP, hkPi⟩ := Cond.selects_spec w
  have a := findClass_of_methodNamed q3
  have b := findClass_of_methodNamed h0
  rw [hz] at a
  have e : m2.cls = r0.cls := Option.some.inj (a.symm.trans b)
  exact ⟨kP, e ▸ hkP, hkPi⟩
/-- an instance method by the contract of the body that is selected -/
theorem vcall (X : Stand p l e R s m args below meth c T locs cells slots) (hx : p.tables.exec = Jvm.exec) (hZ : Z.Warmed39 s.vm) {own C : String} {index : Nat} {y z : MethodName} {bytes : ByteArray} {maxL : Nat} {ret : Option FieldType} (hown : s.vm.findClass own = some m.cls)
    (w1 : (Jvm.Cond.methodLink own index y).before a0 Z = true) (w2 : (Jvm.Cond.declares y).before a0 Z = true) {C2 : String} {x2 z2 : MethodName} (w7 : (Jvm.Cond.selects C2 x2 z2).before a0 Z = true) (h7 : z2.cls = y.cls) (w5 : (Jvm.Cond.selects C y z).before a0 Z = true) (w6 : (Jvm.Cond.instanceMethod z).before a0 Z = true) (w3 : (Jvm.Cond.initialized z.cls).before a0 Z = true) (w4 : (Jvm.Cond.code z bytes maxL ret).before a0 Z = true) (hy : y.cls ≠ "java/lang/invoke/MethodHandle" ∧ y.cls ≠ "java/lang/invoke/VarHandle")
    {W : Nat} {rm : Room} {as' : Array Value} {Q : Option Value → Heap → List Loc → Prop} (hM : Con l Z z bytes maxL ret [] rm as' h Q) (eT : T.heap = h) (hf : rm.frames + 1 ≤ R.frames) (hl : W + (maxL + 11) + rm.locals ≤ R.locals) (hc : cells + rm.cells ≤ R.cells) (hs : slots + rm.slots ≤ R.slots)
    {g : JFrame} (hg : g.method = m) (hsize : g.locals.size = c.maxLocals) {a : Addr} (E : Exa Z h a C) {argsL rest : List Value} {ps : List FieldType} {r : Option FieldType} (hpd : parseMethodDescriptor y.desc = some ⟨ps, r⟩) (hlen : argsL.length = ps.length) (hstack : g.stack = argsL.reverse ++ .ref a :: rest) (has : (Value.ref a :: argsL).toArray = as') (hW : 2 * g.monitorRoom + (rest.map fun v => v.category).sum ≤ W)
    (hdg : decode c.code g.pc = .ok (.invokevirtual index, 3)) :
    ∃ (v : Option Value) (T' : State) (L : List Loc), Stand p l e R s m args below meth c T' (locs ++ L) (cells + rm.cells) (slots + rm.slots) ∧ Q v T'.heap L ∧
      ∀ target, Steps p.tables e below (T'.setTop { g with pc := g.pc + 3, stack := v.toList ++ rest }) target → Steps p.tables e below (T.setTop g) target := by
  obtain ⟨cq, kq, qa, qb, qc⟩ := isOf hZ eT E
  obtain ⟨v, vm₁, ⟨T', L', k', n'⟩, -, X', ⟨L, hQ, e1, e2, e3⟩, st⟩ := X.virtualBack hx hown (mvT hZ w1) (mvT hZ w2) (own_nf (args := #[]) (mvT hZ w7) h7) (mvT hZ w5) (mvT hZ w6) hy (backOf (W := W) hM hZ w4 w3 hf hl) qa qc hg hsize (Steps.refl _) (lenOf hpd hlen) hstack hW hdg (fun _ _ => ⟨has, eT, hc, hs⟩)
  dsimp only [Pt.U, Pt.locs, Pt.cells, Pt.slots] at X' e1 e2 e3 st hQ
  subst e1 e2 e3
  exact ⟨v, T', L, X', hQ, fun t k => st.trans k⟩
/-- a private instance method by its contract -/
theorem pcall (X : Stand p l e R s m args below meth c T locs cells slots) (hx : p.tables.exec = Jvm.exec) (hZ : Z.Warmed39 s.vm) {own C C' : String} {index : Nat} {y : MethodName} {bytes : ByteArray} {maxL : Nat} {ret : Option FieldType} (hown : s.vm.findClass own = some m.cls)
    (w1 : (Jvm.Cond.methodLink own index y).before a0 Z = true) (w2 : (Jvm.Cond.instanceMethod y).before a0 Z = true) (w5 : (Jvm.Cond.selects C' y y).before a0 Z = true) (w6 : (Jvm.Cond.privateMethod y).before a0 Z = true) (w3 : (Jvm.Cond.initialized y.cls).before a0 Z = true) (w4 : (Jvm.Cond.code y bytes maxL ret).before a0 Z = true) (hy : y.cls ≠ "java/lang/invoke/MethodHandle" ∧ y.cls ≠ "java/lang/invoke/VarHandle")
    {W : Nat} {rm : Room} {as' : Array Value} {Q : Option Value → Heap → List Loc → Prop} (hM : Con l Z y bytes maxL ret [] rm as' h Q) (eT : T.heap = h) (hf : rm.frames + 1 ≤ R.frames) (hl : W + (maxL + 11) + rm.locals ≤ R.locals) (hc : cells + rm.cells ≤ R.cells) (hs : slots + rm.slots ≤ R.slots)
    {g : JFrame} (hg : g.method = m) (hsize : g.locals.size = c.maxLocals) {a : Addr} (E : Exa Z h a C) {argsL rest : List Value} {ps : List FieldType} {r : Option FieldType} (hpd : parseMethodDescriptor y.desc = some ⟨ps, r⟩) (hlen : argsL.length = ps.length) (hstack : g.stack = argsL.reverse ++ .ref a :: rest) (has : (Value.ref a :: argsL).toArray = as') (hW : 2 * g.monitorRoom + (rest.map fun v => v.category).sum ≤ W)
    (hdg : decode c.code g.pc = .ok (.invokevirtual index, 3)) :
    ∃ (v : Option Value) (T' : State) (L : List Loc), Stand p l e R s m args below meth c T' (locs ++ L) (cells + rm.cells) (slots + rm.slots) ∧ Q v T'.heap L ∧
      ∀ target, Steps p.tables e below (T'.setTop { g with pc := g.pc + 3, stack := v.toList ++ rest }) target → Steps p.tables e below (T.setTop g) target := by
  obtain ⟨cq, q1, q2⟩ := E.cell
  have hp := Cond.privateMethod_at (mvP hZ w6 (args := #[]))
  have hsel : (Jvm.Cond.selects y.cls y y).before args s = true := by
    have w5' : (Jvm.Cond.selects C' y y).before args s = true := mvT hZ w5
    obtain ⟨c2, r2, m2, -, -, q3, -, kP, hkP, hkPi⟩ := Cond.selects_spec w5'
    exact selects_self_of_private (findClass_of_methodNamed q3) hkP hkPi hp (mvT hZ w2) hy
  obtain ⟨v, vm₁, ⟨T', L', k', n'⟩, -, X', ⟨L, hQ, e1, e2, e3⟩, st⟩ := X.privateBack hx hown (mvT hZ w1) (mvT hZ w2) hsel hp (mvT hZ w4) hy (backOf (W := W) hM hZ w4 w3 hf hl) hg hsize (Steps.refl _) (by rw [eT]; exact q1) q2 (lenOf hpd hlen) hstack hW hdg (fun _ _ => ⟨has, eT, hc, hs⟩)
  dsimp only [Pt.U, Pt.locs, Pt.cells, Pt.slots] at X' e1 e2 e3 st hQ
  subst e1 e2 e3
  exact ⟨v, T', L, X', hQ, fun t k => st.trans k⟩
theorem own_same {C : String} {x' y z : MethodName} (w : (Jvm.Cond.selects C x' z).before a0 Z = true) (hz : z.cls = y.cls) (wi : (Jvm.Cond.instanceMethod y).before a0 Z = true) (hy : y.cls ≠ "java/lang/invoke/MethodHandle" ∧ y.cls ≠ "java/lang/invoke/VarHandle") : (Jvm.Cond.sameMethod y.cls y.cls y.name y.desc).before a0 Z = true := by
  obtain ⟨mk, methM, hnamed, hmethM, -, -⟩ := Cond.instanceMethod_spec wi
  obtain ⟨c2, r2, m2, -, -, q3, -, kP, hkP, hkPi⟩ := Cond.selects_spec w
  have hc := findClass_of_methodNamed hnamed
  have hc2 := findClass_of_methodNamed q3
  rw [hz] at hc2
  have e : m2.cls = mk.cls := Option.some.inj (hc2.symm.trans hc)
  rw [e] at hkP
  have hfound : Z.methodFound? y.cls y.name y.desc = some mk := State.methodFound?_of_named hnamed hy
  have hn : Z.methodNamed? ⟨y.cls, y.name, y.desc⟩ = some mk := hnamed
  simp only [Cond.before, Cond.holds, Cond.value, hc, hfound, hn, hkP]
  simp [hkPi]
/-- super.m(..) by its contract -/
theorem ucall (X : Stand p l e R s m args below meth c T locs cells slots) (hx : p.tables.exec = Jvm.exec) (hZ : Z.Warmed39 s.vm) {own C : String} {index : Nat} {y : MethodName} {bytes : ByteArray} {maxL : Nat} {ret : Option FieldType} (hown : s.vm.findClass own = some m.cls)
    (w1 : (Jvm.Cond.methodLink own index y).before a0 Z = true) (w2 : (Jvm.Cond.sameMethod y.cls y.cls y.name y.desc).before a0 Z = true) (w5 : (Jvm.Cond.instanceMethod y).before a0 Z = true) (w6 : (Jvm.Cond.superclass own y.cls).before a0 Z = true) (w3 : (Jvm.Cond.initialized y.cls).before a0 Z = true) (w4 : (Jvm.Cond.code y bytes maxL ret).before a0 Z = true) (hy : y.name ≠ "<init>")
    {W : Nat} {rm : Room} {as' : Array Value} {Q : Option Value → Heap → List Loc → Prop} (hM : Con l Z y bytes maxL ret [] rm as' h Q) (eT : T.heap = h) (hf : rm.frames + 1 ≤ R.frames) (hl : W + (maxL + 11) + rm.locals ≤ R.locals) (hc : cells + rm.cells ≤ R.cells) (hs : slots + rm.slots ≤ R.slots)
    {g : JFrame} (hg : g.method = m) (hsize : g.locals.size = c.maxLocals) {a : Addr} (E : Exa Z h a C) {argsL rest : List Value} {ps : List FieldType} {r : Option FieldType} (hpd : parseMethodDescriptor y.desc = some ⟨ps, r⟩) (hlen : argsL.length = ps.length) (hstack : g.stack = argsL.reverse ++ .ref a :: rest) (has : (Value.ref a :: argsL).toArray = as') (hW : 2 * g.monitorRoom + (rest.map fun v => v.category).sum ≤ W)
    (hdg : decode c.code g.pc = .ok (.invokespecial index, 3)) :
    ∃ (v : Option Value) (T' : State) (L : List Loc), Stand p l e R s m args below meth c T' (locs ++ L) (cells + rm.cells) (slots + rm.slots) ∧ Q v T'.heap L ∧
      ∀ target, Steps p.tables e below (T'.setTop { g with pc := g.pc + 3, stack := v.toList ++ rest }) target → Steps p.tables e below (T.setTop g) target := by
  obtain ⟨v, vm₁, ⟨T', L', k', n'⟩, -, X', ⟨L, hQ, e1, e2, e3⟩, st⟩ := superBack X hx hZ hown w1 w2 w5 w6 hy (backOf (W := W) hM hZ w4 w3 hf hl) eT (Ins.self E) hg hsize w4 (lenOf hpd hlen) hstack hW hdg (fun _ _ => ⟨has, eT, hc, hs⟩)
  dsimp only [Pt.U, Pt.locs, Pt.cells, Pt.slots] at X' e1 e2 e3 st hQ
  subst e1 e2 e3
  exact ⟨v, T', L, X', hQ, fun t k => st.trans k⟩
variable {a : Addr} {k : ClassId} {ty : FieldType} {z j : Int32} {vs : List Value} {dv v : Value}
theorem alenV (X : Stand p l e R s m args below meth c T locs cells slots) (hx : p.tables.exec = Jvm.exec) (hZ : Z.Warmed39 s.vm) (eT : T.heap = h) (F : Arv Z h a k ty z vs dv) {g : JFrame} (hg : g.method = m) {rest : List Value} (hst : g.stack = .ref a :: rest) (hd : decode c.code g.pc = .ok (.arraylength, 1)) (target : State)
    (hr : Steps p.tables e below (T.setTop { g with pc := g.pc + 1, stack := .int z :: rest }) target) : Steps p.tables e below (T.setTop g) target := by
  obtain ⟨cl, Ar, -, S, N, -, -⟩ := F
  refine X.arraylength hx (by rw [eT]; exact Ar.1) (State.isArrayOf_alike hZ.alike Ar.2.1) hg hst hd _ ?_
  rw [len_of S N]
  exact hr
theorem caloadV (X : Stand p l e R s m args below meth c T locs cells slots) (hx : p.tables.exec = Jvm.exec) (hZ : Z.Warmed39 s.vm) (eT : T.heap = h) (F : Arv Z h a k .char z vs dv) (hj : ¬ j < 0 ∧ j < z) (hat : vs.getD j.toNatClampNeg dv = v) {g : JFrame} (hg : g.method = m) {rest : List Value} (hst : g.stack = .int j :: .ref a :: rest) (hd : decode c.code g.pc = .ok (.caload, 1)) (target : State)
    (hr : Steps p.tables e below (T.setTop { g with pc := g.pc + 1, stack := v :: rest }) target) : Steps p.tables e below (T.setTop g) target := by
  obtain ⟨cl, Ar, -, S, N, H, -⟩ := F
  exact X.caload hx (by rw [eT]; exact Ar.1) (State.isArrayOf_alike hZ.alike Ar.2.1) Ar.2.2 (inb_of S hj) (H.at (inb_of S hj) hat) hg hst hd _ hr
theorem baloadV (X : Stand p l e R s m args below meth c T locs cells slots) (hx : p.tables.exec = Jvm.exec) (hZ : Z.Warmed39 s.vm) (eT : T.heap = h) (F : Arv Z h a k .byte z vs dv) (hj : ¬ j < 0 ∧ j < z) (hat : vs.getD j.toNatClampNeg dv = v) {g : JFrame} (hg : g.method = m) {rest : List Value} (hst : g.stack = .int j :: .ref a :: rest) (hd : decode c.code g.pc = .ok (.baload, 1)) (target : State)
    (hr : Steps p.tables e below (T.setTop { g with pc := g.pc + 1, stack := v :: rest }) target) : Steps p.tables e below (T.setTop g) target := by
  obtain ⟨cl, Ar, -, S, N, H, -⟩ := F
  exact X.baloadBytes hx (by rw [eT]; exact Ar.1) (State.isArrayOf_alike hZ.alike Ar.2.1) Ar.2.2 (inb_of S hj) (H.at (inb_of S hj) hat) hg hst hd _ hr
theorem ialoadV (X : Stand p l e R s m args below meth c T locs cells slots) (hx : p.tables.exec = Jvm.exec) (hZ : Z.Warmed39 s.vm) (eT : T.heap = h) (F : Arv Z h a k .int z vs dv) (hj : ¬ j < 0 ∧ j < z) (hat : vs.getD j.toNatClampNeg dv = v) {g : JFrame} (hg : g.method = m) {rest : List Value} (hst : g.stack = .int j :: .ref a :: rest) (hd : decode c.code g.pc = .ok (.iaload, 1)) (target : State)
    (hr : Steps p.tables e below (T.setTop { g with pc := g.pc + 1, stack := v :: rest }) target) : Steps p.tables e below (T.setTop g) target := by
  obtain ⟨cl, Ar, -, S, N, H, -⟩ := F
  exact X.iaload hx (by rw [eT]; exact Ar.1) (State.isArrayOf_alike hZ.alike Ar.2.1) Ar.2.2 (inb_of S hj) (H.at (inb_of S hj) hat) hg hst hd _ hr
theorem laloadV (X : Stand p l e R s m args below meth c T locs cells slots) (hx : p.tables.exec = Jvm.exec) (hZ : Z.Warmed39 s.vm) (eT : T.heap = h) (F : Arv Z h a k .long z vs dv) (hj : ¬ j < 0 ∧ j < z) (hat : vs.getD j.toNatClampNeg dv = v) {g : JFrame} (hg : g.method = m) {rest : List Value} (hst : g.stack = .int j :: .ref a :: rest) (hd : decode c.code g.pc = .ok (.laload, 1)) (target : State)
    (hr : Steps p.tables e below (T.setTop { g with pc := g.pc + 1, stack := v :: rest }) target) : Steps p.tables e below (T.setTop g) target := by
  obtain ⟨cl, Ar, -, S, N, H, -⟩ := F
  exact X.laload hx (by rw [eT]; exact Ar.1) (State.isArrayOf_alike hZ.alike Ar.2.1) Ar.2.2 (inb_of S hj) (H.at (inb_of S hj) hat) hg hst hd _ hr
theorem aaloadV (X : Stand p l e R s m args below meth c T locs cells slots) (hx : p.tables.exec = Jvm.exec) (hZ : Z.Warmed39 s.vm) (eT : T.heap = h) (F : Arv Z h a k ty z vs dv) (hty : ty.isReference = true) (hj : ¬ j < 0 ∧ j < z) (hat : vs.getD j.toNatClampNeg dv = v) {g : JFrame} (hg : g.method = m) {rest : List Value} (hst : g.stack = .int j :: .ref a :: rest) (hd : decode c.code g.pc = .ok (.aaload, 1)) (target : State)
    (hr : Steps p.tables e below (T.setTop { g with pc := g.pc + 1, stack := v :: rest }) target) : Steps p.tables e below (T.setTop g) target := by
  obtain ⟨cl, Ar, -, S, N, H, -⟩ := F
  exact X.aaload hx (by rw [eT]; exact Ar.1) (State.isArrayOf_alike hZ.alike Ar.2.1) hty Ar.2.2 (inb_of S hj) (H.at (inb_of S hj) hat) hg hst hd _ hr
theorem castoreV (X : Stand p l e R s m args below meth c T locs cells slots) (hx : p.tables.exec = Jvm.exec) (hZ : Z.Warmed39 s.vm) (eT : T.heap = h) (F : Arv Z h a k .char z vs dv) {j x : Int32} (hj : ¬ j < 0 ∧ j < z) (hi : j.toNatClampNeg < vs.length) {g : JFrame} (hg : g.method = m) {rest : List Value} (hst : g.stack = .int x :: .int j :: .ref a :: rest) (hd : decode c.code g.pc = .ok (.castore, 1)) :
    ∃ T' h', Stand p l e R s m args below meth c T' (locs ++ [⟨a, j.toNatClampNeg⟩]) cells slots ∧ T'.heap = h' ∧ Wr h h' a j.toNatClampNeg (.int (nar .char x)) ∧ Arv Z h' a k .char z (vs.set j.toNatClampNeg (.int (nar .char x))) dv ∧ ∀ target, Steps p.tables e below (T'.setTop { g with pc := g.pc + 1, stack := rest }) target → Steps p.tables e below (T.setTop g) target := by
  obtain ⟨cl, Ar, q, S, N, H, G⟩ := F
  obtain ⟨T', h', X', e', W, st⟩ := stC X hx hZ eT Ar (j := j) (x := x) (inb_of S hj) hg hst hd
  exact ⟨T', h', X', e', W, Arv.set Ar q S N H G (fits_nar_char _) W _ rfl hi, st⟩
theorem bastoreV (X : Stand p l e R s m args below meth c T locs cells slots) (hx : p.tables.exec = Jvm.exec) (hZ : Z.Warmed39 s.vm) (eT : T.heap = h) (F : Arv Z h a k .byte z vs dv) {j x : Int32} (hj : ¬ j < 0 ∧ j < z) (hi : j.toNatClampNeg < vs.length) {g : JFrame} (hg : g.method = m) {rest : List Value} (hst : g.stack = .int x :: .int j :: .ref a :: rest) (hd : decode c.code g.pc = .ok (.bastore, 1)) :
    ∃ T' h', Stand p l e R s m args below meth c T' (locs ++ [⟨a, j.toNatClampNeg⟩]) cells slots ∧ T'.heap = h' ∧ Wr h h' a j.toNatClampNeg (.int (nar .byte x)) ∧ Arv Z h' a k .byte z (vs.set j.toNatClampNeg (.int (nar .byte x))) dv ∧ ∀ target, Steps p.tables e below (T'.setTop { g with pc := g.pc + 1, stack := rest }) target → Steps p.tables e below (T.setTop g) target := by
  obtain ⟨cl, Ar, q, S, N, H, G⟩ := F
  obtain ⟨T', h', X', e', W, st⟩ := stB X hx hZ eT Ar (j := j) (x := x) (inb_of S hj) hg hst hd
  exact ⟨T', h', X', e', W, Arv.set Ar q S N H G (fits_nar_byte _) W _ rfl hi, st⟩
theorem lastoreV (X : Stand p l e R s m args below meth c T locs cells slots) (hx : p.tables.exec = Jvm.exec) (hZ : Z.Warmed39 s.vm) (eT : T.heap = h) (F : Arv Z h a k .long z vs dv) {j : Int32} {x : Int64} (hj : ¬ j < 0 ∧ j < z) (hi : j.toNatClampNeg < vs.length) {g : JFrame} (hg : g.method = m) {rest : List Value} (hst : g.stack = .long x :: .int j :: .ref a :: rest) (hd : decode c.code g.pc = .ok (.lastore, 1)) :
    ∃ T' h', Stand p l e R s m args below meth c T' (locs ++ [⟨a, j.toNatClampNeg⟩]) cells slots ∧ T'.heap = h' ∧ Wr h h' a j.toNatClampNeg (.long x) ∧ Arv Z h' a k .long z (vs.set j.toNatClampNeg (.long x)) dv ∧ ∀ target, Steps p.tables e below (T'.setTop { g with pc := g.pc + 1, stack := rest }) target → Steps p.tables e below (T.setTop g) target := by
  obtain ⟨cl, Ar, q, S, N, H, G⟩ := F
  obtain ⟨T', h', X', e', W, st⟩ := stJ X hx hZ eT Ar (j := j) (inb_of S hj) hg hst hd
  exact ⟨T', h', X', e', W, Arv.set Ar q S N H G rfl W _ rfl hi, st⟩
end K
end Jvm.OwnKit
namespace Jvm.OwnKit
open Sem ClassFile Op Lib Jvm.Stand Jvm.Free Jvm.LawKit Jvm.RoadKit
/-- the contract of a body that may load String constants: those of EL hold their text before and behind it -/
abbrev ConH (l : Launch) (Z : State) (EL : List (String × Nat)) (y : MethodName) (bytes : ByteArray) (maxL : Nat) (ret : Option FieldType) (ws : List Jvm.Cond) (rm : Room) (as' : Array Value) (h0 : Heap) (Q : Option Value → Heap → List Loc → Prop) : Prop :=
  MetFree l y (head1 (Jvm.Cond.code y bytes maxL ret :: ws) rm) (fun a U => a = as' ∧ Z.Warmed39 U.vm ∧ U.heap = h0 ∧ CHv Z EL U.vm h0) (fun _ _ _ _ _ => True) (fun _ U o U' => ∃ v L, o = .returned v ∧ Q v U'.heap L ∧ CHr Z EL U.vm U.heap U'.vm U'.heap ∧ ReturnedEndW U o U' L rm.cells rm.slots)
abbrev EndH (Z : State) (EL : List (String × Nat)) (s : State) (rm : Room) (Q : Option Value → Heap → List Loc → Prop) : Outcome → State → Prop := fun o t => ∃ v L, o = .returned v ∧ Q v t.heap L ∧ CHr Z EL s.vm s.heap t.vm t.heap ∧ ReturnedEndW s o t L rm.cells rm.slots
section K
variable {p : Program} {l : Launch} {e : Env} {R : Room} {s : State} {m : MethodId} {args : Array Value} {below : List Frame} {meth : Method} {c : Code} {T T' : State} {locs : List Loc} {cells slots : Nat} {Qe : Outcome → State → Prop} {g g' : JFrame} {Z : State} {a0 : Array Value} {h : Heap} {EL : List (String × Nat)} {vm : Vm} {k0 : Nat}
theorem ConH.intro {y : MethodName} {bytes : ByteArray} {maxL : Nat} {ret : Option FieldType} {ws : List Jvm.Cond} {rm : Room} {as' : Array Value} {h0 : Heap} {Q : Option Value → Heap → List Loc → Prop} (hpl : plainFor y = true)
    (body : ∀ (p : Program) (e : Env) (s : State) (m : MethodId) (below : List Frame) (meth : Method) (c : Code) (s₁ : State), p.tables.exec = Jvm.exec → c.code = bytes → c.maxLocals = maxL → s.vm.findClass y.cls = some m.cls →
      meth.sig.returnType = ret → meth.locks = false → Z.Warmed39 s.vm → meth.name = y.name → Stand p l e rm (s.setVm s.vm) m as' below meth c s₁ [] 0 0 → s₁.heap = h0 → s.heap = h0 → s.Since s.vm 0 → CHv Z EL s.vm h0 → CHr Z EL s.vm h0 s.vm h0 → OGo p e below (EndH Z EL s rm Q) s₁ (entryFrame m as' maxL)) :
    ConH l Z EL y bytes maxL ret ws rm as' h0 Q := by
  refine MetFree.of_bodySF hpl hisR ?_
  intro p e s m args below meth c s₁ Bd hml0 hP hK
  obtain ⟨rfl, hZ, hh, hH⟩ := hP
  exact body p e s m below meth c s₁ Bd.exec Bd.bytes hml0 (findClass_of_methodNamed Bd.named) Bd.returns Bd.notSynchronized hZ (name_of_methodNamed Bd.named Bd.method).1 (Stand.of_body Bd) (by rw [← hh, Bd.state]; rfl) hh ((State.WarmedH.refl s).since 0) hH (CHr.refl hH)
theorem OGo.retH {Q : Option Value → Heap → List Loc → Prop} {rm : Room} {h0 : Heap} (X : Stand p l e R (s.setVm vm) m args below meth c T locs cells slots) (hx : p.tables.exec = Jvm.exec) (hZ : Z.Warmed39 vm) (hEL : EW Z a0 EL) (hs0 : s.heap = h0) (eT : T.heap = h) (hS : s.Since vm k0) (hk : k0 ≤ h.size) (H : CHv Z EL vm h) (hR : CHr Z EL s.vm h0 vm h) {pc : Nat} {Ls : Array Slot} {w : Value} {t : FieldType} {i : Instr} {rest : List Value} (hret : meth.sig.returnType = some t) (hlk : meth.locks = false) (hn : narrow t w = w)
    (hi : (i = .ireturn ∧ (t = .int ∨ t = .boolean ∨ t = .byte ∨ t = .char ∨ t = .short) ∧ ∃ z, w = .int z) ∨ (i = .lreturn ∧ t = .long ∧ ∃ z, w = .long z) ∨ (i = .dreturn ∧ t = .double ∧ ∃ z, w = .double z) ∨ (i = .freturn ∧ t = .float ∧ ∃ z, w = .float z) ∨ (i = .areturn ∧ t.isReference = true ∧ w.isRef = true))
    (hd : decode c.code pc = .ok (i, 1)) (hc : cells ≤ rm.cells) (hs : slots ≤ rm.slots) (hQ : Q (some w) h locs) : OGo p e below (EndH Z EL s rm Q) T (mkF m pc Ls (w :: rest)) := by
  subst eT
  obtain ⟨fs, hr, hrun, hended, q1, q2, q3, q4⟩ := X.leaveW hS hk (v := some w) (fun h => by rw [hret] at h; cases h) hlk
  exact ⟨_, _, retOut X hx hret hn hi hd hr, hrun, hended, _, _, rfl, hQ, (by rw [hs0]; have q := hR.trans (CHv.at X hZ hEL H); exact q), q1, q2, q3, q4.mono hc hs⟩
theorem OGo.retHV {Q : Option Value → Heap → List Loc → Prop} {rm : Room} {h0 : Heap} (X : Stand p l e R (s.setVm vm) m args below meth c T locs cells slots) (hx : p.tables.exec = Jvm.exec) (hZ : Z.Warmed39 vm) (hEL : EW Z a0 EL) (hs0 : s.heap = h0) (eT : T.heap = h) (hS : s.Since vm k0) (hk : k0 ≤ h.size) (H : CHv Z EL vm h) (hR : CHr Z EL s.vm h0 vm h) {pc : Nat} {Ls : Array Slot} (hret : meth.sig.returnType = none) (hlk : meth.locks = false)
    (hd : decode c.code pc = .ok (.return_, 1)) (hc : cells ≤ rm.cells) (hs : slots ≤ rm.slots) (hQ : Q none h locs) : OGo p e below (EndH Z EL s rm Q) T (mkF m pc Ls []) := by
  subst eT
  obtain ⟨fs, hr, hrun, hended, q1, q2, q3, q4⟩ := X.leaveW hS hk (v := none) (fun _ => rfl) hlk
  exact ⟨_, _, X.returnOut hx hret hd hr, hrun, hended, _, _, rfl, hQ, (by rw [hs0]; have q := hR.trans (CHv.at X hZ hEL H); exact q), q1, q2, q3, q4.mono hc hs⟩
theorem scallH (X : Stand p l e R (s.setVm vm) m args below meth c T locs cells slots) (hx : p.tables.exec = Jvm.exec) (hZ : Z.Warmed39 vm) {own : String} {index : Nat} {y : MethodName} {bytes : ByteArray} {maxL : Nat} {ret : Option FieldType} (hown : vm.findClass own = some m.cls)
    (hEL : EW Z a0 EL) (hS : s.Since vm k0) (hk : k0 ≤ h.size) (H : CHv Z EL vm h)
    (w1 : (Jvm.Cond.methodLink own index y).before a0 Z = true) (w2 : (Jvm.Cond.static y).before a0 Z = true) (w3 : (Jvm.Cond.initialized y.cls).before a0 Z = true) (w4 : (Jvm.Cond.code y bytes maxL ret).before a0 Z = true) (hy : y.cls ≠ "java/lang/invoke/MethodHandle" ∧ y.cls ≠ "java/lang/invoke/VarHandle")
    {W : Nat} {rm : Room} {as' : Array Value} {Q : Option Value → Heap → List Loc → Prop} (hM : ConH l Z EL y bytes maxL ret [] rm as' h Q) (eT : T.heap = h) (hf : rm.frames + 1 ≤ R.frames) (hl : W + (maxL + 11) + rm.locals ≤ R.locals) (hc : cells + rm.cells ≤ R.cells) (hs : slots + rm.slots ≤ R.slots)
    {g : JFrame} (hg : g.method = m) (hsize : g.locals.size = c.maxLocals) {argsL rest : List Value} {ps : List FieldType} {r : Option FieldType} (hpd : parseMethodDescriptor y.desc = some ⟨ps, r⟩) (hlen : argsL.length = ps.length) (hstack : g.stack = argsL.reverse ++ rest) (has : argsL.toArray = as') (hW : 2 * g.monitorRoom + (rest.map fun v => v.category).sum ≤ W)
    (hdg : decode c.code g.pc = .ok (.invokestatic index, 3)) :
    ∃ (v : Option Value) (T' : State) (L : List Loc) (k1 : Nat), Stand p l e R (s.setVm T'.vm) m args below meth c T' (locs ++ L) (cells + rm.cells) (slots + rm.slots) ∧ s.Since T'.vm k1 ∧ k1 ≤ T'.heap.size ∧ Z.Warmed39 T'.vm ∧ T'.vm.findClass own = some m.cls ∧ CHr Z EL vm h T'.vm T'.heap ∧ Q v T'.heap L ∧
      ∀ target, Steps p.tables e below (T'.setTop { g with pc := g.pc + 3, stack := v.toList ++ rest }) target → Steps p.tables e below (T.setTop g) target := by
  subst eT
  obtain ⟨v, vm₁, ⟨T', L', k', n'⟩, -, X', hS', hgr, ⟨L, hQ, e1, e2, e3, hR⟩, st⟩ := callSS X hx hown (mvT (s := s.setVm vm) hZ w1) (mvT (s := s.setVm vm) hZ w2) (mvT (s := s.setVm vm) hZ w3) (mvT (s := s.setVm vm) hZ w4) hy (backOfSH (s := s) (W := W) hM hZ w4 w3 hf hl hEL H) hg hsize (lenOf hpd hlen) hstack hW hdg (fun _ _ => ⟨has, rfl, hc, hs⟩)
  dsimp only [Pt.U, Pt.locs, Pt.cells, Pt.slots] at X' e1 e2 e3 st hQ hS' hgr hR
  subst e1 e2 e3
  exact ⟨v, T', L, _, X', hS.trans hS' (Nat.le_trans hk hgr), Nat.le_refl _, State.Warmed39.trans (t := s.setVm vm) hZ hS'.1, by rw [hS'.1.alike.findClass]; exact hown, hR, hQ, fun t k => st.trans k⟩
theorem icallH (X : Stand p l e R (s.setVm vm) m args below meth c T locs cells slots) (hx : p.tables.exec = Jvm.exec) (hZ : Z.Warmed39 vm) {own : String} {index : Nat} {y : MethodName} {bytes : ByteArray} {maxL : Nat} (hy1 : y.name = "<init>") (hown : vm.findClass own = some m.cls)
    (hEL : EW Z a0 EL) (hS : s.Since vm k0) (hk : k0 ≤ h.size) (H : CHv Z EL vm h)
    (w1 : (Jvm.Cond.methodLink own index y).before a0 Z = true) (w2 : (Jvm.Cond.instanceMethod y).before a0 Z = true) (w3 : (Jvm.Cond.initialized y.cls).before a0 Z = true) (w4 : (Jvm.Cond.code y bytes maxL none).before a0 Z = true) (hy : y.cls ≠ "java/lang/invoke/MethodHandle" ∧ y.cls ≠ "java/lang/invoke/VarHandle")
    {W : Nat} {rm : Room} {as' : Array Value} {Q : Option Value → Heap → List Loc → Prop} (hM : ConH l Z EL y bytes maxL none [] rm as' h Q) (eT : T.heap = h) (hf : rm.frames + 1 ≤ R.frames) (hl : W + (maxL + 11) + rm.locals ≤ R.locals) (hc : cells + rm.cells ≤ R.cells) (hs : slots + rm.slots ≤ R.slots)
    {g : JFrame} (hg : g.method = m) (hsize : g.locals.size = c.maxLocals) {a : Addr} {argsL rest : List Value} {ps : List FieldType} {r : Option FieldType} (hpd : parseMethodDescriptor y.desc = some ⟨ps, r⟩) (hlen : argsL.length = ps.length) (hstack : g.stack = argsL.reverse ++ .ref a :: rest) (has : (Value.ref a :: argsL).toArray = as') (hW : 2 * g.monitorRoom + (rest.map fun v => v.category).sum ≤ W)
    (hdg : decode c.code g.pc = .ok (.invokespecial index, 3)) :
    ∃ (v : Option Value) (T' : State) (L : List Loc) (k1 : Nat), Stand p l e R (s.setVm T'.vm) m args below meth c T' (locs ++ L) (cells + rm.cells) (slots + rm.slots) ∧ s.Since T'.vm k1 ∧ k1 ≤ T'.heap.size ∧ Z.Warmed39 T'.vm ∧ T'.vm.findClass own = some m.cls ∧ CHr Z EL vm h T'.vm T'.heap ∧ Q v T'.heap L ∧
      ∀ target, Steps p.tables e below (T'.setTop { g with pc := g.pc + 3, stack := v.toList ++ rest }) target → Steps p.tables e below (T.setTop g) target := by
  subst eT
  obtain ⟨v, vm₁, ⟨T', L', k', n'⟩, -, X', hS', hgr, ⟨L, hQ, e1, e2, e3, hR⟩, st⟩ := X.specialBackS hx hy1 hown (mvT (s := s.setVm vm) hZ w1) (mvT (s := s.setVm vm) hZ w2) (mvT (s := s.setVm vm) hZ w4) hy (backOfSH (s := s) (W := W) hM hZ w4 w3 hf hl hEL H) hg hsize (Steps.refl _) (lenOf hpd hlen) hstack hW hdg (fun _ _ => ⟨has, rfl, hc, hs⟩)
  dsimp only [Pt.U, Pt.locs, Pt.cells, Pt.slots] at X' e1 e2 e3 st hQ hS' hgr hR
  subst e1 e2 e3
  exact ⟨v, T', L, _, X', hS.trans hS' (Nat.le_trans hk hgr), Nat.le_refl _, State.Warmed39.trans (t := s.setVm vm) hZ hS'.1, by rw [hS'.1.alike.findClass]; exact hown, hR, hQ, fun t k => st.trans k⟩
theorem vcallH (X : Stand p l e R (s.setVm vm) m args below meth c T locs cells slots) (hx : p.tables.exec = Jvm.exec) (hZ : Z.Warmed39 vm) {own C : String} {index : Nat} {y z : MethodName} {bytes : ByteArray} {maxL : Nat} {ret : Option FieldType} (hown : vm.findClass own = some m.cls)
    (hEL : EW Z a0 EL) (hS : s.Since vm k0) (hk : k0 ≤ h.size) (H : CHv Z EL vm h)
    (w1 : (Jvm.Cond.methodLink own index y).before a0 Z = true) (w2 : (Jvm.Cond.declares y).before a0 Z = true) {C2 : String} {x2 z2 : MethodName} (w7 : (Jvm.Cond.selects C2 x2 z2).before a0 Z = true) (h7 : z2.cls = y.cls) (w5 : (Jvm.Cond.selects C y z).before a0 Z = true) (w6 : (Jvm.Cond.instanceMethod z).before a0 Z = true) (w3 : (Jvm.Cond.initialized z.cls).before a0 Z = true) (w4 : (Jvm.Cond.code z bytes maxL ret).before a0 Z = true) (hy : y.cls ≠ "java/lang/invoke/MethodHandle" ∧ y.cls ≠ "java/lang/invoke/VarHandle")
    {W : Nat} {rm : Room} {as' : Array Value} {Q : Option Value → Heap → List Loc → Prop} (hM : ConH l Z EL z bytes maxL ret [] rm as' h Q) (eT : T.heap = h) (hf : rm.frames + 1 ≤ R.frames) (hl : W + (maxL + 11) + rm.locals ≤ R.locals) (hc : cells + rm.cells ≤ R.cells) (hs : slots + rm.slots ≤ R.slots)
    {g : JFrame} (hg : g.method = m) (hsize : g.locals.size = c.maxLocals) {a : Addr} (E : Exa Z h a C) {argsL rest : List Value} {ps : List FieldType} {r : Option FieldType} (hpd : parseMethodDescriptor y.desc = some ⟨ps, r⟩) (hlen : argsL.length = ps.length) (hstack : g.stack = argsL.reverse ++ .ref a :: rest) (has : (Value.ref a :: argsL).toArray = as') (hW : 2 * g.monitorRoom + (rest.map fun v => v.category).sum ≤ W)
    (hdg : decode c.code g.pc = .ok (.invokevirtual index, 3)) :
    ∃ (v : Option Value) (T' : State) (L : List Loc) (k1 : Nat), Stand p l e R (s.setVm T'.vm) m args below meth c T' (locs ++ L) (cells + rm.cells) (slots + rm.slots) ∧ s.Since T'.vm k1 ∧ k1 ≤ T'.heap.size ∧ Z.Warmed39 T'.vm ∧ T'.vm.findClass own = some m.cls ∧ CHr Z EL vm h T'.vm T'.heap ∧ Q v T'.heap L ∧
      ∀ target, Steps p.tables e below (T'.setTop { g with pc := g.pc + 3, stack := v.toList ++ rest }) target → Steps p.tables e below (T.setTop g) target := by
  subst eT
  obtain ⟨cq, kq, qa, qb, qc⟩ := isOf (s := s.setVm vm) hZ rfl E
  obtain ⟨v, vm₁, ⟨T', L', k', n'⟩, -, X', hS', hgr, ⟨L, hQ, e1, e2, e3, hR⟩, st⟩ := X.virtualBackS hx hown (mvT (s := s.setVm vm) hZ w1) (mvT (s := s.setVm vm) hZ w2) (own_nf (args := #[]) (mvT (s := s.setVm vm) hZ w7) h7) (mvT (s := s.setVm vm) hZ w5) (mvT (s := s.setVm vm) hZ w6) hy (backOfSH (s := s) (W := W) hM hZ w4 w3 hf hl hEL H) qa qc hg hsize (Steps.refl _) (lenOf hpd hlen) hstack hW hdg (fun _ _ => ⟨has, rfl, hc, hs⟩)
  dsimp only [Pt.U, Pt.locs, Pt.cells, Pt.slots] at X' e1 e2 e3 st hQ hS' hgr hR
  subst e1 e2 e3
  exact ⟨v, T', L, _, X', hS.trans hS' (Nat.le_trans hk hgr), Nat.le_refl _, State.Warmed39.trans (t := s.setVm vm) hZ hS'.1, by rw [hS'.1.alike.findClass]; exact hown, hR, hQ, fun t k => st.trans k⟩
/-- a String whose value is null yet is none of the booked constants -/
theorem own_safeNull {x : Addr} (hal : Z.vm.Alike vm) (E : Exa Z h x "java/lang/String") (F : Fld Z h x "java/lang/String" "value" "[B" .null) : Safe Z EL vm h x := fun B => by
  obtain ⟨cell, k, e1, e2, e3, -, -⟩ := E
  obtain ⟨cell', cf, k1, i1, f, g1, g2, -, -, -, -, g7⟩ := F
  cases g1.symm.trans e1
  have nm : ∀ {n : String} {c : ClassId}, vm.findClass n = some c → c = cell.cls → n = "java/lang/String" := fun {n c} f e => by
    subst e
    rw [hal.findClass] at f
    obtain ⟨k1, q1, q2⟩ := Vm.findClass_spec f
    obtain ⟨k2, q3, q4⟩ := Vm.findClass_spec e2
    cases q1.symm.trans q3
    exact q2.symm.trans q4
  obtain ⟨p, -, u, a, -, q, -, S, rfl | rfl⟩ := B
  · cases (show h[q.sa]? = some q.sC from S.ha).symm.trans e1
    obtain ⟨cS, ⟨L1, -⟩, -⟩ := S
    obtain ⟨-, -, -, ⟨c5, k5, i5, ff, -⟩, -, -, -, sv, -⟩ := L1
    obtain ⟨k6, zz⟩ := ff_back (Z := Z) (U := Wst Z vm h) hal ff
    cases zz.symm.trans g2
    rw [sv] at g7
    cases g7
  · cases (show h[q.sd]? = some q.SA from S.hd).symm.trans e1
    obtain ⟨cS, -, -, f, -⟩ := S
    exact absurd (nm f rfl) (by decide)
end K
end Jvm.OwnKit
namespace Jvm.Pilot.@@N@@
open Jvm Jvm.ClassFile Sem Op Lib Jvm.Free Jvm.Stand Jvm.LawKit Jvm.RoadKit Jvm.OwnKit Bundle Jvm.Pilot.@@N@@.Jvm.D

theorem own_toInt {n : Nat} (h : n < 2147483648) : (Int32.ofNat n).toInt = (n : Int) := Int32.toInt_ofNat_of_lt h
theorem own_nn {n : Nat} (h : n < 2147483648) : ¬ (Int32.ofNat n) < 0 := by
  rw [Int32.lt_iff_toInt_lt, own_toInt h]; show ¬ (n : Int) < 0; omega
theorem own_cl {n : Nat} (h : n < 2147483648) : (Int32.ofNat n).toNatClampNeg = n := by
  show (Int32.ofNat n).toInt.toNat = n
  rw [own_toInt h]; omega
theorem own_lt {a b : Nat} (ha : a < 2147483648) (hb : b < 2147483648) : Int32.ofNat a < Int32.ofNat b ↔ a < b := by
  rw [Int32.lt_iff_toInt_lt, own_toInt ha, own_toInt hb]; omega
theorem own_shr0 (x : Int32) : x >>> ((0 : Int32) &&& 31) = x := by
  apply Int32.toInt_inj.mp
  have h := c_ishr x 0 0 (by decide)
  rw [h]; simp
theorem own_shl0 (x : Int32) : x <<< ((0 : Int32) &&& 31) = x := by
  have h := c_ishl x 0 0 (by decide)
  have h1 := rng32 x
  have h2 := rng32 (x <<< ((0 : Int32) &&& 31))
  exact Int32.toInt_inj.mp (by omega)
theorem own_range (us : List Value) (d : Value) : ((List.range us.length).map fun i => us.getD (0 + i) d) = us := by
  apply List.ext_getElem
  · simp
  · intro i h1 h2
    simp at h1 h2 ⊢
    simp [h2]
/-- a String at a, its bytes us in the array d -/
def STI (Z : State) (h : Heap) (a d : Addr) (k : ClassId) (us : List Value) : Prop := Exa Z h a "java/lang/String" ∧ Fld Z h a "java/lang/String" "coder" "B" (.int (0 : Int32)) ∧ Fld Z h a "java/lang/String" "value" "[B" (.ref d) ∧ Arv Z h d k .byte (Int32.ofNat us.length) us (.int (0 : Int32))
/-- a StringBuilder at b that holds the bytes bs in the array d of length z -/
def SBI (Z : State) (h : Heap) (b d : Addr) (k : ClassId) (z : Int32) (bs : List Value) : Prop := Exa Z h b "java/lang/StringBuilder" ∧ Fld Z h b "java/lang/AbstractStringBuilder" "value" "[B" (.ref d) ∧ Fld Z h b "java/lang/AbstractStringBuilder" "coder" "B" (.int (0 : Int32)) ∧ Fld Z h b "java/lang/AbstractStringBuilder" "count" "I" (.int (Int32.ofNat bs.length)) ∧ Arv Z h d k .byte z bs (.int (0 : Int32))
/-- what the named sets say of the JDK's statics -/
def own_SS (Z : State) (zc : Int32) (wf : Value) : Prop := zc ≠ 0 ∧ Sta Z Z.heap "java/lang/String" "COMPACT_STRINGS" "Z" (.int zc) ∧ wf.isRef = true ∧ Sta Z Z.heap "jdk/internal/util/Preconditions" "SIOOBE_FORMATTER" "Ljava/util/function/BiFunction;" wf
theorem own_cp {p : Program} {l : Launch} {e : Env} {R : Room} {s : State} {m : MethodId} {args : Array Value} {below : List Frame} {meth : Method} {c : Code} {T : State} {locs : List Loc} {cells slots : Nat} {Z : State} {a0 : Array Value} {h : Heap} {a b : Addr} {k k' : ClassId}
    (X : Stand p l e R s m args below meth c T locs cells slots) (hx : p.tables.exec = Jvm.exec) (hZ : Z.Warmed39 s.vm) {own : String} {index : Nat} (hown : s.vm.findClass own = some m.cls)
    (w1 : (Jvm.Cond.methodLink own index Jvm.Stand.acN).before a0 Z = true) (w2 : (Jvm.Cond.native Jvm.Stand.acN).before a0 Z = true) (w3 : (Jvm.Cond.static Jvm.Stand.acN).before a0 Z = true) (w4 : (Jvm.Cond.initialized "java/lang/System").before a0 Z = true) (eT : T.heap = h)
    {zs z : Int32} {us bs : List Value} (A : Arv Z h a k .byte zs us (.int (0 : Int32))) (B : Arv Z h b k' .byte z bs (.int (0 : Int32))) (hs1 : us.length ≤ zs.toNatClampNeg) (hs2 : bs.length + us.length ≤ z.toNatClampNeg) (hb : us.length < 2147483648) (hb2 : bs.length < 2147483648)
    {n0 : Nat} (N : Fr n0 locs) (ge : n0 ≤ b) {g : JFrame} (hg : g.method = m) (hsize : g.locals.size = c.maxLocals) {rest : List Value} (hs : g.stack = .int (Int32.ofNat us.length) :: .int (Int32.ofNat bs.length) :: .ref b :: .int (0 : Int32) :: .ref a :: rest) (hd : decode c.code g.pc = .ok (.invokestatic index, 3))
    (hf : 1 ≤ R.frames) {W : Nat} (hW : 2 * g.monitorRoom + (rest.map fun v => v.category).sum ≤ W) (hlo : W + (nativeFrameWords "java/lang/System" "arraycopy" 5 + 11) ≤ R.locals) :
    ∃ T' h' L, Stand p l e R s m args below meth c T' L cells slots ∧ T'.heap = h' ∧ Fr n0 L ∧ Keep h h' [b] ∧ Arv Z h' b k' .byte z (bs ++ us) (.int (0 : Int32)) ∧
      ∀ target, Steps p.tables e below (T'.setTop { g with pc := g.pc + 3, stack := rest }) target → Steps p.tables e below (T.setTop g) target := by
  have c1 := own_cl hb
  have c2 := own_cl hb2
  have c0 : (0 : Int32).toNatClampNeg = 0 := by decide
  have B' : Arv Z h b k' .byte z (bs ++ List.replicate us.length (.int (0 : Int32))) (.int (0 : Int32)) := B.pad (pad_rep _ _ _)
  obtain ⟨T', h', L, X', e', N', K', V', st⟩ := cpA X hx hZ hown w1 w2 w3 w4 eT (sp := 0) (dp := Int32.ofNat bs.length) (nn := Int32.ofNat us.length) (us := us) A B' (Or.inl ⟨rfl, rfl⟩) (by decide) (own_nn hb2) (own_nn hb) (by rw [c1, c0]; omega) (by rw [c1, c2]; exact hs2) (by rw [c1, c0]; exact (own_range us _).symm) (by rw [c1, c2]; simp) N ge hg hsize hs hd hf hW hlo
  refine ⟨T', h', L, X', e', N', K', ?_, st⟩
  rw [c1, c2] at V'
  have e1 : (bs ++ List.replicate us.length (Value.int (0 : Int32))).take bs.length ++ us ++ (bs ++ List.replicate us.length (Value.int (0 : Int32))).drop (bs.length + us.length) = bs ++ us := by
    simp [List.drop_append, List.take_append]
  rw [e1] at V'
  exact V'
theorem own_nar255 (x : Int32) : narrow .char (.int (x &&& 255)) = .int (x &&& 255) := by
  have h := Jvm.Free.XT.narrow_c (x &&& 255)
  rw [i2c_mask] at h
  exact h
theorem own_sub0 (x : Int32) : x - (0 : Int32) = x := by
  have h := c_isub x 0
  have h0 : (0 : Int32).toInt = 0 := rfl
  have h1 := rng32 x
  have h2 := rng32 (x - 0)
  exact Int32.toInt_inj.mp (by omega)
theorem own_addln {bs us : List Value} : Int32.ofNat bs.length + Int32.ofNat us.length = Int32.ofNat (bs ++ us).length := by
  rw [List.length_append, Int32.ofNat_add]
theorem own_clz {z : Int32} (h : ¬ z < 0) : z.toInt = (z.toNatClampNeg : Int) := nat_of h
theorem own_noroom {bs us : List Value} {z : Int32} (h : bs.length + us.length ≤ z.toNatClampNeg) (h0 : ¬ z < 0) : ¬ (0 : Int32) < (Int32.ofNat bs.length + Int32.ofNat us.length) - z := by
  have q := own_clz h0
  have r := rng32 z
  have hl : bs.length + us.length < 2147483648 := by omega
  rw [← Int32.ofNat_add, Int32.lt_iff_toInt_lt]
  have e := own_toInt hl
  have c := c_isub (Int32.ofNat (bs.length + us.length)) z
  have r2 := rng32 (Int32.ofNat (bs.length + us.length) - z)
  show ¬ (0 : Int) < _
  omega
def own_b8 (cs : List Int32) : List Value := cs.map fun x => Value.int x.toInt8.toInt32
def own_ok8 (cs : List Int32) : Prop := ∀ x ∈ cs, ¬ x < 0 ∧ ¬ (255 : Int32) < x
theorem own_b8_len (cs : List Int32) : (own_b8 cs).length = cs.length := by simp [own_b8]
theorem own_inc (i : Nat) : Int32.ofNat i + (1 : Int32) = Int32.ofNat (i + 1) := by rw [Int32.ofNat_add]; rfl
theorem own_i8i8 (x : Int32) : nar .byte x.toInt8.toInt32 = x.toInt8.toInt32 := by
  show x.toInt8.toInt32.toInt8.toInt32 = x.toInt8.toInt32
  rw [Int8.toInt8_toInt32]
theorem own_at {cs : List Int32} {i : Nat} {x d : Int32} (hi : cs[i]? = some x) (hb : i < 2147483648) : (cs.map Value.int).getD (Int32.ofNat i).toNatClampNeg (.int d) = .int x := by
  rw [own_cl hb]; simp [List.getD, hi]
theorem own_set {cs : List Int32} {i : Nat} {x : Int32} (hi : cs[i]? = some x) : (own_b8 (cs.take i) ++ List.replicate 1 (Value.int (0 : Int32))).set i (.int (nar .byte x.toInt8.toInt32)) = own_b8 (cs.take (i + 1)) := by
  obtain ⟨h, rfl⟩ := List.getElem?_eq_some_iff.mp hi
  have hl : (own_b8 (cs.take i)).length = i := by rw [own_b8_len]; simp; omega
  rw [own_i8i8, List.set_append_right _ _ (by omega), hl]
  simp only [Nat.sub_self, List.replicate, List.set_cons_zero]
  rw [List.take_succ_eq_append_getElem h]
  simp only [own_b8, List.map_append, List.map_cons, List.map_nil]
theorem own_cfal (n : Int32) : ((((n - n).toUInt32 >>> ((31 : Int32) &&& 31).toUInt32).toInt32).toInt8.toInt32) = (0 : Int32) := by
  have h : n - n = 0 := by
    have h1 := c_isub n n
    have h2 := rng32 (n - n)
    exact Int32.toInt_inj.mp (by show (n - n).toInt = 0; omega)
  rw [h]; decide
theorem own_one {ca b : Addr} {x1 x3 x4 x5 v : Int32} {s6 : Slot} (h : One s6) : storeLocals #[.val (.ref ca), .val (.int x1), .val (.ref b), .val (.int x3), .val (.int x4), .val (.int x5), s6] 6 (.int v) = some #[.val (.ref ca), .val (.int x1), .val (.ref b), .val (.int x3), .val (.int x4), .val (.int x5), .val (.int v)] := by
  rcases h with rfl | ⟨w, rfl, hw⟩
  · rfl
  · cases w <;> first | rfl | (simp [Value.category] at hw)
def own_EL : List (String × Nat) := [("com/example/fenced_rbac/fencedrbac/cli/Options$Option", 30), ("com/example/fenced_rbac/fencedrbac/cli/Options$Option", 36), ("com/example/fenced_rbac/fencedrbac/cli/Options$Option", 38), ("java/lang/String", 7)]
theorem own_hEL {Z : State} {a0 : Array Value} (hw : ∀ d ∈ tables_1, d.before a0 Z = true) : EW Z a0 own_EL := (EW.cons (hw _ (List.mem_of_getElem? (i := 115) rfl)) (by decide) (EW.cons (hw _ (List.mem_of_getElem? (i := 161) rfl)) (by decide) (EW.cons (hw _ (List.mem_of_getElem? (i := 162) rfl)) (by decide) (EW.cons (hw _ (List.mem_of_getElem? (i := 18) rfl)) (by decide) EW.nil))))
theorem own_wS {Z : State} {a0 : Array Value} (hw : ∀ d ∈ tables_1, d.before a0 Z = true) : ∀ a ∈ Bundle.stringAtoms, a.before a0 Z = true := fun a ha => by
  simp only [Bundle.stringAtoms, List.mem_cons, List.not_mem_nil, or_false] at ha
  rcases ha with rfl | rfl | rfl | rfl | rfl | rfl | rfl
  · exact (hw _ (List.mem_of_getElem? (i := 6) rfl))
  · exact (hw _ (List.mem_of_getElem? (i := 5) rfl))
  · exact (hw _ (List.mem_of_getElem? (i := 19) rfl))
  · exact (hw _ (List.mem_of_getElem? (i := 20) rfl))
  · exact (hw _ (List.mem_of_getElem? (i := 21) rfl))
  · exact (hw _ (List.mem_of_getElem? (i := 22) rfl))
  · exact (hw _ (List.mem_of_getElem? (i := 23) rfl))
theorem d_jdk_42_method_152_0 : decode jdk_42_method_152_code 0 = .ok (.getstatic 38, 3) := by decide +kernel
theorem d_jdk_42_method_152_3 : decode jdk_42_method_152_code 3 = .ok (.ifCond .eq 10, 3) := by decide +kernel
theorem d_jdk_42_method_152_6 : decode jdk_42_method_152_code 6 = .ok (.aload_n 0, 1) := by decide +kernel
theorem d_jdk_42_method_152_7 : decode jdk_42_method_152_code 7 = .ok (.getfield 15, 3) := by decide +kernel
theorem d_jdk_42_method_152_10 : decode jdk_42_method_152_code 10 = .ok (.goto 4, 3) := by decide +kernel
theorem d_jdk_42_method_152_14 : decode jdk_42_method_152_code 14 = .ok (.ireturn, 1) := by decide +kernel
theorem opl_rm_coder : plainFor (⟨"java/lang/String", "coder", "()B"⟩ : MethodName) = true := plainFor_of_name (by first | (simp [plainName, overriddenIn]; done) | decide +kernel)
set_option maxRecDepth 65536 in
set_option maxHeartbeats 40000000 in
theorem rm_coder (l : Launch) (Z : State) (a0 : Array Value) (hw : ∀ d ∈ tables_1, d.before a0 Z = true) (ws : List Jvm.Cond) (a : Addr) (zc : Int32) (wf : Value) (n0 : Nat) (h0 : Heap) (SS : own_SS Z zc wf) (O : Old Z n0 h0) (C : Fld Z h0 a "java/lang/String" "coder" "B" (.int (0 : Int32))) :
    Con l Z (⟨"java/lang/String", "coder", "()B"⟩ : MethodName) jdk_42_method_152_code 1 (some .byte) ws ({ frames := 0, cells := 0, slots := 0, locals := 0 } : Room) #[(.ref a)] h0 (fun v h L => v = some (.int (0 : Int32)) ∧ L = [] ∧ h = h0) := by
  refine Con.intro opl_rm_coder ?_
  intro p e s m below meth c s₁ hx hby hml hown hret hlk hZ hnm X0 e0
  obtain ⟨hzc, SC, hwf, SF⟩ := SS
  have Z0 : n0 ≤ h0.size := O.1 ▸ O.2.1
  have N0 := Fr.nil n0
  refine OGo.cast (g' := (mkF m 0 #[.val (.ref a)] [])) (by first | (simp [entryFrame, mkF, argsToLocals, Value.category]; done) | rfl) ?_
  show OGo p e below _ s₁ (mkF m 0 #[.val (.ref a)] [])
  obtain ⟨T1, X1, e1, st1⟩ := getS2 X0 hx hZ hown (host := "") (Or.inl (hw _ (List.mem_of_getElem? (i := 87) rfl))) Via.refl e0 (SC.ext O.2) (g := (mkF m 0 #[.val (.ref a)] [])) rfl (hb hby d_jdk_42_method_152_0)
  refine OGo.step st1 ?_
  show OGo p e below _ T1 (mkF m 3 #[.val (.ref a)] [(.int zc)])
  refine OGo.step (fun _ k => XS.ifNo X1.here hx rfl (hb hby d_jdk_42_method_152_3) rfl ((if0 _ _).trans (feq hzc).1) k) ?_
  show OGo p e below _ T1 (mkF m 6 #[.val (.ref a)] [])
  refine OGo.step (fun _ k => XS.aloadN X1.here hx rfl (hb hby d_jdk_42_method_152_6) rfl rfl k) ?_
  show OGo p e below _ T1 (mkF m 7 #[.val (.ref a)] [(.ref a)])
  obtain ⟨T2, X2, e2, st2⟩ := getF X1 hx hZ hown (host := "") (Or.inl (hw _ (List.mem_of_getElem? (i := 25) rfl))) Via.refl e1 C (g := (mkF m 7 #[.val (.ref a)] [(.ref a)])) rfl rfl (hb hby d_jdk_42_method_152_7)
  refine OGo.step st2 ?_
  show OGo p e below _ T2 (mkF m 10 #[.val (.ref a)] [(.int (0 : Int32))])
  refine OGo.step (fun _ k => XS.goto X2.here hx rfl (pc0 := 10) (pc' := 14) rfl (hb hby d_jdk_42_method_152_10) (by decide) (by decide) k) ?_
  show OGo p e below _ T2 (mkF m 14 #[.val (.ref a)] [(.int (0 : Int32))])
  exact OGo.ret X2 hx (t := .byte) hret hlk rfl (Or.inl ⟨rfl, by simp, _, rfl⟩) (hb hby d_jdk_42_method_152_14) (by decide) (by decide) ⟨rfl, rfl, e2⟩
theorem d_jdk_42_method_54_0 : decode jdk_42_method_54_code 0 = .ok (.aload_n 0, 1) := by decide +kernel
theorem d_jdk_42_method_54_1 : decode jdk_42_method_54_code 1 = .ok (.getfield 9, 3) := by decide +kernel
theorem d_jdk_42_method_54_4 : decode jdk_42_method_54_code 4 = .ok (.arraylength, 1) := by decide +kernel
theorem d_jdk_42_method_54_5 : decode jdk_42_method_54_code 5 = .ok (.aload_n 0, 1) := by decide +kernel
theorem opd_0 : parseMethodDescriptor "()B" = some ⟨[], some .byte⟩ := by decide +kernel
theorem d_jdk_42_method_54_6 : decode jdk_42_method_54_code 6 = .ok (.invokevirtual 335, 3) := by decide +kernel
theorem d_jdk_42_method_54_9 : decode jdk_42_method_54_code 9 = .ok (.ishr, 1) := by decide +kernel
theorem d_jdk_42_method_54_10 : decode jdk_42_method_54_code 10 = .ok (.ireturn, 1) := by decide +kernel
theorem opl_rm_length : plainFor (⟨"java/lang/String", "length", "()I"⟩ : MethodName) = true := plainFor_of_name (by first | (simp [plainName, overriddenIn]; done) | decide +kernel)
set_option maxRecDepth 65536 in
set_option maxHeartbeats 40000000 in
theorem rm_length (l : Launch) (Z : State) (a0 : Array Value) (hw : ∀ d ∈ tables_1, d.before a0 Z = true) (ws : List Jvm.Cond) (a d : Addr) (k : ClassId) (us : List Value) (zc : Int32) (wf : Value) (n0 : Nat) (h0 : Heap) (SS : own_SS Z zc wf) (O : Old Z n0 h0) (I : STI Z h0 a d k us) :
    Con l Z (⟨"java/lang/String", "length", "()I"⟩ : MethodName) jdk_42_method_54_code 1 (some .int) ws ({ frames := 1, cells := 0, slots := 0, locals := 13 } : Room) #[(.ref a)] h0 (fun v h L => v = some (.int (Int32.ofNat us.length)) ∧ L = [] ∧ h = h0) := by
  refine Con.intro opl_rm_length ?_
  intro p e s m below meth c s₁ hx hby hml hown hret hlk hZ hnm X0 e0
  have SS' := SS
  obtain ⟨hzc, SC, hwf, SF⟩ := SS
  have Z0 : n0 ≤ h0.size := O.1 ▸ O.2.1
  have N0 := Fr.nil n0
  obtain ⟨IE, IC, IF, IV⟩ := I
  refine OGo.cast (g' := (mkF m 0 #[.val (.ref a)] [])) (by first | (simp [entryFrame, mkF, argsToLocals, Value.category]; done) | rfl) ?_
  show OGo p e below _ s₁ (mkF m 0 #[.val (.ref a)] [])
  refine OGo.step (fun _ k => XS.aloadN X0.here hx rfl (hb hby d_jdk_42_method_54_0) rfl rfl k) ?_
  show OGo p e below _ s₁ (mkF m 1 #[.val (.ref a)] [(.ref a)])
  obtain ⟨T3, X3, e3, st3⟩ := getF X0 hx hZ hown (host := "") (Or.inl (hw _ (List.mem_of_getElem? (i := 24) rfl))) Via.refl e0 IF (g := (mkF m 1 #[.val (.ref a)] [(.ref a)])) rfl rfl (hb hby d_jdk_42_method_54_1)
  refine OGo.step st3 ?_
  show OGo p e below _ T3 (mkF m 4 #[.val (.ref a)] [(.ref d)])
  refine OGo.step (fun _ k => alenV X3 hx hZ e3 IV (g := (mkF m 4 #[.val (.ref a)] [(.ref d)])) rfl rfl (hb hby d_jdk_42_method_54_4) _ k) ?_
  show OGo p e below _ T3 (mkF m 5 #[.val (.ref a)] [(.int (Int32.ofNat us.length))])
  refine OGo.step (fun _ k => XS.aloadN X3.here hx rfl (hb hby d_jdk_42_method_54_5) rfl rfl k) ?_
  show OGo p e below _ T3 (mkF m 6 #[.val (.ref a)] [(.ref a), (.int (Int32.ofNat us.length))])
  obtain ⟨v4, T4, L4, X4, hQ4, st4⟩ := vcall X3 hx hZ hown (hw _ (List.mem_of_getElem? (i := 82) rfl)) (hw _ (List.mem_of_getElem? (i := 83) rfl)) (hw _ (List.mem_of_getElem? (i := 85) rfl)) rfl (hw _ (List.mem_of_getElem? (i := 85) rfl)) (hw _ (List.mem_of_getElem? (i := 84) rfl)) (hw _ (List.mem_of_getElem? (i := 6) rfl)) (hw _ (List.mem_of_getElem? (i := 86) rfl)) (by decide) (W := 1) (rm_coder l Z a0 hw [] a zc wf n0 h0 SS' O IC) e3 (by decide) (by decide) (by decide) (by decide) (g := (mkF m 6 #[.val (.ref a)] [(.ref a), (.int (Int32.ofNat us.length))])) rfl (by rw [hml]; rfl) IE (argsL := []) (rest := [(.int (Int32.ofNat us.length))]) opd_0 rfl rfl rfl (by show 2 * 0 + _ ≤ _; exact Nat.le_of_eq rfl) (hb hby d_jdk_42_method_54_6)
  obtain ⟨rfl, rfl, e4⟩ := hQ4
  rw [List.append_nil] at X4
  refine OGo.step st4 ?_
  show OGo p e below _ T4 (mkF m 9 #[.val (.ref a)] [(.int (0 : Int32)), (.int (Int32.ofNat us.length))])
  refine OGo.step (fun _ k => XS.ishr X4.here hx rfl (hb hby d_jdk_42_method_54_9) rfl k) ?_
  show OGo p e below _ T4 (mkF m 10 #[.val (.ref a)] [(.int ((Int32.ofNat us.length) >>> ((0 : Int32) &&& 31)))])
  rw [own_shr0]
  show OGo p e below _ T4 (mkF m 10 #[.val (.ref a)] [(.int (Int32.ofNat us.length))])
  exact OGo.ret X4 hx (t := .int) hret hlk rfl (Or.inl ⟨rfl, by simp, _, rfl⟩) (hb hby d_jdk_42_method_54_10) (by decide) (by decide) ⟨rfl, rfl, e4⟩
theorem d_jdk_42_method_154_0 : decode jdk_42_method_154_code 0 = .ok (.getstatic 38, 3) := by decide +kernel
theorem d_jdk_42_method_154_3 : decode jdk_42_method_154_code 3 = .ok (.ifCond .eq 14, 3) := by decide +kernel
theorem d_jdk_42_method_154_6 : decode jdk_42_method_154_code 6 = .ok (.aload_n 0, 1) := by decide +kernel
theorem d_jdk_42_method_154_7 : decode jdk_42_method_154_code 7 = .ok (.getfield 15, 3) := by decide +kernel
theorem d_jdk_42_method_154_10 : decode jdk_42_method_154_code 10 = .ok (.ifCond .ne 7, 3) := by decide +kernel
theorem d_jdk_42_method_154_13 : decode jdk_42_method_154_code 13 = .ok (.iconst 1, 1) := by decide +kernel
theorem d_jdk_42_method_154_14 : decode jdk_42_method_154_code 14 = .ok (.goto 4, 3) := by decide +kernel
theorem d_jdk_42_method_154_18 : decode jdk_42_method_154_code 18 = .ok (.ireturn, 1) := by decide +kernel
theorem opl_rm_isLatin1 : plainFor (⟨"java/lang/String", "isLatin1", "()Z"⟩ : MethodName) = true := plainFor_of_name (by first | (simp [plainName, overriddenIn]; done) | decide +kernel)
set_option maxRecDepth 65536 in
set_option maxHeartbeats 40000000 in
theorem rm_isLatin1 (l : Launch) (Z : State) (a0 : Array Value) (hw : ∀ d ∈ tables_1, d.before a0 Z = true) (ws : List Jvm.Cond) (a : Addr) (zc : Int32) (wf : Value) (n0 : Nat) (h0 : Heap) (SS : own_SS Z zc wf) (O : Old Z n0 h0) (C : Fld Z h0 a "java/lang/String" "coder" "B" (.int (0 : Int32))) :
    Con l Z (⟨"java/lang/String", "isLatin1", "()Z"⟩ : MethodName) jdk_42_method_154_code 1 (some .boolean) ws ({ frames := 0, cells := 0, slots := 0, locals := 0 } : Room) #[(.ref a)] h0 (fun v h L => v = some (.int (1 : Int32)) ∧ L = [] ∧ h = h0) := by
  refine Con.intro opl_rm_isLatin1 ?_
  intro p e s m below meth c s₁ hx hby hml hown hret hlk hZ hnm X0 e0
  obtain ⟨hzc, SC, hwf, SF⟩ := SS
  have Z0 : n0 ≤ h0.size := O.1 ▸ O.2.1
  have N0 := Fr.nil n0
  refine OGo.cast (g' := (mkF m 0 #[.val (.ref a)] [])) (by first | (simp [entryFrame, mkF, argsToLocals, Value.category]; done) | rfl) ?_
  show OGo p e below _ s₁ (mkF m 0 #[.val (.ref a)] [])
  obtain ⟨T5, X5, e5, st5⟩ := getS2 X0 hx hZ hown (host := "") (Or.inl (hw _ (List.mem_of_getElem? (i := 87) rfl))) Via.refl e0 (SC.ext O.2) (g := (mkF m 0 #[.val (.ref a)] [])) rfl (hb hby d_jdk_42_method_154_0)
  refine OGo.step st5 ?_
  show OGo p e below _ T5 (mkF m 3 #[.val (.ref a)] [(.int zc)])
  refine OGo.step (fun _ k => XS.ifNo X5.here hx rfl (hb hby d_jdk_42_method_154_3) rfl ((if0 _ _).trans (feq hzc).1) k) ?_
  show OGo p e below _ T5 (mkF m 6 #[.val (.ref a)] [])
  refine OGo.step (fun _ k => XS.aloadN X5.here hx rfl (hb hby d_jdk_42_method_154_6) rfl rfl k) ?_
  show OGo p e below _ T5 (mkF m 7 #[.val (.ref a)] [(.ref a)])
  obtain ⟨T6, X6, e6, st6⟩ := getF X5 hx hZ hown (host := "") (Or.inl (hw _ (List.mem_of_getElem? (i := 25) rfl))) Via.refl e5 C (g := (mkF m 7 #[.val (.ref a)] [(.ref a)])) rfl rfl (hb hby d_jdk_42_method_154_7)
  refine OGo.step st6 ?_
  show OGo p e below _ T6 (mkF m 10 #[.val (.ref a)] [(.int (0 : Int32))])
  refine OGo.step (fun _ k => XS.ifNo X6.here hx rfl (hb hby d_jdk_42_method_154_10) rfl ((if0 _ _).trans (teq (rfl : (0 : Int32) = 0)).2) k) ?_
  show OGo p e below _ T6 (mkF m 13 #[.val (.ref a)] [])
  refine OGo.step (fun _ k => XS.iconst X6.here hx rfl (hb hby d_jdk_42_method_154_13) k) ?_
  show OGo p e below _ T6 (mkF m 14 #[.val (.ref a)] [(.int (1 : Int32))])
  refine OGo.step (fun _ k => XS.goto X6.here hx rfl (pc0 := 14) (pc' := 18) rfl (hb hby d_jdk_42_method_154_14) (by decide) (by decide) k) ?_
  show OGo p e below _ T6 (mkF m 18 #[.val (.ref a)] [(.int (1 : Int32))])
  exact OGo.ret X6 hx (t := .boolean) hret hlk rfl (Or.inl ⟨rfl, by simp, _, rfl⟩) (hb hby d_jdk_42_method_154_18) (by decide) (by decide) ⟨rfl, rfl, e6⟩
theorem d_jdk_41_method_11_0 : decode jdk_41_method_11_code 0 = .ok (.iload_n 0, 1) := by decide +kernel
theorem d_jdk_41_method_11_1 : decode jdk_41_method_11_code 1 = .ok (.ifCond .lt 8, 3) := by decide +kernel
theorem d_jdk_41_method_11_4 : decode jdk_41_method_11_code 4 = .ok (.iload_n 0, 1) := by decide +kernel
theorem d_jdk_41_method_11_5 : decode jdk_41_method_11_code 5 = .ok (.iload_n 1, 1) := by decide +kernel
theorem d_jdk_41_method_11_6 : decode jdk_41_method_11_code 6 = .ok (.if_icmp .lt 10, 3) := by decide +kernel
theorem d_jdk_41_method_11_16 : decode jdk_41_method_11_code 16 = .ok (.iload_n 0, 1) := by decide +kernel
theorem d_jdk_41_method_11_17 : decode jdk_41_method_11_code 17 = .ok (.ireturn, 1) := by decide +kernel
theorem opl_rm_pci : plainFor (⟨"jdk/internal/util/Preconditions", "checkIndex", "(IILjava/util/function/BiFunction;)I"⟩ : MethodName) = true := plainFor_of_name (by first | (simp [plainName, overriddenIn]; done) | decide +kernel)
set_option maxRecDepth 65536 in
set_option maxHeartbeats 40000000 in
theorem rm_pci (l : Launch) (Z : State) (a0 : Array Value) (hw : ∀ d ∈ tables_1, d.before a0 Z = true) (ws : List Jvm.Cond) (i n : Int32) (wf : Value) (h0 : Heap) (hwf : wf.isRef = true) (hi0 : ¬ i < 0) (hi1 : i < n) :
    Con l Z (⟨"jdk/internal/util/Preconditions", "checkIndex", "(IILjava/util/function/BiFunction;)I"⟩ : MethodName) jdk_41_method_11_code 3 (some .int) ws ({ frames := 0, cells := 0, slots := 0, locals := 0 } : Room) #[(.int i), (.int n), wf] h0 (fun v h L => v = some (.int i) ∧ L = [] ∧ h = h0) := by
  refine Con.intro opl_rm_pci ?_
  intro p e s m below meth c s₁ hx hby hml hown hret hlk hZ hnm X0 e0
  refine OGo.cast (g' := (mkF m 0 #[.val (.int i), .val (.int n), .val wf] [])) (by rcases ref_cases hwf with rfl | ⟨f, rfl⟩ <;> simp [entryFrame, mkF, argsToLocals, Value.category]) ?_
  show OGo p e below _ s₁ (mkF m 0 #[.val (.int i), .val (.int n), .val wf] [])
  refine OGo.step (fun _ k => XS.iloadN X0.here hx rfl (hb hby d_jdk_41_method_11_0) rfl k) ?_
  show OGo p e below _ s₁ (mkF m 1 #[.val (.int i), .val (.int n), .val wf] [(.int i)])
  refine OGo.step (fun _ k => XS.ifNo X0.here hx rfl (hb hby d_jdk_41_method_11_1) rfl ((if0 _ _).trans (flt hi0).1) k) ?_
  show OGo p e below _ s₁ (mkF m 4 #[.val (.int i), .val (.int n), .val wf] [])
  refine OGo.step (fun _ k => XS.iloadN X0.here hx rfl (hb hby d_jdk_41_method_11_4) rfl k) ?_
  show OGo p e below _ s₁ (mkF m 5 #[.val (.int i), .val (.int n), .val wf] [(.int i)])
  refine OGo.step (fun _ k => XS.iloadN X0.here hx rfl (hb hby d_jdk_41_method_11_5) rfl k) ?_
  show OGo p e below _ s₁ (mkF m 6 #[.val (.int i), .val (.int n), .val wf] [(.int n), (.int i)])
  refine OGo.step (fun _ k => XS.icmpYes X0.here hx rfl (pc0 := 6) (pc' := 16) rfl (hb hby d_jdk_41_method_11_6) rfl (tlt hi1).1 (by decide) (by decide) k) ?_
  show OGo p e below _ s₁ (mkF m 16 #[.val (.int i), .val (.int n), .val wf] [])
  refine OGo.step (fun _ k => XS.iloadN X0.here hx rfl (hb hby d_jdk_41_method_11_16) rfl k) ?_
  show OGo p e below _ s₁ (mkF m 17 #[.val (.int i), .val (.int n), .val wf] [(.int i)])
  exact OGo.ret X0 hx (t := .int) hret hlk rfl (Or.inl ⟨rfl, by simp, _, rfl⟩) (hb hby d_jdk_41_method_11_17) (by decide) (by decide) ⟨rfl, rfl, e0⟩
theorem d_jdk_42_method_155_0 : decode jdk_42_method_155_code 0 = .ok (.iload_n 0, 1) := by decide +kernel
theorem d_jdk_42_method_155_1 : decode jdk_42_method_155_code 1 = .ok (.iload_n 1, 1) := by decide +kernel
theorem d_jdk_42_method_155_2 : decode jdk_42_method_155_code 2 = .ok (.getstatic 1053, 3) := by decide +kernel
theorem opd_1 : parseMethodDescriptor "(IILjava/util/function/BiFunction;)I" = some ⟨[.int, .int, (.object "java/util/function/BiFunction")], some .int⟩ := by decide +kernel
theorem d_jdk_42_method_155_5 : decode jdk_42_method_155_code 5 = .ok (.invokestatic 1059, 3) := by decide +kernel
theorem d_jdk_42_method_155_8 : decode jdk_42_method_155_code 8 = .ok (.pop, 1) := by decide +kernel
theorem d_jdk_42_method_155_9 : decode jdk_42_method_155_code 9 = .ok (.return_, 1) := by decide +kernel
theorem opl_rm_sci : plainFor (⟨"java/lang/String", "checkIndex", "(II)V"⟩ : MethodName) = true := plainFor_of_name (by first | (simp [plainName, overriddenIn]; done) | decide +kernel)
set_option maxRecDepth 65536 in
set_option maxHeartbeats 40000000 in
theorem rm_sci (l : Launch) (Z : State) (a0 : Array Value) (hw : ∀ d ∈ tables_1, d.before a0 Z = true) (ws : List Jvm.Cond) (i n : Int32) (zc : Int32) (wf : Value) (n0 : Nat) (h0 : Heap) (SS : own_SS Z zc wf) (O : Old Z n0 h0) (hi0 : ¬ i < 0) (hi1 : i < n) :
    Con l Z (⟨"java/lang/String", "checkIndex", "(II)V"⟩ : MethodName) jdk_42_method_155_code 2 none ws ({ frames := 1, cells := 0, slots := 0, locals := 14 } : Room) #[(.int i), (.int n)] h0 (fun v h L => v = none ∧ L = [] ∧ h = h0) := by
  refine Con.intro opl_rm_sci ?_
  intro p e s m below meth c s₁ hx hby hml hown hret hlk hZ hnm X0 e0
  obtain ⟨hzc, SC, hwf, SF⟩ := SS
  have Z0 : n0 ≤ h0.size := O.1 ▸ O.2.1
  have N0 := Fr.nil n0
  refine OGo.cast (g' := (mkF m 0 #[.val (.int i), .val (.int n)] [])) (by first | (simp [entryFrame, mkF, argsToLocals, Value.category]; done) | rfl) ?_
  show OGo p e below _ s₁ (mkF m 0 #[.val (.int i), .val (.int n)] [])
  refine OGo.step (fun _ k => XS.iloadN X0.here hx rfl (hb hby d_jdk_42_method_155_0) rfl k) ?_
  show OGo p e below _ s₁ (mkF m 1 #[.val (.int i), .val (.int n)] [(.int i)])
  refine OGo.step (fun _ k => XS.iloadN X0.here hx rfl (hb hby d_jdk_42_method_155_1) rfl k) ?_
  show OGo p e below _ s₁ (mkF m 2 #[.val (.int i), .val (.int n)] [(.int n), (.int i)])
  obtain ⟨T7, X7, e7, st7⟩ := getS2 X0 hx hZ hown (host := "") (Or.inl (hw _ (List.mem_of_getElem? (i := 184) rfl))) Via.refl e0 (SF.ext O.2) (g := (mkF m 2 #[.val (.int i), .val (.int n)] [(.int n), (.int i)])) rfl (hb hby d_jdk_42_method_155_2)
  refine OGo.step st7 ?_
  show OGo p e below _ T7 (mkF m 5 #[.val (.int i), .val (.int n)] [wf, (.int n), (.int i)])
  obtain ⟨v8, T8, L8, X8, hQ8, st8⟩ := scall X7 hx hZ hown (hw _ (List.mem_of_getElem? (i := 186) rfl)) (hw _ (List.mem_of_getElem? (i := 187) rfl)) (hw _ (List.mem_of_getElem? (i := 185) rfl)) (hw _ (List.mem_of_getElem? (i := 188) rfl)) (by decide) (W := 0) (rm_pci l Z a0 hw [] i n wf h0 hwf hi0 hi1) e7 (by decide) (by decide) (by decide) (by decide) (g := (mkF m 5 #[.val (.int i), .val (.int n)] [wf, (.int n), (.int i)])) rfl (by rw [hml]; rfl) (argsL := [(.int i), (.int n), wf]) (rest := []) opd_1 rfl rfl rfl (by show 2 * 0 + _ ≤ _; exact Nat.le_of_eq rfl) (hb hby d_jdk_42_method_155_5)
  obtain ⟨rfl, rfl, e8⟩ := hQ8
  rw [List.append_nil] at X8
  refine OGo.step st8 ?_
  show OGo p e below _ T8 (mkF m 8 #[.val (.int i), .val (.int n)] [(.int i)])
  refine OGo.step (fun _ k => XS.pop X8.here hx rfl (hb hby d_jdk_42_method_155_8) rfl rfl k) ?_
  show OGo p e below _ T8 (mkF m 9 #[.val (.int i), .val (.int n)] [])
  exact OGo.retV X8 hx hret hlk (hb hby d_jdk_42_method_155_9) (by decide) (by decide) ⟨rfl, rfl, e8⟩
theorem d_jdk_43_method_2_0 : decode jdk_43_method_2_code 0 = .ok (.iload_n 1, 1) := by decide +kernel
theorem d_jdk_43_method_2_1 : decode jdk_43_method_2_code 1 = .ok (.aload_n 0, 1) := by decide +kernel
theorem d_jdk_43_method_2_2 : decode jdk_43_method_2_code 2 = .ok (.arraylength, 1) := by decide +kernel
theorem opd_2 : parseMethodDescriptor "(II)V" = some ⟨[.int, .int], none⟩ := by decide +kernel
theorem d_jdk_43_method_2_3 : decode jdk_43_method_2_code 3 = .ok (.invokestatic 9, 3) := by decide +kernel
theorem d_jdk_43_method_2_6 : decode jdk_43_method_2_code 6 = .ok (.aload_n 0, 1) := by decide +kernel
theorem d_jdk_43_method_2_7 : decode jdk_43_method_2_code 7 = .ok (.iload_n 1, 1) := by decide +kernel
theorem d_jdk_43_method_2_8 : decode jdk_43_method_2_code 8 = .ok (.baload, 1) := by decide +kernel
theorem d_jdk_43_method_2_9 : decode jdk_43_method_2_code 9 = .ok (.sipush 255, 3) := by decide +kernel
theorem d_jdk_43_method_2_12 : decode jdk_43_method_2_code 12 = .ok (.iand, 1) := by decide +kernel
theorem d_jdk_43_method_2_13 : decode jdk_43_method_2_code 13 = .ok (.i2c, 1) := by decide +kernel
theorem d_jdk_43_method_2_14 : decode jdk_43_method_2_code 14 = .ok (.ireturn, 1) := by decide +kernel
theorem opl_rm_lca : plainFor (⟨"java/lang/StringLatin1", "charAt", "([BI)C"⟩ : MethodName) = true := plainFor_of_name (by first | (simp [plainName, overriddenIn]; done) | decide +kernel)
set_option maxRecDepth 65536 in
set_option maxHeartbeats 40000000 in
theorem rm_lca (l : Launch) (Z : State) (a0 : Array Value) (hw : ∀ d ∈ tables_1, d.before a0 Z = true) (ws : List Jvm.Cond) (d : Addr) (k : ClassId) (z i b : Int32) (us : List Value) (zc : Int32) (wf : Value) (n0 : Nat) (h0 : Heap) (SS : own_SS Z zc wf) (O : Old Z n0 h0) (V : Arv Z h0 d k .byte z us (.int (0 : Int32))) (hi0 : ¬ i < 0) (hi1 : i < z) (hat : us.getD i.toNatClampNeg (.int (0 : Int32)) = .int b) :
    Con l Z (⟨"java/lang/StringLatin1", "charAt", "([BI)C"⟩ : MethodName) jdk_43_method_2_code 2 (some .char) ws ({ frames := 2, cells := 0, slots := 0, locals := 27 } : Room) #[(.ref d), (.int i)] h0 (fun v h L => v = some (.int (b &&& 255)) ∧ L = [] ∧ h = h0) := by
  refine Con.intro opl_rm_lca ?_
  intro p e s m below meth c s₁ hx hby hml hown hret hlk hZ hnm X0 e0
  have SS' := SS
  obtain ⟨hzc, SC, hwf, SF⟩ := SS
  have Z0 : n0 ≤ h0.size := O.1 ▸ O.2.1
  have N0 := Fr.nil n0
  refine OGo.cast (g' := (mkF m 0 #[.val (.ref d), .val (.int i)] [])) (by first | (simp [entryFrame, mkF, argsToLocals, Value.category]; done) | rfl) ?_
  show OGo p e below _ s₁ (mkF m 0 #[.val (.ref d), .val (.int i)] [])
  refine OGo.step (fun _ k => XS.iloadN X0.here hx rfl (hb hby d_jdk_43_method_2_0) rfl k) ?_
  show OGo p e below _ s₁ (mkF m 1 #[.val (.ref d), .val (.int i)] [(.int i)])
  refine OGo.step (fun _ k => XS.aloadN X0.here hx rfl (hb hby d_jdk_43_method_2_1) rfl rfl k) ?_
  show OGo p e below _ s₁ (mkF m 2 #[.val (.ref d), .val (.int i)] [(.ref d), (.int i)])
  refine OGo.step (fun _ k => alenV X0 hx hZ e0 V (g := (mkF m 2 #[.val (.ref d), .val (.int i)] [(.ref d), (.int i)])) rfl rfl (hb hby d_jdk_43_method_2_2) _ k) ?_
  show OGo p e below _ s₁ (mkF m 3 #[.val (.ref d), .val (.int i)] [(.int z), (.int i)])
  obtain ⟨v9, T9, L9, X9, hQ9, st9⟩ := scall X0 hx hZ hown (hw _ (List.mem_of_getElem? (i := 181) rfl)) (hw _ (List.mem_of_getElem? (i := 182) rfl)) (hw _ (List.mem_of_getElem? (i := 6) rfl)) (hw _ (List.mem_of_getElem? (i := 183) rfl)) (by decide) (W := 0) (rm_sci l Z a0 hw [] i z zc wf n0 h0 SS' O hi0 hi1) e0 (by decide) (by decide) (by decide) (by decide) (g := (mkF m 3 #[.val (.ref d), .val (.int i)] [(.int z), (.int i)])) rfl (by rw [hml]; rfl) (argsL := [(.int i), (.int z)]) (rest := []) opd_2 rfl rfl rfl (by show 2 * 0 + _ ≤ _; exact Nat.le_of_eq rfl) (hb hby d_jdk_43_method_2_3)
  obtain ⟨rfl, rfl, e9⟩ := hQ9
  rw [List.append_nil] at X9
  refine OGo.step st9 ?_
  show OGo p e below _ T9 (mkF m 6 #[.val (.ref d), .val (.int i)] [])
  refine OGo.step (fun _ k => XS.aloadN X9.here hx rfl (hb hby d_jdk_43_method_2_6) rfl rfl k) ?_
  show OGo p e below _ T9 (mkF m 7 #[.val (.ref d), .val (.int i)] [(.ref d)])
  refine OGo.step (fun _ k => XS.iloadN X9.here hx rfl (hb hby d_jdk_43_method_2_7) rfl k) ?_
  show OGo p e below _ T9 (mkF m 8 #[.val (.ref d), .val (.int i)] [(.int i), (.ref d)])
  refine OGo.step (fun _ k => baloadV X9 hx hZ e9 V ⟨hi0, hi1⟩ hat (g := (mkF m 8 #[.val (.ref d), .val (.int i)] [(.int i), (.ref d)])) rfl rfl (hb hby d_jdk_43_method_2_8) _ k) ?_
  show OGo p e below _ T9 (mkF m 9 #[.val (.ref d), .val (.int i)] [(.int b)])
  refine OGo.step (fun _ k => XS.sipush X9.here hx rfl (hb hby d_jdk_43_method_2_9) k) ?_
  show OGo p e below _ T9 (mkF m 12 #[.val (.ref d), .val (.int i)] [(.int (255 : Int32)), (.int b)])
  refine OGo.step (fun _ k => XS.iand X9.here hx rfl (hb hby d_jdk_43_method_2_12) rfl k) ?_
  show OGo p e below _ T9 (mkF m 13 #[.val (.ref d), .val (.int i)] [(.int (b &&& (255 : Int32)))])
  refine OGo.step (fun _ k => XS.i2c X9.here hx rfl (hb hby d_jdk_43_method_2_13) rfl k) ?_
  show OGo p e below _ T9 (mkF m 14 #[.val (.ref d), .val (.int i)] [(.int ((b &&& (255 : Int32)).toUInt32.toUInt16.toUInt32.toInt32))])
  exact OGo.ret X9 hx (t := .char) hret hlk (by rw [i2c_mask]; exact own_nar255 _) (Or.inl ⟨rfl, by simp, _, rfl⟩) (hb hby d_jdk_43_method_2_14) (by decide) (by decide) ⟨by rw [i2c_mask], rfl, e9⟩
theorem d_jdk_42_method_56_0 : decode jdk_42_method_56_code 0 = .ok (.aload_n 0, 1) := by decide +kernel
theorem opd_3 : parseMethodDescriptor "()Z" = some ⟨[], some .boolean⟩ := by decide +kernel
theorem d_jdk_42_method_56_1 : decode jdk_42_method_56_code 1 = .ok (.invokevirtual 492, 3) := by decide +kernel
theorem d_jdk_42_method_56_4 : decode jdk_42_method_56_code 4 = .ok (.ifCond .eq 12, 3) := by decide +kernel
theorem d_jdk_42_method_56_7 : decode jdk_42_method_56_code 7 = .ok (.aload_n 0, 1) := by decide +kernel
theorem d_jdk_42_method_56_8 : decode jdk_42_method_56_code 8 = .ok (.getfield 9, 3) := by decide +kernel
theorem d_jdk_42_method_56_11 : decode jdk_42_method_56_code 11 = .ok (.iload_n 1, 1) := by decide +kernel
theorem opd_4 : parseMethodDescriptor "([BI)C" = some ⟨[(.array .byte), .int], some .char⟩ := by decide +kernel
theorem d_jdk_42_method_56_12 : decode jdk_42_method_56_code 12 = .ok (.invokestatic 495, 3) := by decide +kernel
theorem d_jdk_42_method_56_15 : decode jdk_42_method_56_code 15 = .ok (.ireturn, 1) := by decide +kernel
theorem opl_rm_charAt : plainFor (⟨"java/lang/String", "charAt", "(I)C"⟩ : MethodName) = true := plainFor_of_name (by first | (simp [plainName, overriddenIn]; done) | decide +kernel)
set_option maxRecDepth 65536 in
set_option maxHeartbeats 40000000 in
theorem rm_charAt (l : Launch) (Z : State) (a0 : Array Value) (hw : ∀ d ∈ tables_1, d.before a0 Z = true) (ws : List Jvm.Cond) (a d : Addr) (k : ClassId) (us : List Value) (i b : Int32) (zc : Int32) (wf : Value) (n0 : Nat) (h0 : Heap) (SS : own_SS Z zc wf) (O : Old Z n0 h0) (I : STI Z h0 a d k us) (hi0 : ¬ i < 0) (hi1 : i < Int32.ofNat us.length) (hat : us.getD i.toNatClampNeg (.int (0 : Int32)) = .int b) :
    Con l Z (⟨"java/lang/String", "charAt", "(I)C"⟩ : MethodName) jdk_42_method_56_code 2 (some .char) ws ({ frames := 3, cells := 0, slots := 0, locals := 40 } : Room) #[(.ref a), (.int i)] h0 (fun v h L => v = some (.int (b &&& 255)) ∧ L = [] ∧ h = h0) := by
  refine Con.intro opl_rm_charAt ?_
  intro p e s m below meth c s₁ hx hby hml hown hret hlk hZ hnm X0 e0
  have SS' := SS
  obtain ⟨hzc, SC, hwf, SF⟩ := SS
  have Z0 : n0 ≤ h0.size := O.1 ▸ O.2.1
  have N0 := Fr.nil n0
  obtain ⟨IE, IC, IF, IV⟩ := I
  refine OGo.cast (g' := (mkF m 0 #[.val (.ref a), .val (.int i)] [])) (by first | (simp [entryFrame, mkF, argsToLocals, Value.category]; done) | rfl) ?_
  show OGo p e below _ s₁ (mkF m 0 #[.val (.ref a), .val (.int i)] [])
  refine OGo.step (fun _ k => XS.aloadN X0.here hx rfl (hb hby d_jdk_42_method_56_0) rfl rfl k) ?_
  show OGo p e below _ s₁ (mkF m 1 #[.val (.ref a), .val (.int i)] [(.ref a)])
  obtain ⟨v10, T10, L10, X10, hQ10, st10⟩ := vcall X0 hx hZ hown (hw _ (List.mem_of_getElem? (i := 172) rfl)) (hw _ (List.mem_of_getElem? (i := 173) rfl)) (hw _ (List.mem_of_getElem? (i := 175) rfl)) rfl (hw _ (List.mem_of_getElem? (i := 175) rfl)) (hw _ (List.mem_of_getElem? (i := 174) rfl)) (hw _ (List.mem_of_getElem? (i := 6) rfl)) (hw _ (List.mem_of_getElem? (i := 176) rfl)) (by decide) (W := 0) (rm_isLatin1 l Z a0 hw [] a zc wf n0 h0 SS' O IC) e0 (by decide) (by decide) (by decide) (by decide) (g := (mkF m 1 #[.val (.ref a), .val (.int i)] [(.ref a)])) rfl (by rw [hml]; rfl) IE (argsL := []) (rest := []) opd_3 rfl rfl rfl (by show 2 * 0 + _ ≤ _; exact Nat.le_of_eq rfl) (hb hby d_jdk_42_method_56_1)
  obtain ⟨rfl, rfl, e10⟩ := hQ10
  rw [List.append_nil] at X10
  refine OGo.step st10 ?_
  show OGo p e below _ T10 (mkF m 4 #[.val (.ref a), .val (.int i)] [(.int (1 : Int32))])
  refine OGo.step (fun _ k => XS.ifNo X10.here hx rfl (hb hby d_jdk_42_method_56_4) rfl ((if0 _ _).trans (feq (by decide : ¬ (1 : Int32) = 0)).1) k) ?_
  show OGo p e below _ T10 (mkF m 7 #[.val (.ref a), .val (.int i)] [])
  refine OGo.step (fun _ k => XS.aloadN X10.here hx rfl (hb hby d_jdk_42_method_56_7) rfl rfl k) ?_
  show OGo p e below _ T10 (mkF m 8 #[.val (.ref a), .val (.int i)] [(.ref a)])
  obtain ⟨T11, X11, e11, st11⟩ := getF X10 hx hZ hown (host := "") (Or.inl (hw _ (List.mem_of_getElem? (i := 24) rfl))) Via.refl e10 IF (g := (mkF m 8 #[.val (.ref a), .val (.int i)] [(.ref a)])) rfl rfl (hb hby d_jdk_42_method_56_8)
  refine OGo.step st11 ?_
  show OGo p e below _ T11 (mkF m 11 #[.val (.ref a), .val (.int i)] [(.ref d)])
  refine OGo.step (fun _ k => XS.iloadN X11.here hx rfl (hb hby d_jdk_42_method_56_11) rfl k) ?_
  show OGo p e below _ T11 (mkF m 12 #[.val (.ref a), .val (.int i)] [(.int i), (.ref d)])
  obtain ⟨v12, T12, L12, X12, hQ12, st12⟩ := scall X11 hx hZ hown (hw _ (List.mem_of_getElem? (i := 177) rfl)) (hw _ (List.mem_of_getElem? (i := 178) rfl)) (hw _ (List.mem_of_getElem? (i := 179) rfl)) (hw _ (List.mem_of_getElem? (i := 180) rfl)) (by decide) (W := 0) (rm_lca l Z a0 hw [] d k (Int32.ofNat us.length) i b us zc wf n0 h0 SS' O IV hi0 hi1 hat) e11 (by decide) (by decide) (by decide) (by decide) (g := (mkF m 12 #[.val (.ref a), .val (.int i)] [(.int i), (.ref d)])) rfl (by rw [hml]; rfl) (argsL := [(.ref d), (.int i)]) (rest := []) opd_4 rfl rfl rfl (by show 2 * 0 + _ ≤ _; exact Nat.le_of_eq rfl) (hb hby d_jdk_42_method_56_12)
  obtain ⟨rfl, rfl, e12⟩ := hQ12
  rw [List.append_nil] at X12
  refine OGo.step st12 ?_
  show OGo p e below _ T12 (mkF m 15 #[.val (.ref a), .val (.int i)] [(.int (b &&& 255))])
  exact OGo.ret X12 hx (t := .char) hret hlk (own_nar255 _) (Or.inl ⟨rfl, by simp, _, rfl⟩) (hb hby d_jdk_42_method_56_15) (by decide) (by decide) ⟨rfl, rfl, e12⟩
theorem d_jdk_68_method_2_0 : decode jdk_68_method_2_code 0 = .ok (.aload_n 0, 1) := by decide +kernel
theorem d_jdk_68_method_2_1 : decode jdk_68_method_2_code 1 = .ok (.invokespecial 3, 3) := by decide +kernel
theorem d_jdk_68_method_2_4 : decode jdk_68_method_2_code 4 = .ok (.getstatic 18, 3) := by decide +kernel
theorem d_jdk_68_method_2_7 : decode jdk_68_method_2_code 7 = .ok (.ifCond .eq 18, 3) := by decide +kernel
theorem d_jdk_68_method_2_10 : decode jdk_68_method_2_code 10 = .ok (.aload_n 0, 1) := by decide +kernel
theorem d_jdk_68_method_2_11 : decode jdk_68_method_2_code 11 = .ok (.iload_n 1, 1) := by decide +kernel
theorem d_jdk_68_method_2_12 : decode jdk_68_method_2_code 12 = .ok (.newarray .byte, 2) := by decide +kernel
theorem d_jdk_68_method_2_14 : decode jdk_68_method_2_code 14 = .ok (.putfield 15, 3) := by decide +kernel
theorem d_jdk_68_method_2_17 : decode jdk_68_method_2_code 17 = .ok (.aload_n 0, 1) := by decide +kernel
theorem d_jdk_68_method_2_18 : decode jdk_68_method_2_code 18 = .ok (.iconst 0, 1) := by decide +kernel
theorem d_jdk_68_method_2_19 : decode jdk_68_method_2_code 19 = .ok (.putfield 22, 3) := by decide +kernel
theorem d_jdk_68_method_2_22 : decode jdk_68_method_2_code 22 = .ok (.goto 16, 3) := by decide +kernel
theorem d_jdk_68_method_2_38 : decode jdk_68_method_2_code 38 = .ok (.return_, 1) := by decide +kernel
theorem opl_rm_asbInit : plainFor (⟨"java/lang/AbstractStringBuilder", "<init>", "(I)V"⟩ : MethodName) = true := plainFor_of_name (by first | (simp [plainName, overriddenIn]; done) | decide +kernel)
set_option maxRecDepth 65536 in
set_option maxHeartbeats 40000000 in
theorem rm_asbInit (l : Launch) (Z : State) (a0 : Array Value) (hw : ∀ d ∈ tables_1, d.before a0 Z = true) (ws : List Jvm.Cond) (b : Addr) (zc : Int32) (wf : Value) (n0 : Nat) (h0 : Heap) (SS : own_SS Z zc wf) (O : Old Z n0 h0) (E : Exa Z h0 b "java/lang/StringBuilder") (Fv : Fld Z h0 b "java/lang/AbstractStringBuilder" "value" "[B" .null) (Fc : Fld Z h0 b "java/lang/AbstractStringBuilder" "coder" "B" (.int (0 : Int32))) (Fn : Fld Z h0 b "java/lang/AbstractStringBuilder" "count" "I" (.int (0 : Int32))) (g_b : n0 ≤ b) :
    Con l Z (⟨"java/lang/AbstractStringBuilder", "<init>", "(I)V"⟩ : MethodName) jdk_68_method_2_code 2 none ws ({ frames := 1, cells := 1, slots := 16, locals := 12 } : Room) #[(.ref b), (.int (16 : Int32))] h0 (fun v h L => v = none ∧ Fr n0 L ∧ Keep h0 h [b] ∧ ∃ d k, h0.size ≤ d ∧ SBI Z h b d k 16 []) := by
  refine Con.intro opl_rm_asbInit ?_
  intro p e s m below meth c s₁ hx hby hml hown hret hlk hZ hnm X0 e0
  obtain ⟨hzc, SC, hwf, SF⟩ := SS
  have Z0 : n0 ≤ h0.size := O.1 ▸ O.2.1
  have N0 := Fr.nil n0
  refine OGo.cast (g' := (mkF m 0 #[.val (.ref b), .val (.int (16 : Int32))] [])) (by first | (simp [entryFrame, mkF, argsToLocals, Value.category]; done) | rfl) ?_
  show OGo p e below _ s₁ (mkF m 0 #[.val (.ref b), .val (.int (16 : Int32))] [])
  refine OGo.step (fun _ k => XS.aloadN X0.here hx rfl (hb hby d_jdk_68_method_2_0) rfl rfl k) ?_
  show OGo p e below _ s₁ (mkF m 1 #[.val (.ref b), .val (.int (16 : Int32))] [(.ref b)])
  obtain ⟨T13, X13, e13, st13⟩ := initO X0 hx hZ hown (hw _ (List.mem_of_getElem? (i := 61) rfl)) (hw _ (List.mem_of_getElem? (i := 16) rfl)) (hw _ (List.mem_of_getElem? (i := 17) rfl)) e0 (g := (mkF m 1 #[.val (.ref b), .val (.int (16 : Int32))] [(.ref b)])) rfl (by rw [hml]; rfl) rfl (hb hby d_jdk_68_method_2_1) (by decide) (W := 0) (by show 2 * 0 + _ ≤ _; exact Nat.le_of_eq rfl) (by decide)
  refine OGo.step st13 ?_
  show OGo p e below _ T13 (mkF m 4 #[.val (.ref b), .val (.int (16 : Int32))] [])
  obtain ⟨T14, X14, e14, st14⟩ := getS2 X13 hx hZ hown (host := "") (Or.inl (hw _ (List.mem_of_getElem? (i := 62) rfl))) Via.refl e13 (SC.ext O.2) (g := (mkF m 4 #[.val (.ref b), .val (.int (16 : Int32))] [])) rfl (hb hby d_jdk_68_method_2_4)
  refine OGo.step st14 ?_
  show OGo p e below _ T14 (mkF m 7 #[.val (.ref b), .val (.int (16 : Int32))] [(.int zc)])
  refine OGo.step (fun _ k => XS.ifNo X14.here hx rfl (hb hby d_jdk_68_method_2_7) rfl ((if0 _ _).trans (feq hzc).1) k) ?_
  show OGo p e below _ T14 (mkF m 10 #[.val (.ref b), .val (.int (16 : Int32))] [])
  refine OGo.step (fun _ k => XS.aloadN X14.here hx rfl (hb hby d_jdk_68_method_2_10) rfl rfl k) ?_
  show OGo p e below _ T14 (mkF m 11 #[.val (.ref b), .val (.int (16 : Int32))] [(.ref b)])
  refine OGo.step (fun _ k => XS.iloadN X14.here hx rfl (hb hby d_jdk_68_method_2_11) rfl k) ?_
  show OGo p e below _ T14 (mkF m 12 #[.val (.ref b), .val (.int (16 : Int32))] [(.int (16 : Int32)), (.ref b)])
  obtain ⟨T15, h15, k15, X15, e15, E15, A15, st15⟩ := newP X14 hx hZ (hw _ (List.mem_of_getElem? (i := 19) rfl)) e14 (g := (mkF m 12 #[.val (.ref b), .val (.int (16 : Int32))] [(.int (16 : Int32)), (.ref b)])) rfl (hb hby d_jdk_68_method_2_12) rfl (by decide) (cap := 16) (by decide) (by decide) (by decide) (by decide)
  obtain ⟨b15, g15⟩ : ∃ z, z = h0.size := ⟨_, rfl⟩
  rw [← g15] at A15 st15
  have sz_b15 : h0.size ≤ b15 := Nat.le_trans (Keep.refl h0 [b]).1 (Nat.le_of_eq g15.symm)
  have KK15 : Keep h0 h15 [b] := (Keep.refl h0 [b]).ext E15
  have V15 : Arv Z h15 b15 k15 .byte (16 : Int32) [] (.int (0 : Int32)) := Arv.new A15 (by decide)
  refine OGo.step st15 ?_
  show OGo p e below _ T15 (mkF m 14 #[.val (.ref b), .val (.int (16 : Int32))] [(.ref b15), (.ref b)])
  obtain ⟨T16, h16, X16, e16, W16, st16⟩ := putF X15 hx hZ hown (host := "") (Or.inl (hw _ (List.mem_of_getElem? (i := 63) rfl))) Via.refl e15 (Fv.ext E15) (E.ext E15) (Or.inl (hw _ (List.mem_of_getElem? (i := 64) rfl))) (hw _ (List.mem_of_getElem? (i := 50) rfl)) (ty := (.array .byte)) (by decide) rfl rfl (g := (mkF m 14 #[.val (.ref b), .val (.int (16 : Int32))] [(.ref b15), (.ref b)])) rfl rfl (hb hby d_jdk_68_method_2_14)
  have Fw16 := (Fv.ext E15).same W16
  have N16 := Fr.snoc X16 N0 g_b
  have KK16 : Keep h0 h16 [b] := KK15.wr W16 (Or.inl (List.mem_of_getElem? (i := 0) rfl))
  refine OGo.step st16 ?_
  show OGo p e below _ T16 (mkF m 17 #[.val (.ref b), .val (.int (16 : Int32))] [])
  refine OGo.step (fun _ k => XS.aloadN X16.here hx rfl (hb hby d_jdk_68_method_2_17) rfl rfl k) ?_
  show OGo p e below _ T16 (mkF m 18 #[.val (.ref b), .val (.int (16 : Int32))] [(.ref b)])
  refine OGo.step (fun _ k => XS.iconst X16.here hx rfl (hb hby d_jdk_68_method_2_18) k) ?_
  show OGo p e below _ T16 (mkF m 19 #[.val (.ref b), .val (.int (16 : Int32))] [(.int (0 : Int32)), (.ref b)])
  have q18 := ((Fc.ext E15).other W16 (Or.inr (slot_ne (Or.inl (hw _ (List.mem_of_getElem? (i := 66) rfl))) (Or.inl (hw _ (List.mem_of_getElem? (i := 64) rfl))) (by decide) (t := .byte) (t' := (.array .byte)) (by decide) (by decide))))
  obtain ⟨T17, h17, X17, e17, W17, st17⟩ := putFN X16 hx hZ hown (hw _ (List.mem_of_getElem? (i := 65) rfl)) Via.refl e16 q18 ((E.ext E15).wr W16) (Or.inl (hw _ (List.mem_of_getElem? (i := 66) rfl))) (hw _ (List.mem_of_getElem? (i := 50) rfl)) (ty := .byte) (v' := (.int (0 : Int32))) (by decide) rfl rfl (g := (mkF m 19 #[.val (.ref b), .val (.int (16 : Int32))] [(.int (0 : Int32)), (.ref b)])) rfl rfl (hb hby d_jdk_68_method_2_19)
  have Fw17 := q18.same W17
  have N17 := Fr.snoc X17 N16 g_b
  have KK17 : Keep h0 h17 [b] := KK16.wr W17 (Or.inl (List.mem_of_getElem? (i := 0) rfl))
  refine OGo.step st17 ?_
  show OGo p e below _ T17 (mkF m 22 #[.val (.ref b), .val (.int (16 : Int32))] [])
  refine OGo.step (fun _ k => XS.goto X17.here hx rfl (pc0 := 22) (pc' := 38) rfl (hb hby d_jdk_68_method_2_22) (by decide) (by decide) k) ?_
  show OGo p e below _ T17 (mkF m 38 #[.val (.ref b), .val (.int (16 : Int32))] [])
  refine OGo.cast rfl ?_
  have q19 := (Fw16.other W17 (Or.inr (slot_ne (Or.inl (hw _ (List.mem_of_getElem? (i := 64) rfl))) (Or.inl (hw _ (List.mem_of_getElem? (i := 66) rfl))) (by decide) (t := (.array .byte)) (t' := .byte) (by decide) (by decide))))
  have q20 := (((Fn.ext E15).other W16 (Or.inr (slot_ne (Or.inl (hw _ (List.mem_of_getElem? (i := 89) rfl))) (Or.inl (hw _ (List.mem_of_getElem? (i := 64) rfl))) (by decide) (t := .int) (t' := (.array .byte)) (by decide) (by decide)))).other W17 (Or.inr (slot_ne (Or.inl (hw _ (List.mem_of_getElem? (i := 89) rfl))) (Or.inl (hw _ (List.mem_of_getElem? (i := 66) rfl))) (by decide) (t := .int) (t' := .byte) (by decide) (by decide))))
  have q21 := ((V15.other W16 (Ne.symm (Nat.ne_of_lt (Nat.lt_of_lt_of_le E.lt (Nat.le_of_eq g15.symm))))).other W17 (Ne.symm (Nat.ne_of_lt (Nat.lt_of_lt_of_le E.lt (Nat.le_of_eq g15.symm)))))
  exact OGo.retV X17 hx hret hlk (hb hby d_jdk_68_method_2_38) (by decide) (by decide) (by rw [e17]; exact ⟨rfl, N17, KK17, b15, _, sz_b15, ⟨(((E.ext E15).wr W16).wr W17), q19, Fw17, q20, q21⟩⟩)
theorem d_jdk_67_method_1_0 : decode jdk_67_method_1_code 0 = .ok (.aload_n 0, 1) := by decide +kernel
theorem d_jdk_67_method_1_1 : decode jdk_67_method_1_code 1 = .ok (.bipush 16, 2) := by decide +kernel
theorem opd_5 : parseMethodDescriptor "(I)V" = some ⟨[.int], none⟩ := by decide +kernel
theorem d_jdk_67_method_1_3 : decode jdk_67_method_1_code 3 = .ok (.invokespecial 1, 3) := by decide +kernel
theorem d_jdk_67_method_1_6 : decode jdk_67_method_1_code 6 = .ok (.return_, 1) := by decide +kernel
theorem opl_rm_sbInit : plainFor (⟨"java/lang/StringBuilder", "<init>", "()V"⟩ : MethodName) = true := plainFor_of_name (by first | (simp [plainName, overriddenIn]; done) | decide +kernel)
set_option maxRecDepth 65536 in
set_option maxHeartbeats 40000000 in
theorem rm_sbInit (l : Launch) (Z : State) (a0 : Array Value) (hw : ∀ d ∈ tables_1, d.before a0 Z = true) (ws : List Jvm.Cond) (b : Addr) (zc : Int32) (wf : Value) (n0 : Nat) (h0 : Heap) (SS : own_SS Z zc wf) (O : Old Z n0 h0) (E : Exa Z h0 b "java/lang/StringBuilder") (Fv : Fld Z h0 b "java/lang/AbstractStringBuilder" "value" "[B" .null) (Fc : Fld Z h0 b "java/lang/AbstractStringBuilder" "coder" "B" (.int (0 : Int32))) (Fn : Fld Z h0 b "java/lang/AbstractStringBuilder" "count" "I" (.int (0 : Int32))) (g_b : n0 ≤ b) :
    Con l Z (⟨"java/lang/StringBuilder", "<init>", "()V"⟩ : MethodName) jdk_67_method_1_code 1 none ws ({ frames := 2, cells := 1, slots := 16, locals := 25 } : Room) #[(.ref b)] h0 (fun v h L => v = none ∧ Fr n0 L ∧ Keep h0 h [b] ∧ ∃ d k, h0.size ≤ d ∧ SBI Z h b d k 16 []) := by
  refine Con.intro opl_rm_sbInit ?_
  intro p e s m below meth c s₁ hx hby hml hown hret hlk hZ hnm X0 e0
  have SS' := SS
  obtain ⟨hzc, SC, hwf, SF⟩ := SS
  have Z0 : n0 ≤ h0.size := O.1 ▸ O.2.1
  have N0 := Fr.nil n0
  refine OGo.cast (g' := (mkF m 0 #[.val (.ref b)] [])) (by first | (simp [entryFrame, mkF, argsToLocals, Value.category]; done) | rfl) ?_
  show OGo p e below _ s₁ (mkF m 0 #[.val (.ref b)] [])
  refine OGo.step (fun _ k => XS.aloadN X0.here hx rfl (hb hby d_jdk_67_method_1_0) rfl rfl k) ?_
  show OGo p e below _ s₁ (mkF m 1 #[.val (.ref b)] [(.ref b)])
  refine OGo.step (fun _ k => XS.bipush X0.here hx rfl (hb hby d_jdk_67_method_1_1) k) ?_
  show OGo p e below _ s₁ (mkF m 3 #[.val (.ref b)] [(.int (16 : Int32)), (.ref b)])
  obtain ⟨v22, T22, L22, X22, hQ22, st22⟩ := icall X0 hx hZ rfl hown (hw _ (List.mem_of_getElem? (i := 55) rfl)) (hw _ (List.mem_of_getElem? (i := 56) rfl)) (hw _ (List.mem_of_getElem? (i := 59) rfl)) (hw _ (List.mem_of_getElem? (i := 60) rfl)) (by decide) (W := 0) (rm_asbInit l Z a0 hw [] b zc wf n0 h0 SS' O E Fv Fc Fn g_b) e0 (by decide) (by decide) (by decide) (by decide) (g := (mkF m 3 #[.val (.ref b)] [(.int (16 : Int32)), (.ref b)])) rfl (by rw [hml]; rfl) (a := b) (argsL := [(.int (16 : Int32))]) (rest := []) opd_5 rfl rfl rfl (by show 2 * 0 + _ ≤ _; exact Nat.le_of_eq rfl) (hb hby d_jdk_67_method_1_3)
  obtain ⟨rfl, N22, K22, d22, k22, sd22, I22⟩ := hQ22
  have NN22 := Fr.app N0 N22
  have KK22 : Keep h0 T22.heap [b] := (Keep.refl h0 [b]).trans K22 (allS (Or.inl (List.mem_of_getElem? (i := 0) rfl)) all0)
  refine OGo.step st22 ?_
  show OGo p e below _ T22 (mkF m 6 #[.val (.ref b)] [])
  exact OGo.retV X22 hx hret hlk (hb hby d_jdk_67_method_1_6) (by decide) (by decide) ⟨rfl, NN22, KK22, d22, k22, sd22, I22⟩
theorem d_jdk_68_method_9_0 : decode jdk_68_method_9_code 0 = .ok (.aload_n 0, 1) := by decide +kernel
theorem d_jdk_68_method_9_1 : decode jdk_68_method_9_code 1 = .ok (.getfield 15, 3) := by decide +kernel
theorem d_jdk_68_method_9_4 : decode jdk_68_method_9_code 4 = .ok (.arraylength, 1) := by decide +kernel
theorem d_jdk_68_method_9_5 : decode jdk_68_method_9_code 5 = .ok (.aload_n 0, 1) := by decide +kernel
theorem d_jdk_68_method_9_6 : decode jdk_68_method_9_code 6 = .ok (.getfield 22, 3) := by decide +kernel
theorem d_jdk_68_method_9_9 : decode jdk_68_method_9_code 9 = .ok (.ishr, 1) := by decide +kernel
theorem d_jdk_68_method_9_10 : decode jdk_68_method_9_code 10 = .ok (.istore_n 2, 1) := by decide +kernel
theorem d_jdk_68_method_9_11 : decode jdk_68_method_9_code 11 = .ok (.iload_n 1, 1) := by decide +kernel
theorem d_jdk_68_method_9_12 : decode jdk_68_method_9_code 12 = .ok (.iload_n 2, 1) := by decide +kernel
theorem d_jdk_68_method_9_13 : decode jdk_68_method_9_code 13 = .ok (.isub, 1) := by decide +kernel
theorem d_jdk_68_method_9_14 : decode jdk_68_method_9_code 14 = .ok (.ifCond .le 24, 3) := by decide +kernel
theorem d_jdk_68_method_9_38 : decode jdk_68_method_9_code 38 = .ok (.return_, 1) := by decide +kernel
theorem opl_rm_ens : plainFor (⟨"java/lang/AbstractStringBuilder", "ensureCapacityInternal", "(I)V"⟩ : MethodName) = true := plainFor_of_name (by first | (simp [plainName, overriddenIn]; done) | decide +kernel)
set_option maxRecDepth 65536 in
set_option maxHeartbeats 40000000 in
theorem rm_ens (l : Launch) (Z : State) (a0 : Array Value) (hw : ∀ d ∈ tables_1, d.before a0 Z = true) (ws : List Jvm.Cond) (b d : Addr) (k : ClassId) (z : Int32) (bs : List Value) (nd : Int32) (zc : Int32) (wf : Value) (n0 : Nat) (h0 : Heap) (SS : own_SS Z zc wf) (O : Old Z n0 h0) (J : SBI Z h0 b d k z bs) (hnd : ¬ (0 : Int32) < nd - z) :
    Con l Z (⟨"java/lang/AbstractStringBuilder", "ensureCapacityInternal", "(I)V"⟩ : MethodName) jdk_68_method_9_code 3 none ws ({ frames := 0, cells := 0, slots := 0, locals := 0 } : Room) #[(.ref b), (.int nd)] h0 (fun v h L => v = none ∧ L = [] ∧ h = h0) := by
  refine Con.intro opl_rm_ens ?_
  intro p e s m below meth c s₁ hx hby hml hown hret hlk hZ hnm X0 e0
  obtain ⟨hzc, SC, hwf, SF⟩ := SS
  have Z0 : n0 ≤ h0.size := O.1 ▸ O.2.1
  have N0 := Fr.nil n0
  obtain ⟨JE, JF, JC, JN, JV⟩ := J
  refine OGo.cast (g' := (mkF m 0 #[.val (.ref b), .val (.int nd), .unset] [])) (by first | (simp [entryFrame, mkF, argsToLocals, Value.category]; done) | rfl) ?_
  show OGo p e below _ s₁ (mkF m 0 #[.val (.ref b), .val (.int nd), .unset] [])
  refine OGo.step (fun _ k => XS.aloadN X0.here hx rfl (hb hby d_jdk_68_method_9_0) rfl rfl k) ?_
  show OGo p e below _ s₁ (mkF m 1 #[.val (.ref b), .val (.int nd), .unset] [(.ref b)])
  obtain ⟨T23, X23, e23, st23⟩ := getF X0 hx hZ hown (host := "") (Or.inl (hw _ (List.mem_of_getElem? (i := 63) rfl))) Via.refl e0 JF (g := (mkF m 1 #[.val (.ref b), .val (.int nd), .unset] [(.ref b)])) rfl rfl (hb hby d_jdk_68_method_9_1)
  refine OGo.step st23 ?_
  show OGo p e below _ T23 (mkF m 4 #[.val (.ref b), .val (.int nd), .unset] [(.ref d)])
  refine OGo.step (fun _ k => alenV X23 hx hZ e23 JV (g := (mkF m 4 #[.val (.ref b), .val (.int nd), .unset] [(.ref d)])) rfl rfl (hb hby d_jdk_68_method_9_4) _ k) ?_
  show OGo p e below _ T23 (mkF m 5 #[.val (.ref b), .val (.int nd), .unset] [(.int z)])
  refine OGo.step (fun _ k => XS.aloadN X23.here hx rfl (hb hby d_jdk_68_method_9_5) rfl rfl k) ?_
  show OGo p e below _ T23 (mkF m 6 #[.val (.ref b), .val (.int nd), .unset] [(.ref b), (.int z)])
  obtain ⟨T24, X24, e24, st24⟩ := getF X23 hx hZ hown (host := "") (Or.inl (hw _ (List.mem_of_getElem? (i := 65) rfl))) Via.refl e23 JC (g := (mkF m 6 #[.val (.ref b), .val (.int nd), .unset] [(.ref b), (.int z)])) rfl rfl (hb hby d_jdk_68_method_9_6)
  refine OGo.step st24 ?_
  show OGo p e below _ T24 (mkF m 9 #[.val (.ref b), .val (.int nd), .unset] [(.int (0 : Int32)), (.int z)])
  refine OGo.step (fun _ k => XS.ishr X24.here hx rfl (hb hby d_jdk_68_method_9_9) rfl k) ?_
  show OGo p e below _ T24 (mkF m 10 #[.val (.ref b), .val (.int nd), .unset] [(.int (z >>> ((0 : Int32) &&& 31)))])
  rw [own_shr0]
  show OGo p e below _ T24 (mkF m 10 #[.val (.ref b), .val (.int nd), .unset] [(.int z)])
  refine OGo.step (fun _ k => XS.istoreN X24.here hx rfl (hb hby d_jdk_68_method_9_10) rfl (l' := #[.val (.ref b), .val (.int nd), .val (.int z)]) rfl k) ?_
  show OGo p e below _ T24 (mkF m 11 #[.val (.ref b), .val (.int nd), .val (.int z)] [])
  refine OGo.step (fun _ k => XS.iloadN X24.here hx rfl (hb hby d_jdk_68_method_9_11) rfl k) ?_
  show OGo p e below _ T24 (mkF m 12 #[.val (.ref b), .val (.int nd), .val (.int z)] [(.int nd)])
  refine OGo.step (fun _ k => XS.iloadN X24.here hx rfl (hb hby d_jdk_68_method_9_12) rfl k) ?_
  show OGo p e below _ T24 (mkF m 13 #[.val (.ref b), .val (.int nd), .val (.int z)] [(.int z), (.int nd)])
  refine OGo.step (fun _ k => XS.isub X24.here hx rfl (hb hby d_jdk_68_method_9_13) rfl k) ?_
  show OGo p e below _ T24 (mkF m 14 #[.val (.ref b), .val (.int nd), .val (.int z)] [(.int (nd - z))])
  refine OGo.step (fun _ k => XS.ifYes X24.here hx rfl (pc0 := 14) (pc' := 38) rfl (hb hby d_jdk_68_method_9_14) rfl ((if0 _ _).trans (flt hnd).2.2.2) (by decide) (by decide) k) ?_
  show OGo p e below _ T24 (mkF m 38 #[.val (.ref b), .val (.int nd), .val (.int z)] [])
  exact OGo.retV X24 hx hret hlk (hb hby d_jdk_68_method_9_38) (by decide) (by decide) ⟨rfl, rfl, e24⟩
theorem d_jdk_68_method_71_0 : decode jdk_68_method_71_code 0 = .ok (.getstatic 18, 3) := by decide +kernel
theorem d_jdk_68_method_71_3 : decode jdk_68_method_71_code 3 = .ok (.ifCond .eq 18, 3) := by decide +kernel
theorem d_jdk_68_method_71_6 : decode jdk_68_method_71_code 6 = .ok (.aload_n 0, 1) := by decide +kernel
theorem d_jdk_68_method_71_7 : decode jdk_68_method_71_code 7 = .ok (.getfield 22, 3) := by decide +kernel
theorem d_jdk_68_method_71_10 : decode jdk_68_method_71_code 10 = .ok (.aload_n 1, 1) := by decide +kernel
theorem d_jdk_68_method_71_11 : decode jdk_68_method_71_code 11 = .ok (.invokevirtual 40, 3) := by decide +kernel
theorem d_jdk_68_method_71_14 : decode jdk_68_method_71_code 14 = .ok (.if_icmp .eq 7, 3) := by decide +kernel
theorem d_jdk_68_method_71_21 : decode jdk_68_method_71_code 21 = .ok (.return_, 1) := by decide +kernel
theorem opl_rm_infl : plainFor (⟨"java/lang/AbstractStringBuilder", "inflateIfNeededFor", "(Ljava/lang/String;)V"⟩ : MethodName) = true := plainFor_of_name (by first | (simp [plainName, overriddenIn]; done) | decide +kernel)
set_option maxRecDepth 65536 in
set_option maxHeartbeats 40000000 in
theorem rm_infl (l : Launch) (Z : State) (a0 : Array Value) (hw : ∀ d ∈ tables_1, d.before a0 Z = true) (ws : List Jvm.Cond) (b d : Addr) (k : ClassId) (z : Int32) (bs : List Value) (a e2 : Addr) (k2 : ClassId) (us : List Value) (zc : Int32) (wf : Value) (n0 : Nat) (h0 : Heap) (SS : own_SS Z zc wf) (O : Old Z n0 h0) (J : SBI Z h0 b d k z bs) (I : STI Z h0 a e2 k2 us) :
    Con l Z (⟨"java/lang/AbstractStringBuilder", "inflateIfNeededFor", "(Ljava/lang/String;)V"⟩ : MethodName) jdk_68_method_71_code 2 none ws ({ frames := 1, cells := 0, slots := 0, locals := 13 } : Room) #[(.ref b), (.ref a)] h0 (fun v h L => v = none ∧ L = [] ∧ h = h0) := by
  refine Con.intro opl_rm_infl ?_
  intro p e s m below meth c s₁ hx hby hml hown hret hlk hZ hnm X0 e0
  have SS' := SS
  obtain ⟨hzc, SC, hwf, SF⟩ := SS
  have Z0 : n0 ≤ h0.size := O.1 ▸ O.2.1
  have N0 := Fr.nil n0
  obtain ⟨JE, JF, JC, JN, JV⟩ := J
  obtain ⟨IE, IC, IF, IV⟩ := I
  refine OGo.cast (g' := (mkF m 0 #[.val (.ref b), .val (.ref a)] [])) (by first | (simp [entryFrame, mkF, argsToLocals, Value.category]; done) | rfl) ?_
  show OGo p e below _ s₁ (mkF m 0 #[.val (.ref b), .val (.ref a)] [])
  obtain ⟨T25, X25, e25, st25⟩ := getS2 X0 hx hZ hown (host := "") (Or.inl (hw _ (List.mem_of_getElem? (i := 62) rfl))) Via.refl e0 (SC.ext O.2) (g := (mkF m 0 #[.val (.ref b), .val (.ref a)] [])) rfl (hb hby d_jdk_68_method_71_0)
  refine OGo.step st25 ?_
  show OGo p e below _ T25 (mkF m 3 #[.val (.ref b), .val (.ref a)] [(.int zc)])
  refine OGo.step (fun _ k => XS.ifNo X25.here hx rfl (hb hby d_jdk_68_method_71_3) rfl ((if0 _ _).trans (feq hzc).1) k) ?_
  show OGo p e below _ T25 (mkF m 6 #[.val (.ref b), .val (.ref a)] [])
  refine OGo.step (fun _ k => XS.aloadN X25.here hx rfl (hb hby d_jdk_68_method_71_6) rfl rfl k) ?_
  show OGo p e below _ T25 (mkF m 7 #[.val (.ref b), .val (.ref a)] [(.ref b)])
  obtain ⟨T26, X26, e26, st26⟩ := getF X25 hx hZ hown (host := "") (Or.inl (hw _ (List.mem_of_getElem? (i := 65) rfl))) Via.refl e25 JC (g := (mkF m 7 #[.val (.ref b), .val (.ref a)] [(.ref b)])) rfl rfl (hb hby d_jdk_68_method_71_7)
  refine OGo.step st26 ?_
  show OGo p e below _ T26 (mkF m 10 #[.val (.ref b), .val (.ref a)] [(.int (0 : Int32))])
  refine OGo.step (fun _ k => XS.aloadN X26.here hx rfl (hb hby d_jdk_68_method_71_10) rfl rfl k) ?_
  show OGo p e below _ T26 (mkF m 11 #[.val (.ref b), .val (.ref a)] [(.ref a), (.int (0 : Int32))])
  obtain ⟨v27, T27, L27, X27, hQ27, st27⟩ := vcall X26 hx hZ hown (hw _ (List.mem_of_getElem? (i := 105) rfl)) (hw _ (List.mem_of_getElem? (i := 83) rfl)) (hw _ (List.mem_of_getElem? (i := 85) rfl)) rfl (hw _ (List.mem_of_getElem? (i := 85) rfl)) (hw _ (List.mem_of_getElem? (i := 84) rfl)) (hw _ (List.mem_of_getElem? (i := 6) rfl)) (hw _ (List.mem_of_getElem? (i := 86) rfl)) (by decide) (W := 1) (rm_coder l Z a0 hw [] a zc wf n0 h0 SS' O IC) e26 (by decide) (by decide) (by decide) (by decide) (g := (mkF m 11 #[.val (.ref b), .val (.ref a)] [(.ref a), (.int (0 : Int32))])) rfl (by rw [hml]; rfl) IE (argsL := []) (rest := [(.int (0 : Int32))]) opd_0 rfl rfl rfl (by show 2 * 0 + _ ≤ _; exact Nat.le_of_eq rfl) (hb hby d_jdk_68_method_71_11)
  obtain ⟨rfl, rfl, e27⟩ := hQ27
  rw [List.append_nil] at X27
  refine OGo.step st27 ?_
  show OGo p e below _ T27 (mkF m 14 #[.val (.ref b), .val (.ref a)] [(.int (0 : Int32)), (.int (0 : Int32))])
  refine OGo.step (fun _ k => XS.icmpYes X27.here hx rfl (pc0 := 14) (pc' := 21) rfl (hb hby d_jdk_68_method_71_14) rfl (teq (rfl : (0 : Int32) = 0)).1 (by decide) (by decide) k) ?_
  show OGo p e below _ T27 (mkF m 21 #[.val (.ref b), .val (.ref a)] [])
  exact OGo.retV X27 hx hret hlk (hb hby d_jdk_68_method_71_21) (by decide) (by decide) ⟨rfl, rfl, e27⟩
theorem d_jdk_42_method_147_0 : decode jdk_42_method_147_code 0 = .ok (.aload_n 0, 1) := by decide +kernel
theorem d_jdk_42_method_147_1 : decode jdk_42_method_147_code 1 = .ok (.invokevirtual 335, 3) := by decide +kernel
theorem d_jdk_42_method_147_4 : decode jdk_42_method_147_code 4 = .ok (.iload_n 3, 1) := by decide +kernel
theorem d_jdk_42_method_147_5 : decode jdk_42_method_147_code 5 = .ok (.if_icmp .ne 23, 3) := by decide +kernel
theorem d_jdk_42_method_147_8 : decode jdk_42_method_147_code 8 = .ok (.aload_n 0, 1) := by decide +kernel
theorem d_jdk_42_method_147_9 : decode jdk_42_method_147_code 9 = .ok (.getfield 9, 3) := by decide +kernel
theorem d_jdk_42_method_147_12 : decode jdk_42_method_147_code 12 = .ok (.iconst 0, 1) := by decide +kernel
theorem d_jdk_42_method_147_13 : decode jdk_42_method_147_code 13 = .ok (.aload_n 1, 1) := by decide +kernel
theorem d_jdk_42_method_147_14 : decode jdk_42_method_147_code 14 = .ok (.iload_n 2, 1) := by decide +kernel
theorem d_jdk_42_method_147_15 : decode jdk_42_method_147_code 15 = .ok (.iload_n 3, 1) := by decide +kernel
theorem d_jdk_42_method_147_16 : decode jdk_42_method_147_code 16 = .ok (.ishl, 1) := by decide +kernel
theorem d_jdk_42_method_147_17 : decode jdk_42_method_147_code 17 = .ok (.aload_n 0, 1) := by decide +kernel
theorem d_jdk_42_method_147_18 : decode jdk_42_method_147_code 18 = .ok (.getfield 9, 3) := by decide +kernel
theorem d_jdk_42_method_147_21 : decode jdk_42_method_147_code 21 = .ok (.arraylength, 1) := by decide +kernel
theorem d_jdk_42_method_147_22 : decode jdk_42_method_147_code 22 = .ok (.invokestatic 212, 3) := by decide +kernel
theorem d_jdk_42_method_147_25 : decode jdk_42_method_147_code 25 = .ok (.goto 18, 3) := by decide +kernel
theorem d_jdk_42_method_147_43 : decode jdk_42_method_147_code 43 = .ok (.return_, 1) := by decide +kernel
theorem opl_rm_getB : plainFor (⟨"java/lang/String", "getBytes", "([BIB)V"⟩ : MethodName) = true := plainFor_of_name (by first | (simp [plainName, overriddenIn]; done) | decide +kernel)
set_option maxRecDepth 65536 in
set_option maxHeartbeats 40000000 in
theorem rm_getB (l : Launch) (Z : State) (a0 : Array Value) (hw : ∀ d ∈ tables_1, d.before a0 Z = true) (ws : List Jvm.Cond) (d : Addr) (k : ClassId) (z : Int32) (bs : List Value) (a e2 : Addr) (k2 : ClassId) (us : List Value) (zc : Int32) (wf : Value) (n0 : Nat) (h0 : Heap) (SS : own_SS Z zc wf) (O : Old Z n0 h0) (V : Arv Z h0 d k .byte z bs (.int (0 : Int32))) (I : STI Z h0 a e2 k2 us) (g_d : n0 ≤ d) (hs2 : bs.length + us.length ≤ z.toNatClampNeg) (hb1 : us.length < 2147483648) (hb2 : bs.length < 2147483648) :
    Con l Z (⟨"java/lang/String", "getBytes", "([BIB)V"⟩ : MethodName) jdk_42_method_147_code 4 none ws ({ frames := 1, cells := 0, slots := 0, locals := 29 } : Room) #[(.ref a), (.ref d), (.int (Int32.ofNat bs.length)), (.int (0 : Int32))] h0 (fun v h L => v = none ∧ Fr n0 L ∧ Keep h0 h [d] ∧ Arv Z h d k .byte z (bs ++ us) (.int (0 : Int32))) := by
  refine Con.intro opl_rm_getB ?_
  intro p e s m below meth c s₁ hx hby hml hown hret hlk hZ hnm X0 e0
  have SS' := SS
  obtain ⟨hzc, SC, hwf, SF⟩ := SS
  have Z0 : n0 ≤ h0.size := O.1 ▸ O.2.1
  have N0 := Fr.nil n0
  obtain ⟨IE, IC, IF, IV⟩ := I
  refine OGo.cast (g' := (mkF m 0 #[.val (.ref a), .val (.ref d), .val (.int (Int32.ofNat bs.length)), .val (.int (0 : Int32))] [])) (by first | (simp [entryFrame, mkF, argsToLocals, Value.category]; done) | rfl) ?_
  show OGo p e below _ s₁ (mkF m 0 #[.val (.ref a), .val (.ref d), .val (.int (Int32.ofNat bs.length)), .val (.int (0 : Int32))] [])
  refine OGo.step (fun _ k => XS.aloadN X0.here hx rfl (hb hby d_jdk_42_method_147_0) rfl rfl k) ?_
  show OGo p e below _ s₁ (mkF m 1 #[.val (.ref a), .val (.ref d), .val (.int (Int32.ofNat bs.length)), .val (.int (0 : Int32))] [(.ref a)])
  obtain ⟨v28, T28, L28, X28, hQ28, st28⟩ := vcall X0 hx hZ hown (hw _ (List.mem_of_getElem? (i := 82) rfl)) (hw _ (List.mem_of_getElem? (i := 83) rfl)) (hw _ (List.mem_of_getElem? (i := 85) rfl)) rfl (hw _ (List.mem_of_getElem? (i := 85) rfl)) (hw _ (List.mem_of_getElem? (i := 84) rfl)) (hw _ (List.mem_of_getElem? (i := 6) rfl)) (hw _ (List.mem_of_getElem? (i := 86) rfl)) (by decide) (W := 0) (rm_coder l Z a0 hw [] a zc wf n0 h0 SS' O IC) e0 (by decide) (by decide) (by decide) (by decide) (g := (mkF m 1 #[.val (.ref a), .val (.ref d), .val (.int (Int32.ofNat bs.length)), .val (.int (0 : Int32))] [(.ref a)])) rfl (by rw [hml]; rfl) IE (argsL := []) (rest := []) opd_0 rfl rfl rfl (by show 2 * 0 + _ ≤ _; exact Nat.le_of_eq rfl) (hb hby d_jdk_42_method_147_1)
  obtain ⟨rfl, rfl, e28⟩ := hQ28
  rw [List.append_nil] at X28
  refine OGo.step st28 ?_
  show OGo p e below _ T28 (mkF m 4 #[.val (.ref a), .val (.ref d), .val (.int (Int32.ofNat bs.length)), .val (.int (0 : Int32))] [(.int (0 : Int32))])
  refine OGo.step (fun _ k => XS.iloadN X28.here hx rfl (hb hby d_jdk_42_method_147_4) rfl k) ?_
  show OGo p e below _ T28 (mkF m 5 #[.val (.ref a), .val (.ref d), .val (.int (Int32.ofNat bs.length)), .val (.int (0 : Int32))] [(.int (0 : Int32)), (.int (0 : Int32))])
  refine OGo.step (fun _ k => XS.icmpNo X28.here hx rfl (hb hby d_jdk_42_method_147_5) rfl (teq (rfl : (0 : Int32) = 0)).2 k) ?_
  show OGo p e below _ T28 (mkF m 8 #[.val (.ref a), .val (.ref d), .val (.int (Int32.ofNat bs.length)), .val (.int (0 : Int32))] [])
  refine OGo.step (fun _ k => XS.aloadN X28.here hx rfl (hb hby d_jdk_42_method_147_8) rfl rfl k) ?_
  show OGo p e below _ T28 (mkF m 9 #[.val (.ref a), .val (.ref d), .val (.int (Int32.ofNat bs.length)), .val (.int (0 : Int32))] [(.ref a)])
  obtain ⟨T29, X29, e29, st29⟩ := getF X28 hx hZ hown (host := "") (Or.inl (hw _ (List.mem_of_getElem? (i := 24) rfl))) Via.refl e28 IF (g := (mkF m 9 #[.val (.ref a), .val (.ref d), .val (.int (Int32.ofNat bs.length)), .val (.int (0 : Int32))] [(.ref a)])) rfl rfl (hb hby d_jdk_42_method_147_9)
  refine OGo.step st29 ?_
  show OGo p e below _ T29 (mkF m 12 #[.val (.ref a), .val (.ref d), .val (.int (Int32.ofNat bs.length)), .val (.int (0 : Int32))] [(.ref e2)])
  refine OGo.step (fun _ k => XS.iconst X29.here hx rfl (hb hby d_jdk_42_method_147_12) k) ?_
  show OGo p e below _ T29 (mkF m 13 #[.val (.ref a), .val (.ref d), .val (.int (Int32.ofNat bs.length)), .val (.int (0 : Int32))] [(.int (0 : Int32)), (.ref e2)])
  refine OGo.step (fun _ k => XS.aloadN X29.here hx rfl (hb hby d_jdk_42_method_147_13) rfl rfl k) ?_
  show OGo p e below _ T29 (mkF m 14 #[.val (.ref a), .val (.ref d), .val (.int (Int32.ofNat bs.length)), .val (.int (0 : Int32))] [(.ref d), (.int (0 : Int32)), (.ref e2)])
  refine OGo.step (fun _ k => XS.iloadN X29.here hx rfl (hb hby d_jdk_42_method_147_14) rfl k) ?_
  show OGo p e below _ T29 (mkF m 15 #[.val (.ref a), .val (.ref d), .val (.int (Int32.ofNat bs.length)), .val (.int (0 : Int32))] [(.int (Int32.ofNat bs.length)), (.ref d), (.int (0 : Int32)), (.ref e2)])
  refine OGo.step (fun _ k => XS.iloadN X29.here hx rfl (hb hby d_jdk_42_method_147_15) rfl k) ?_
  show OGo p e below _ T29 (mkF m 16 #[.val (.ref a), .val (.ref d), .val (.int (Int32.ofNat bs.length)), .val (.int (0 : Int32))] [(.int (0 : Int32)), (.int (Int32.ofNat bs.length)), (.ref d), (.int (0 : Int32)), (.ref e2)])
  refine OGo.step (fun _ k => XS.ishl X29.here hx rfl (hb hby d_jdk_42_method_147_16) rfl k) ?_
  show OGo p e below _ T29 (mkF m 17 #[.val (.ref a), .val (.ref d), .val (.int (Int32.ofNat bs.length)), .val (.int (0 : Int32))] [(.int ((Int32.ofNat bs.length) <<< ((0 : Int32) &&& 31))), (.ref d), (.int (0 : Int32)), (.ref e2)])
  rw [own_shl0]
  show OGo p e below _ T29 (mkF m 17 #[.val (.ref a), .val (.ref d), .val (.int (Int32.ofNat bs.length)), .val (.int (0 : Int32))] [(.int (Int32.ofNat bs.length)), (.ref d), (.int (0 : Int32)), (.ref e2)])
  refine OGo.step (fun _ k => XS.aloadN X29.here hx rfl (hb hby d_jdk_42_method_147_17) rfl rfl k) ?_
  show OGo p e below _ T29 (mkF m 18 #[.val (.ref a), .val (.ref d), .val (.int (Int32.ofNat bs.length)), .val (.int (0 : Int32))] [(.ref a), (.int (Int32.ofNat bs.length)), (.ref d), (.int (0 : Int32)), (.ref e2)])
  obtain ⟨T30, X30, e30, st30⟩ := getF X29 hx hZ hown (host := "") (Or.inl (hw _ (List.mem_of_getElem? (i := 24) rfl))) Via.refl e29 IF (g := (mkF m 18 #[.val (.ref a), .val (.ref d), .val (.int (Int32.ofNat bs.length)), .val (.int (0 : Int32))] [(.ref a), (.int (Int32.ofNat bs.length)), (.ref d), (.int (0 : Int32)), (.ref e2)])) rfl rfl (hb hby d_jdk_42_method_147_18)
  refine OGo.step st30 ?_
  show OGo p e below _ T30 (mkF m 21 #[.val (.ref a), .val (.ref d), .val (.int (Int32.ofNat bs.length)), .val (.int (0 : Int32))] [(.ref e2), (.int (Int32.ofNat bs.length)), (.ref d), (.int (0 : Int32)), (.ref e2)])
  refine OGo.step (fun _ k => alenV X30 hx hZ e30 IV (g := (mkF m 21 #[.val (.ref a), .val (.ref d), .val (.int (Int32.ofNat bs.length)), .val (.int (0 : Int32))] [(.ref e2), (.int (Int32.ofNat bs.length)), (.ref d), (.int (0 : Int32)), (.ref e2)])) rfl rfl (hb hby d_jdk_42_method_147_21) _ k) ?_
  show OGo p e below _ T30 (mkF m 22 #[.val (.ref a), .val (.ref d), .val (.int (Int32.ofNat bs.length)), .val (.int (0 : Int32))] [(.int (Int32.ofNat us.length)), (.int (Int32.ofNat bs.length)), (.ref d), (.int (0 : Int32)), (.ref e2)])
  obtain ⟨T31, h31, L31, X31, e31, N31, K31, V31, st31⟩ := own_cp X30 hx hZ hown (hw _ (List.mem_of_getElem? (i := 111) rfl)) (hw _ (List.mem_of_getElem? (i := 114) rfl)) (hw _ (List.mem_of_getElem? (i := 112) rfl)) (hw _ (List.mem_of_getElem? (i := 113) rfl)) e30 IV V (by rw [own_cl hb1]; exact Nat.le_refl _) hs2 hb1 hb2 N0 g_d (g := (mkF m 22 #[.val (.ref a), .val (.ref d), .val (.int (Int32.ofNat bs.length)), .val (.int (0 : Int32))] [(.int (Int32.ofNat us.length)), (.int (Int32.ofNat bs.length)), (.ref d), (.int (0 : Int32)), (.ref e2)])) rfl (by rw [hml]; rfl) (rest := []) rfl (hb hby d_jdk_42_method_147_22) (by decide) (W := 0) (by show 2 * 0 + _ ≤ _; exact Nat.le_of_eq rfl) (by decide)
  have KK31 : Keep h0 h31 [d] := (Keep.refl h0 [d]).trans K31 (allS (Or.inl (List.mem_of_getElem? (i := 0) rfl)) all0)
  refine OGo.step st31 ?_
  show OGo p e below _ T31 (mkF m 25 #[.val (.ref a), .val (.ref d), .val (.int (Int32.ofNat bs.length)), .val (.int (0 : Int32))] [])
  refine OGo.step (fun _ k => XS.goto X31.here hx rfl (pc0 := 25) (pc' := 43) rfl (hb hby d_jdk_42_method_147_25) (by decide) (by decide) k) ?_
  show OGo p e below _ T31 (mkF m 43 #[.val (.ref a), .val (.ref d), .val (.int (Int32.ofNat bs.length)), .val (.int (0 : Int32))] [])
  exact OGo.retV X31 hx hret hlk (hb hby d_jdk_42_method_147_43) (by decide) (by decide) (by rw [e31]; exact ⟨rfl, N31, KK31, V31⟩)
theorem d_jdk_68_method_73_0 : decode jdk_68_method_73_code 0 = .ok (.aload_n 0, 1) := by decide +kernel
theorem d_jdk_68_method_73_1 : decode jdk_68_method_73_code 1 = .ok (.aload_n 2, 1) := by decide +kernel
theorem opd_6 : parseMethodDescriptor "(Ljava/lang/String;)V" = some ⟨[(.object "java/lang/String")], none⟩ := by decide +kernel
theorem d_jdk_68_method_73_2 : decode jdk_68_method_73_code 2 = .ok (.invokevirtual 397, 3) := by decide +kernel
theorem d_jdk_68_method_73_5 : decode jdk_68_method_73_code 5 = .ok (.aload_n 2, 1) := by decide +kernel
theorem d_jdk_68_method_73_6 : decode jdk_68_method_73_code 6 = .ok (.aload_n 0, 1) := by decide +kernel
theorem d_jdk_68_method_73_7 : decode jdk_68_method_73_code 7 = .ok (.getfield 15, 3) := by decide +kernel
theorem d_jdk_68_method_73_10 : decode jdk_68_method_73_code 10 = .ok (.iload_n 1, 1) := by decide +kernel
theorem d_jdk_68_method_73_11 : decode jdk_68_method_73_code 11 = .ok (.aload_n 0, 1) := by decide +kernel
theorem d_jdk_68_method_73_12 : decode jdk_68_method_73_code 12 = .ok (.getfield 22, 3) := by decide +kernel
theorem opd_7 : parseMethodDescriptor "([BIB)V" = some ⟨[(.array .byte), .int, .byte], none⟩ := by decide +kernel
theorem d_jdk_68_method_73_15 : decode jdk_68_method_73_code 15 = .ok (.invokevirtual 399, 3) := by decide +kernel
theorem d_jdk_68_method_73_18 : decode jdk_68_method_73_code 18 = .ok (.return_, 1) := by decide +kernel
theorem opl_rm_put : plainFor (⟨"java/lang/AbstractStringBuilder", "putStringAt", "(ILjava/lang/String;)V"⟩ : MethodName) = true := plainFor_of_name (by first | (simp [plainName, overriddenIn]; done) | decide +kernel)
set_option maxRecDepth 65536 in
set_option maxHeartbeats 40000000 in
theorem rm_put (l : Launch) (Z : State) (a0 : Array Value) (hw : ∀ d ∈ tables_1, d.before a0 Z = true) (ws : List Jvm.Cond) (b d : Addr) (k : ClassId) (z : Int32) (bs : List Value) (a e2 : Addr) (k2 : ClassId) (us : List Value) (zc : Int32) (wf : Value) (n0 : Nat) (h0 : Heap) (SS : own_SS Z zc wf) (O : Old Z n0 h0) (J : SBI Z h0 b d k z bs) (I : STI Z h0 a e2 k2 us) (g_b : n0 ≤ b) (g_d : n0 ≤ d) (hs2 : bs.length + us.length ≤ z.toNatClampNeg) (hb1 : us.length < 2147483648) (hb2 : bs.length < 2147483648) (nde : e2 ≠ d) (nab : a ≠ b) :
    Con l Z (⟨"java/lang/AbstractStringBuilder", "putStringAt", "(ILjava/lang/String;)V"⟩ : MethodName) jdk_68_method_73_code 3 none ws ({ frames := 2, cells := 0, slots := 0, locals := 44 } : Room) #[(.ref b), (.int (Int32.ofNat bs.length)), (.ref a)] h0 (fun v h L => v = none ∧ Fr n0 L ∧ Keep h0 h [d] ∧ Arv Z h d k .byte z (bs ++ us) (.int (0 : Int32))) := by
  refine Con.intro opl_rm_put ?_
  intro p e s m below meth c s₁ hx hby hml hown hret hlk hZ hnm X0 e0
  have SS' := SS
  obtain ⟨hzc, SC, hwf, SF⟩ := SS
  have Z0 : n0 ≤ h0.size := O.1 ▸ O.2.1
  have N0 := Fr.nil n0
  obtain ⟨JE, JF, JC, JN, JV⟩ := J
  obtain ⟨IE, IC, IF, IV⟩ := I
  refine OGo.cast (g' := (mkF m 0 #[.val (.ref b), .val (.int (Int32.ofNat bs.length)), .val (.ref a)] [])) (by first | (simp [entryFrame, mkF, argsToLocals, Value.category]; done) | rfl) ?_
  show OGo p e below _ s₁ (mkF m 0 #[.val (.ref b), .val (.int (Int32.ofNat bs.length)), .val (.ref a)] [])
  refine OGo.step (fun _ k => XS.aloadN X0.here hx rfl (hb hby d_jdk_68_method_73_0) rfl rfl k) ?_
  show OGo p e below _ s₁ (mkF m 1 #[.val (.ref b), .val (.int (Int32.ofNat bs.length)), .val (.ref a)] [(.ref b)])
  refine OGo.step (fun _ k => XS.aloadN X0.here hx rfl (hb hby d_jdk_68_method_73_1) rfl rfl k) ?_
  show OGo p e below _ s₁ (mkF m 2 #[.val (.ref b), .val (.int (Int32.ofNat bs.length)), .val (.ref a)] [(.ref a), (.ref b)])
  obtain ⟨v32, T32, L32, X32, hQ32, st32⟩ := pcall X0 hx hZ hown (hw _ (List.mem_of_getElem? (i := 100) rfl)) (hw _ (List.mem_of_getElem? (i := 101) rfl)) (hw _ (List.mem_of_getElem? (i := 103) rfl)) (hw _ (List.mem_of_getElem? (i := 102) rfl)) (hw _ (List.mem_of_getElem? (i := 59) rfl)) (hw _ (List.mem_of_getElem? (i := 104) rfl)) (by decide) (W := 0) (rm_infl l Z a0 hw [] b d k z bs a e2 k2 us zc wf n0 h0 SS' O ⟨JE, JF, JC, JN, JV⟩ ⟨IE, IC, IF, IV⟩) e0 (by decide) (by decide) (by decide) (by decide) (g := (mkF m 2 #[.val (.ref b), .val (.int (Int32.ofNat bs.length)), .val (.ref a)] [(.ref a), (.ref b)])) rfl (by rw [hml]; rfl) JE (argsL := [(.ref a)]) (rest := []) opd_6 rfl rfl rfl (by show 2 * 0 + _ ≤ _; exact Nat.le_of_eq rfl) (hb hby d_jdk_68_method_73_2)
  obtain ⟨rfl, rfl, e32⟩ := hQ32
  rw [List.append_nil] at X32
  refine OGo.step st32 ?_
  show OGo p e below _ T32 (mkF m 5 #[.val (.ref b), .val (.int (Int32.ofNat bs.length)), .val (.ref a)] [])
  refine OGo.step (fun _ k => XS.aloadN X32.here hx rfl (hb hby d_jdk_68_method_73_5) rfl rfl k) ?_
  show OGo p e below _ T32 (mkF m 6 #[.val (.ref b), .val (.int (Int32.ofNat bs.length)), .val (.ref a)] [(.ref a)])
  refine OGo.step (fun _ k => XS.aloadN X32.here hx rfl (hb hby d_jdk_68_method_73_6) rfl rfl k) ?_
  show OGo p e below _ T32 (mkF m 7 #[.val (.ref b), .val (.int (Int32.ofNat bs.length)), .val (.ref a)] [(.ref b), (.ref a)])
  obtain ⟨T33, X33, e33, st33⟩ := getF X32 hx hZ hown (host := "") (Or.inl (hw _ (List.mem_of_getElem? (i := 63) rfl))) Via.refl e32 JF (g := (mkF m 7 #[.val (.ref b), .val (.int (Int32.ofNat bs.length)), .val (.ref a)] [(.ref b), (.ref a)])) rfl rfl (hb hby d_jdk_68_method_73_7)
  refine OGo.step st33 ?_
  show OGo p e below _ T33 (mkF m 10 #[.val (.ref b), .val (.int (Int32.ofNat bs.length)), .val (.ref a)] [(.ref d), (.ref a)])
  refine OGo.step (fun _ k => XS.iloadN X33.here hx rfl (hb hby d_jdk_68_method_73_10) rfl k) ?_
  show OGo p e below _ T33 (mkF m 11 #[.val (.ref b), .val (.int (Int32.ofNat bs.length)), .val (.ref a)] [(.int (Int32.ofNat bs.length)), (.ref d), (.ref a)])
  refine OGo.step (fun _ k => XS.aloadN X33.here hx rfl (hb hby d_jdk_68_method_73_11) rfl rfl k) ?_
  show OGo p e below _ T33 (mkF m 12 #[.val (.ref b), .val (.int (Int32.ofNat bs.length)), .val (.ref a)] [(.ref b), (.int (Int32.ofNat bs.length)), (.ref d), (.ref a)])
  obtain ⟨T34, X34, e34, st34⟩ := getF X33 hx hZ hown (host := "") (Or.inl (hw _ (List.mem_of_getElem? (i := 65) rfl))) Via.refl e33 JC (g := (mkF m 12 #[.val (.ref b), .val (.int (Int32.ofNat bs.length)), .val (.ref a)] [(.ref b), (.int (Int32.ofNat bs.length)), (.ref d), (.ref a)])) rfl rfl (hb hby d_jdk_68_method_73_12)
  refine OGo.step st34 ?_
  show OGo p e below _ T34 (mkF m 15 #[.val (.ref b), .val (.int (Int32.ofNat bs.length)), .val (.ref a)] [(.int (0 : Int32)), (.int (Int32.ofNat bs.length)), (.ref d), (.ref a)])
  obtain ⟨v35, T35, L35, X35, hQ35, st35⟩ := vcall X34 hx hZ hown (hw _ (List.mem_of_getElem? (i := 106) rfl)) (hw _ (List.mem_of_getElem? (i := 107) rfl)) (hw _ (List.mem_of_getElem? (i := 109) rfl)) rfl (hw _ (List.mem_of_getElem? (i := 109) rfl)) (hw _ (List.mem_of_getElem? (i := 108) rfl)) (hw _ (List.mem_of_getElem? (i := 6) rfl)) (hw _ (List.mem_of_getElem? (i := 110) rfl)) (by decide) (W := 0) (rm_getB l Z a0 hw [] d k z bs a e2 k2 us zc wf n0 h0 SS' O JV ⟨IE, IC, IF, IV⟩ g_d hs2 hb1 hb2) e34 (by decide) (by decide) (by decide) (by decide) (g := (mkF m 15 #[.val (.ref b), .val (.int (Int32.ofNat bs.length)), .val (.ref a)] [(.int (0 : Int32)), (.int (Int32.ofNat bs.length)), (.ref d), (.ref a)])) rfl (by rw [hml]; rfl) IE (argsL := [(.ref d), (.int (Int32.ofNat bs.length)), (.int (0 : Int32))]) (rest := []) opd_7 rfl rfl rfl (by show 2 * 0 + _ ≤ _; exact Nat.le_of_eq rfl) (hb hby d_jdk_68_method_73_15)
  obtain ⟨rfl, N35, K35, V35⟩ := hQ35
  have NN35 := Fr.app N0 N35
  have KK35 : Keep h0 T35.heap [d] := (Keep.refl h0 [d]).trans K35 (allS (Or.inl (List.mem_of_getElem? (i := 0) rfl)) all0)
  refine OGo.step st35 ?_
  show OGo p e below _ T35 (mkF m 18 #[.val (.ref b), .val (.int (Int32.ofNat bs.length)), .val (.ref a)] [])
  exact OGo.retV X35 hx hret hlk (hb hby d_jdk_68_method_73_18) (by decide) (by decide) ⟨rfl, NN35, KK35, V35⟩
theorem d_jdk_68_method_22_0 : decode jdk_68_method_22_code 0 = .ok (.aload_n 1, 1) := by decide +kernel
theorem d_jdk_68_method_22_1 : decode jdk_68_method_22_code 1 = .ok (.ifnonnull 8, 3) := by decide +kernel
theorem d_jdk_68_method_22_9 : decode jdk_68_method_22_code 9 = .ok (.aload_n 1, 1) := by decide +kernel
theorem opd_8 : parseMethodDescriptor "()I" = some ⟨[], some .int⟩ := by decide +kernel
theorem d_jdk_68_method_22_10 : decode jdk_68_method_22_code 10 = .ok (.invokevirtual 32, 3) := by decide +kernel
theorem d_jdk_68_method_22_13 : decode jdk_68_method_22_code 13 = .ok (.istore_n 2, 1) := by decide +kernel
theorem d_jdk_68_method_22_14 : decode jdk_68_method_22_code 14 = .ok (.aload_n 0, 1) := by decide +kernel
theorem d_jdk_68_method_22_15 : decode jdk_68_method_22_code 15 = .ok (.aload_n 0, 1) := by decide +kernel
theorem d_jdk_68_method_22_16 : decode jdk_68_method_22_code 16 = .ok (.getfield 79, 3) := by decide +kernel
theorem d_jdk_68_method_22_19 : decode jdk_68_method_22_code 19 = .ok (.iload_n 2, 1) := by decide +kernel
theorem d_jdk_68_method_22_20 : decode jdk_68_method_22_code 20 = .ok (.iadd, 1) := by decide +kernel
theorem d_jdk_68_method_22_21 : decode jdk_68_method_22_code 21 = .ok (.invokevirtual 100, 3) := by decide +kernel
theorem d_jdk_68_method_22_24 : decode jdk_68_method_22_code 24 = .ok (.aload_n 0, 1) := by decide +kernel
theorem d_jdk_68_method_22_25 : decode jdk_68_method_22_code 25 = .ok (.aload_n 0, 1) := by decide +kernel
theorem d_jdk_68_method_22_26 : decode jdk_68_method_22_code 26 = .ok (.getfield 79, 3) := by decide +kernel
theorem d_jdk_68_method_22_29 : decode jdk_68_method_22_code 29 = .ok (.aload_n 1, 1) := by decide +kernel
theorem opd_9 : parseMethodDescriptor "(ILjava/lang/String;)V" = some ⟨[.int, (.object "java/lang/String")], none⟩ := by decide +kernel
theorem d_jdk_68_method_22_30 : decode jdk_68_method_22_code 30 = .ok (.invokevirtual 208, 3) := by decide +kernel
theorem d_jdk_68_method_22_33 : decode jdk_68_method_22_code 33 = .ok (.aload_n 0, 1) := by decide +kernel
theorem d_jdk_68_method_22_34 : decode jdk_68_method_22_code 34 = .ok (.dup, 1) := by decide +kernel
theorem d_jdk_68_method_22_35 : decode jdk_68_method_22_code 35 = .ok (.getfield 79, 3) := by decide +kernel
theorem d_jdk_68_method_22_38 : decode jdk_68_method_22_code 38 = .ok (.iload_n 2, 1) := by decide +kernel
theorem d_jdk_68_method_22_39 : decode jdk_68_method_22_code 39 = .ok (.iadd, 1) := by decide +kernel
theorem d_jdk_68_method_22_40 : decode jdk_68_method_22_code 40 = .ok (.putfield 79, 3) := by decide +kernel
theorem d_jdk_68_method_22_43 : decode jdk_68_method_22_code 43 = .ok (.aload_n 0, 1) := by decide +kernel
theorem d_jdk_68_method_22_44 : decode jdk_68_method_22_code 44 = .ok (.areturn, 1) := by decide +kernel
theorem opl_rm_asbApp : plainFor (⟨"java/lang/AbstractStringBuilder", "append", "(Ljava/lang/String;)Ljava/lang/AbstractStringBuilder;"⟩ : MethodName) = true := plainFor_of_name (by first | (simp [plainName, overriddenIn]; done) | decide +kernel)
set_option maxRecDepth 65536 in
set_option maxHeartbeats 40000000 in
theorem rm_asbApp (l : Launch) (Z : State) (a0 : Array Value) (hw : ∀ d ∈ tables_1, d.before a0 Z = true) (ws : List Jvm.Cond) (b d : Addr) (k : ClassId) (z : Int32) (bs : List Value) (a e2 : Addr) (k2 : ClassId) (us : List Value) (zc : Int32) (wf : Value) (n0 : Nat) (h0 : Heap) (SS : own_SS Z zc wf) (O : Old Z n0 h0) (J : SBI Z h0 b d k z bs) (I : STI Z h0 a e2 k2 us) (g_b : n0 ≤ b) (g_d : n0 ≤ d) (hs2 : bs.length + us.length ≤ z.toNatClampNeg) (hb1 : us.length < 2147483648) (hb2 : bs.length < 2147483648) (nde : e2 ≠ d) (nab : a ≠ b) (hz0 : ¬ z < 0) :
    Con l Z (⟨"java/lang/AbstractStringBuilder", "append", "(Ljava/lang/String;)Ljava/lang/AbstractStringBuilder;"⟩ : MethodName) jdk_68_method_22_code 3 (some (.object "java/lang/AbstractStringBuilder")) ws ({ frames := 3, cells := 0, slots := 0, locals := 58 } : Room) #[(.ref b), (.ref a)] h0 (fun v h L => v = some (.ref b) ∧ Fr n0 L ∧ Keep h0 h [b, d] ∧ SBI Z h b d k z (bs ++ us)) := by
  refine Con.intro opl_rm_asbApp ?_
  intro p e s m below meth c s₁ hx hby hml hown hret hlk hZ hnm X0 e0
  have SS' := SS
  obtain ⟨hzc, SC, hwf, SF⟩ := SS
  have Z0 : n0 ≤ h0.size := O.1 ▸ O.2.1
  have N0 := Fr.nil n0
  obtain ⟨JE, JF, JC, JN, JV⟩ := J
  obtain ⟨IE, IC, IF, IV⟩ := I
  have nbd : b ≠ d := JE.neArv JV (hw _ (List.mem_of_getElem? (i := 50) rfl))
  refine OGo.cast (g' := (mkF m 0 #[.val (.ref b), .val (.ref a), .unset] [])) (by first | (simp [entryFrame, mkF, argsToLocals, Value.category]; done) | rfl) ?_
  show OGo p e below _ s₁ (mkF m 0 #[.val (.ref b), .val (.ref a), .unset] [])
  refine OGo.step (fun _ k => XS.aloadN X0.here hx rfl (hb hby d_jdk_68_method_22_0) rfl rfl k) ?_
  show OGo p e below _ s₁ (mkF m 1 #[.val (.ref b), .val (.ref a), .unset] [(.ref a)])
  refine OGo.step (fun _ k => XS.ifnonnullYes X0.here hx rfl (pc0 := 1) (pc' := 9) rfl (hb hby d_jdk_68_method_22_1) rfl (by decide) (by decide) k) ?_
  show OGo p e below _ s₁ (mkF m 9 #[.val (.ref b), .val (.ref a), .unset] [])
  refine OGo.step (fun _ k => XS.aloadN X0.here hx rfl (hb hby d_jdk_68_method_22_9) rfl rfl k) ?_
  show OGo p e below _ s₁ (mkF m 10 #[.val (.ref b), .val (.ref a), .unset] [(.ref a)])
  obtain ⟨v36, T36, L36, X36, hQ36, st36⟩ := vcall X0 hx hZ hown (hw _ (List.mem_of_getElem? (i := 77) rfl)) (hw _ (List.mem_of_getElem? (i := 78) rfl)) (hw _ (List.mem_of_getElem? (i := 80) rfl)) rfl (hw _ (List.mem_of_getElem? (i := 80) rfl)) (hw _ (List.mem_of_getElem? (i := 79) rfl)) (hw _ (List.mem_of_getElem? (i := 6) rfl)) (hw _ (List.mem_of_getElem? (i := 81) rfl)) (by decide) (W := 0) (rm_length l Z a0 hw [] a e2 k2 us zc wf n0 h0 SS' O ⟨IE, IC, IF, IV⟩) e0 (by decide) (by decide) (by decide) (by decide) (g := (mkF m 10 #[.val (.ref b), .val (.ref a), .unset] [(.ref a)])) rfl (by rw [hml]; rfl) IE (argsL := []) (rest := []) opd_8 rfl rfl rfl (by show 2 * 0 + _ ≤ _; exact Nat.le_of_eq rfl) (hb hby d_jdk_68_method_22_10)
  obtain ⟨rfl, rfl, e36⟩ := hQ36
  rw [List.append_nil] at X36
  refine OGo.step st36 ?_
  show OGo p e below _ T36 (mkF m 13 #[.val (.ref b), .val (.ref a), .unset] [(.int (Int32.ofNat us.length))])
  refine OGo.step (fun _ k => XS.istoreN X36.here hx rfl (hb hby d_jdk_68_method_22_13) rfl (l' := #[.val (.ref b), .val (.ref a), .val (.int (Int32.ofNat us.length))]) rfl k) ?_
  show OGo p e below _ T36 (mkF m 14 #[.val (.ref b), .val (.ref a), .val (.int (Int32.ofNat us.length))] [])
  refine OGo.step (fun _ k => XS.aloadN X36.here hx rfl (hb hby d_jdk_68_method_22_14) rfl rfl k) ?_
  show OGo p e below _ T36 (mkF m 15 #[.val (.ref b), .val (.ref a), .val (.int (Int32.ofNat us.length))] [(.ref b)])
  refine OGo.step (fun _ k => XS.aloadN X36.here hx rfl (hb hby d_jdk_68_method_22_15) rfl rfl k) ?_
  show OGo p e below _ T36 (mkF m 16 #[.val (.ref b), .val (.ref a), .val (.int (Int32.ofNat us.length))] [(.ref b), (.ref b)])
  obtain ⟨T37, X37, e37, st37⟩ := getF X36 hx hZ hown (host := "") (Or.inl (hw _ (List.mem_of_getElem? (i := 88) rfl))) Via.refl e36 JN (g := (mkF m 16 #[.val (.ref b), .val (.ref a), .val (.int (Int32.ofNat us.length))] [(.ref b), (.ref b)])) rfl rfl (hb hby d_jdk_68_method_22_16)
  refine OGo.step st37 ?_
  show OGo p e below _ T37 (mkF m 19 #[.val (.ref b), .val (.ref a), .val (.int (Int32.ofNat us.length))] [(.int (Int32.ofNat bs.length)), (.ref b)])
  refine OGo.step (fun _ k => XS.iloadN X37.here hx rfl (hb hby d_jdk_68_method_22_19) rfl k) ?_
  show OGo p e below _ T37 (mkF m 20 #[.val (.ref b), .val (.ref a), .val (.int (Int32.ofNat us.length))] [(.int (Int32.ofNat us.length)), (.int (Int32.ofNat bs.length)), (.ref b)])
  refine OGo.step (fun _ k => XS.iadd X37.here hx rfl (hb hby d_jdk_68_method_22_20) rfl k) ?_
  show OGo p e below _ T37 (mkF m 21 #[.val (.ref b), .val (.ref a), .val (.int (Int32.ofNat us.length))] [(.int ((Int32.ofNat bs.length) + (Int32.ofNat us.length))), (.ref b)])
  obtain ⟨v38, T38, L38, X38, hQ38, st38⟩ := pcall X37 hx hZ hown (hw _ (List.mem_of_getElem? (i := 90) rfl)) (hw _ (List.mem_of_getElem? (i := 91) rfl)) (hw _ (List.mem_of_getElem? (i := 93) rfl)) (hw _ (List.mem_of_getElem? (i := 92) rfl)) (hw _ (List.mem_of_getElem? (i := 59) rfl)) (hw _ (List.mem_of_getElem? (i := 94) rfl)) (by decide) (W := 0) (rm_ens l Z a0 hw [] b d k z bs ((Int32.ofNat bs.length) + (Int32.ofNat us.length)) zc wf n0 h0 SS' O ⟨JE, JF, JC, JN, JV⟩ (own_noroom hs2 hz0)) e37 (by decide) (by decide) (by decide) (by decide) (g := (mkF m 21 #[.val (.ref b), .val (.ref a), .val (.int (Int32.ofNat us.length))] [(.int ((Int32.ofNat bs.length) + (Int32.ofNat us.length))), (.ref b)])) rfl (by rw [hml]; rfl) JE (argsL := [(.int ((Int32.ofNat bs.length) + (Int32.ofNat us.length)))]) (rest := []) opd_5 rfl rfl rfl (by show 2 * 0 + _ ≤ _; exact Nat.le_of_eq rfl) (hb hby d_jdk_68_method_22_21)
  obtain ⟨rfl, rfl, e38⟩ := hQ38
  rw [List.append_nil] at X38
  refine OGo.step st38 ?_
  show OGo p e below _ T38 (mkF m 24 #[.val (.ref b), .val (.ref a), .val (.int (Int32.ofNat us.length))] [])
  refine OGo.step (fun _ k => XS.aloadN X38.here hx rfl (hb hby d_jdk_68_method_22_24) rfl rfl k) ?_
  show OGo p e below _ T38 (mkF m 25 #[.val (.ref b), .val (.ref a), .val (.int (Int32.ofNat us.length))] [(.ref b)])
  refine OGo.step (fun _ k => XS.aloadN X38.here hx rfl (hb hby d_jdk_68_method_22_25) rfl rfl k) ?_
  show OGo p e below _ T38 (mkF m 26 #[.val (.ref b), .val (.ref a), .val (.int (Int32.ofNat us.length))] [(.ref b), (.ref b)])
  obtain ⟨T39, X39, e39, st39⟩ := getF X38 hx hZ hown (host := "") (Or.inl (hw _ (List.mem_of_getElem? (i := 88) rfl))) Via.refl e38 JN (g := (mkF m 26 #[.val (.ref b), .val (.ref a), .val (.int (Int32.ofNat us.length))] [(.ref b), (.ref b)])) rfl rfl (hb hby d_jdk_68_method_22_26)
  refine OGo.step st39 ?_
  show OGo p e below _ T39 (mkF m 29 #[.val (.ref b), .val (.ref a), .val (.int (Int32.ofNat us.length))] [(.int (Int32.ofNat bs.length)), (.ref b)])
  refine OGo.step (fun _ k => XS.aloadN X39.here hx rfl (hb hby d_jdk_68_method_22_29) rfl rfl k) ?_
  show OGo p e below _ T39 (mkF m 30 #[.val (.ref b), .val (.ref a), .val (.int (Int32.ofNat us.length))] [(.ref a), (.int (Int32.ofNat bs.length)), (.ref b)])
  obtain ⟨v40, T40, L40, X40, hQ40, st40⟩ := pcall X39 hx hZ hown (hw _ (List.mem_of_getElem? (i := 95) rfl)) (hw _ (List.mem_of_getElem? (i := 96) rfl)) (hw _ (List.mem_of_getElem? (i := 98) rfl)) (hw _ (List.mem_of_getElem? (i := 97) rfl)) (hw _ (List.mem_of_getElem? (i := 59) rfl)) (hw _ (List.mem_of_getElem? (i := 99) rfl)) (by decide) (W := 0) (rm_put l Z a0 hw [] b d k z bs a e2 k2 us zc wf n0 h0 SS' O ⟨JE, JF, JC, JN, JV⟩ ⟨IE, IC, IF, IV⟩ g_b g_d hs2 hb1 hb2 nde nab) e39 (by decide) (by decide) (by decide) (by decide) (g := (mkF m 30 #[.val (.ref b), .val (.ref a), .val (.int (Int32.ofNat us.length))] [(.ref a), (.int (Int32.ofNat bs.length)), (.ref b)])) rfl (by rw [hml]; rfl) JE (argsL := [(.int (Int32.ofNat bs.length)), (.ref a)]) (rest := []) opd_9 rfl rfl rfl (by show 2 * 0 + _ ≤ _; exact Nat.le_of_eq rfl) (hb hby d_jdk_68_method_22_30)
  obtain ⟨rfl, N40, K40, V40⟩ := hQ40
  have NN40 := Fr.app N0 N40
  have KK40 : Keep h0 T40.heap [b, d] := (Keep.refl h0 [b, d]).trans K40 (allS (Or.inl (List.mem_of_getElem? (i := 1) rfl)) all0)
  refine OGo.step st40 ?_
  show OGo p e below _ T40 (mkF m 33 #[.val (.ref b), .val (.ref a), .val (.int (Int32.ofNat us.length))] [])
  refine OGo.step (fun _ k => XS.aloadN X40.here hx rfl (hb hby d_jdk_68_method_22_33) rfl rfl k) ?_
  show OGo p e below _ T40 (mkF m 34 #[.val (.ref b), .val (.ref a), .val (.int (Int32.ofNat us.length))] [(.ref b)])
  refine OGo.step (fun _ k => XS.dup X40.here hx rfl (hb hby d_jdk_68_method_22_34) rfl rfl k) ?_
  show OGo p e below _ T40 (mkF m 35 #[.val (.ref b), .val (.ref a), .val (.int (Int32.ofNat us.length))] [(.ref b), (.ref b)])
  obtain ⟨T41, X41, e41, st41⟩ := getF X40 hx hZ hown (host := "") (Or.inl (hw _ (List.mem_of_getElem? (i := 88) rfl))) Via.refl rfl (JN.keep K40 (ninS nbd nin0)) (g := (mkF m 35 #[.val (.ref b), .val (.ref a), .val (.int (Int32.ofNat us.length))] [(.ref b), (.ref b)])) rfl rfl (hb hby d_jdk_68_method_22_35)
  refine OGo.step st41 ?_
  show OGo p e below _ T41 (mkF m 38 #[.val (.ref b), .val (.ref a), .val (.int (Int32.ofNat us.length))] [(.int (Int32.ofNat bs.length)), (.ref b)])
  refine OGo.step (fun _ k => XS.iloadN X41.here hx rfl (hb hby d_jdk_68_method_22_38) rfl k) ?_
  show OGo p e below _ T41 (mkF m 39 #[.val (.ref b), .val (.ref a), .val (.int (Int32.ofNat us.length))] [(.int (Int32.ofNat us.length)), (.int (Int32.ofNat bs.length)), (.ref b)])
  refine OGo.step (fun _ k => XS.iadd X41.here hx rfl (hb hby d_jdk_68_method_22_39) rfl k) ?_
  show OGo p e below _ T41 (mkF m 40 #[.val (.ref b), .val (.ref a), .val (.int (Int32.ofNat us.length))] [(.int ((Int32.ofNat bs.length) + (Int32.ofNat us.length))), (.ref b)])
  rw [own_addln]
  show OGo p e below _ T41 (mkF m 40 #[.val (.ref b), .val (.ref a), .val (.int (Int32.ofNat us.length))] [(.int (Int32.ofNat (bs ++ us).length)), (.ref b)])
  obtain ⟨T42, h42, X42, e42, W42, st42⟩ := putF X41 hx hZ hown (host := "") (Or.inl (hw _ (List.mem_of_getElem? (i := 88) rfl))) Via.refl e41 (JN.keep K40 (ninS nbd nin0)) (JE.keep K40) (Or.inl (hw _ (List.mem_of_getElem? (i := 89) rfl))) (hw _ (List.mem_of_getElem? (i := 50) rfl)) (ty := .int) (by decide) rfl rfl (g := (mkF m 40 #[.val (.ref b), .val (.ref a), .val (.int (Int32.ofNat us.length))] [(.int (Int32.ofNat (bs ++ us).length)), (.ref b)])) rfl rfl (hb hby d_jdk_68_method_22_40)
  have Fw42 := (JN.keep K40 (ninS nbd nin0)).same W42
  have N42 := Fr.snoc X42 NN40 g_b
  have KK42 : Keep h0 h42 [b, d] := KK40.wr W42 (Or.inl (List.mem_of_getElem? (i := 0) rfl))
  refine OGo.step st42 ?_
  show OGo p e below _ T42 (mkF m 43 #[.val (.ref b), .val (.ref a), .val (.int (Int32.ofNat us.length))] [])
  refine OGo.step (fun _ k => XS.aloadN X42.here hx rfl (hb hby d_jdk_68_method_22_43) rfl rfl k) ?_
  show OGo p e below _ T42 (mkF m 44 #[.val (.ref b), .val (.ref a), .val (.int (Int32.ofNat us.length))] [(.ref b)])
  have q43 := ((JF.keep K40 (ninS nbd nin0)).other W42 (Or.inr (slot_ne (Or.inl (hw _ (List.mem_of_getElem? (i := 64) rfl))) (Or.inl (hw _ (List.mem_of_getElem? (i := 89) rfl))) (by decide) (t := (.array .byte)) (t' := .int) (by decide) (by decide))))
  have q44 := ((JC.keep K40 (ninS nbd nin0)).other W42 (Or.inr (slot_ne (Or.inl (hw _ (List.mem_of_getElem? (i := 66) rfl))) (Or.inl (hw _ (List.mem_of_getElem? (i := 89) rfl))) (by decide) (t := .byte) (t' := .int) (by decide) (by decide))))
  exact OGo.ret X42 hx (t := (.object "java/lang/AbstractStringBuilder")) hret hlk rfl (Or.inr (Or.inr (Or.inr (Or.inr ⟨rfl, rfl, rfl⟩)))) (hb hby d_jdk_68_method_22_44) (by decide) (by decide) (by rw [e42]; exact ⟨rfl, N42, KK42, ⟨((JE.keep K40).wr W42), q43, q44, Fw42, (V40.other W42 (Ne.symm nbd))⟩⟩)
theorem d_jdk_67_method_7_0 : decode jdk_67_method_7_code 0 = .ok (.aload_n 0, 1) := by decide +kernel
theorem d_jdk_67_method_7_1 : decode jdk_67_method_7_code 1 = .ok (.aload_n 1, 1) := by decide +kernel
theorem opd_10 : parseMethodDescriptor "(Ljava/lang/String;)Ljava/lang/AbstractStringBuilder;" = some ⟨[(.object "java/lang/String")], some (.object "java/lang/AbstractStringBuilder")⟩ := by decide +kernel
theorem d_jdk_67_method_7_2 : decode jdk_67_method_7_code 2 = .ok (.invokespecial 29, 3) := by decide +kernel
theorem d_jdk_67_method_7_5 : decode jdk_67_method_7_code 5 = .ok (.pop, 1) := by decide +kernel
theorem d_jdk_67_method_7_6 : decode jdk_67_method_7_code 6 = .ok (.aload_n 0, 1) := by decide +kernel
theorem d_jdk_67_method_7_7 : decode jdk_67_method_7_code 7 = .ok (.areturn, 1) := by decide +kernel
theorem opl_rm_sbApp : plainFor (⟨"java/lang/StringBuilder", "append", "(Ljava/lang/String;)Ljava/lang/StringBuilder;"⟩ : MethodName) = true := plainFor_of_name (by first | (simp [plainName, overriddenIn]; done) | decide +kernel)
set_option maxRecDepth 65536 in
set_option maxHeartbeats 40000000 in
theorem rm_sbApp (l : Launch) (Z : State) (a0 : Array Value) (hw : ∀ d ∈ tables_1, d.before a0 Z = true) (ws : List Jvm.Cond) (b d : Addr) (k : ClassId) (z : Int32) (bs : List Value) (a e2 : Addr) (k2 : ClassId) (us : List Value) (zc : Int32) (wf : Value) (n0 : Nat) (h0 : Heap) (SS : own_SS Z zc wf) (O : Old Z n0 h0) (J : SBI Z h0 b d k z bs) (I : STI Z h0 a e2 k2 us) (g_b : n0 ≤ b) (g_d : n0 ≤ d) (hs2 : bs.length + us.length ≤ z.toNatClampNeg) (hb1 : us.length < 2147483648) (hb2 : bs.length < 2147483648) (nde : e2 ≠ d) (nab : a ≠ b) (hz0 : ¬ z < 0) :
    Con l Z (⟨"java/lang/StringBuilder", "append", "(Ljava/lang/String;)Ljava/lang/StringBuilder;"⟩ : MethodName) jdk_67_method_7_code 2 (some (.object "java/lang/StringBuilder")) ws ({ frames := 4, cells := 0, slots := 0, locals := 72 } : Room) #[(.ref b), (.ref a)] h0 (fun v h L => v = some (.ref b) ∧ Fr n0 L ∧ Keep h0 h [b, d] ∧ SBI Z h b d k z (bs ++ us)) := by
  refine Con.intro opl_rm_sbApp ?_
  intro p e s m below meth c s₁ hx hby hml hown hret hlk hZ hnm X0 e0
  have SS' := SS
  obtain ⟨hzc, SC, hwf, SF⟩ := SS
  have Z0 : n0 ≤ h0.size := O.1 ▸ O.2.1
  have N0 := Fr.nil n0
  obtain ⟨JE, JF, JC, JN, JV⟩ := J
  obtain ⟨IE, IC, IF, IV⟩ := I
  have nbd : b ≠ d := JE.neArv JV (hw _ (List.mem_of_getElem? (i := 50) rfl))
  refine OGo.cast (g' := (mkF m 0 #[.val (.ref b), .val (.ref a)] [])) (by first | (simp [entryFrame, mkF, argsToLocals, Value.category]; done) | rfl) ?_
  show OGo p e below _ s₁ (mkF m 0 #[.val (.ref b), .val (.ref a)] [])
  refine OGo.step (fun _ k => XS.aloadN X0.here hx rfl (hb hby d_jdk_67_method_7_0) rfl rfl k) ?_
  show OGo p e below _ s₁ (mkF m 1 #[.val (.ref b), .val (.ref a)] [(.ref b)])
  refine OGo.step (fun _ k => XS.aloadN X0.here hx rfl (hb hby d_jdk_67_method_7_1) rfl rfl k) ?_
  show OGo p e below _ s₁ (mkF m 2 #[.val (.ref b), .val (.ref a)] [(.ref a), (.ref b)])
  obtain ⟨v45, T45, L45, X45, hQ45, st45⟩ := ucall X0 hx hZ hown (hw _ (List.mem_of_getElem? (i := 72) rfl)) (own_same (hw _ (List.mem_of_getElem? (i := 93) rfl)) rfl (hw _ (List.mem_of_getElem? (i := 73) rfl)) (by decide)) (hw _ (List.mem_of_getElem? (i := 73) rfl)) (hw _ (List.mem_of_getElem? (i := 74) rfl)) (hw _ (List.mem_of_getElem? (i := 59) rfl)) (hw _ (List.mem_of_getElem? (i := 76) rfl)) (by decide) (W := 0) (rm_asbApp l Z a0 hw [] b d k z bs a e2 k2 us zc wf n0 h0 SS' O ⟨JE, JF, JC, JN, JV⟩ ⟨IE, IC, IF, IV⟩ g_b g_d hs2 hb1 hb2 nde nab hz0) e0 (by decide) (by decide) (by decide) (by decide) (g := (mkF m 2 #[.val (.ref b), .val (.ref a)] [(.ref a), (.ref b)])) rfl (by rw [hml]; rfl) JE (argsL := [(.ref a)]) (rest := []) opd_10 rfl rfl rfl (by show 2 * 0 + _ ≤ _; exact Nat.le_of_eq rfl) (hb hby d_jdk_67_method_7_2)
  obtain ⟨rfl, N45, K45, J45⟩ := hQ45
  have NN45 := Fr.app N0 N45
  have KK45 : Keep h0 T45.heap [b, d] := (Keep.refl h0 [b, d]).trans K45 (allS (Or.inl (List.mem_of_getElem? (i := 0) rfl)) (allS (Or.inl (List.mem_of_getElem? (i := 1) rfl)) all0))
  refine OGo.step st45 ?_
  show OGo p e below _ T45 (mkF m 5 #[.val (.ref b), .val (.ref a)] [(.ref b)])
  refine OGo.step (fun _ k => XS.pop X45.here hx rfl (hb hby d_jdk_67_method_7_5) rfl rfl k) ?_
  show OGo p e below _ T45 (mkF m 6 #[.val (.ref b), .val (.ref a)] [])
  refine OGo.step (fun _ k => XS.aloadN X45.here hx rfl (hb hby d_jdk_67_method_7_6) rfl rfl k) ?_
  show OGo p e below _ T45 (mkF m 7 #[.val (.ref b), .val (.ref a)] [(.ref b)])
  exact OGo.ret X45 hx (t := (.object "java/lang/StringBuilder")) hret hlk rfl (Or.inr (Or.inr (Or.inr (Or.inr ⟨rfl, rfl, rfl⟩)))) (hb hby d_jdk_67_method_7_7) (by decide) (by decide) ⟨rfl, NN45, KK45, J45⟩
theorem d_jdk_68_method_64_0 : decode jdk_68_method_64_code 0 = .ok (.aload_n 0, 1) := by decide +kernel
theorem d_jdk_68_method_64_1 : decode jdk_68_method_64_code 1 = .ok (.getfield 15, 3) := by decide +kernel
theorem d_jdk_68_method_64_4 : decode jdk_68_method_64_code 4 = .ok (.areturn, 1) := by decide +kernel
theorem opl_rm_getV : plainFor (⟨"java/lang/AbstractStringBuilder", "getValue", "()[B"⟩ : MethodName) = true := plainFor_of_name (by first | (simp [plainName, overriddenIn]; done) | decide +kernel)
set_option maxRecDepth 65536 in
set_option maxHeartbeats 40000000 in
theorem rm_getV (l : Launch) (Z : State) (a0 : Array Value) (hw : ∀ d ∈ tables_1, d.before a0 Z = true) (ws : List Jvm.Cond) (b d : Addr) (k : ClassId) (z : Int32) (bs : List Value) (zc : Int32) (wf : Value) (n0 : Nat) (h0 : Heap) (SS : own_SS Z zc wf) (O : Old Z n0 h0) (J : SBI Z h0 b d k z bs) :
    Con l Z (⟨"java/lang/AbstractStringBuilder", "getValue", "()[B"⟩ : MethodName) jdk_68_method_64_code 1 (some (.array .byte)) ws ({ frames := 0, cells := 0, slots := 0, locals := 0 } : Room) #[(.ref b)] h0 (fun v h L => v = some (.ref d) ∧ L = [] ∧ h = h0) := by
  refine Con.intro opl_rm_getV ?_
  intro p e s m below meth c s₁ hx hby hml hown hret hlk hZ hnm X0 e0
  have SS' := SS
  obtain ⟨hzc, SC, hwf, SF⟩ := SS
  have Z0 : n0 ≤ h0.size := O.1 ▸ O.2.1
  have N0 := Fr.nil n0
  obtain ⟨JE, JF, JC, JN, JV⟩ := J
  refine OGo.cast (g' := (mkF m 0 #[.val (.ref b)] [])) (by first | (simp [entryFrame, mkF, argsToLocals, Value.category]; done) | rfl) ?_
  show OGo p e below _ s₁ (mkF m 0 #[.val (.ref b)] [])
  refine OGo.step (fun _ k => XS.aloadN X0.here hx rfl (hb hby d_jdk_68_method_64_0) rfl rfl k) ?_
  show OGo p e below _ s₁ (mkF m 1 #[.val (.ref b)] [(.ref b)])
  obtain ⟨T46, X46, e46, st46⟩ := getF X0 hx hZ hown (host := "") (Or.inl (hw _ (List.mem_of_getElem? (i := 63) rfl))) Via.refl e0 JF (g := (mkF m 1 #[.val (.ref b)] [(.ref b)])) rfl rfl (hb hby d_jdk_68_method_64_1)
  refine OGo.step st46 ?_
  show OGo p e below _ T46 (mkF m 4 #[.val (.ref b)] [(.ref d)])
  exact OGo.ret X46 hx (t := (.array .byte)) hret hlk rfl (Or.inr (Or.inr (Or.inr (Or.inr ⟨rfl, rfl, rfl⟩)))) (hb hby d_jdk_68_method_64_4) (by decide) (by decide) ⟨rfl, rfl, e46⟩
theorem d_jdk_68_method_6_0 : decode jdk_68_method_6_code 0 = .ok (.aload_n 0, 1) := by decide +kernel
theorem d_jdk_68_method_6_1 : decode jdk_68_method_6_code 1 = .ok (.getfield 79, 3) := by decide +kernel
theorem d_jdk_68_method_6_4 : decode jdk_68_method_6_code 4 = .ok (.ireturn, 1) := by decide +kernel
theorem opl_rm_asbLen : plainFor (⟨"java/lang/AbstractStringBuilder", "length", "()I"⟩ : MethodName) = true := plainFor_of_name (by first | (simp [plainName, overriddenIn]; done) | decide +kernel)
set_option maxRecDepth 65536 in
set_option maxHeartbeats 40000000 in
theorem rm_asbLen (l : Launch) (Z : State) (a0 : Array Value) (hw : ∀ d ∈ tables_1, d.before a0 Z = true) (ws : List Jvm.Cond) (b d : Addr) (k : ClassId) (z : Int32) (bs : List Value) (zc : Int32) (wf : Value) (n0 : Nat) (h0 : Heap) (SS : own_SS Z zc wf) (O : Old Z n0 h0) (J : SBI Z h0 b d k z bs) :
    Con l Z (⟨"java/lang/AbstractStringBuilder", "length", "()I"⟩ : MethodName) jdk_68_method_6_code 1 (some .int) ws ({ frames := 0, cells := 0, slots := 0, locals := 0 } : Room) #[(.ref b)] h0 (fun v h L => v = some (.int (Int32.ofNat bs.length)) ∧ L = [] ∧ h = h0) := by
  refine Con.intro opl_rm_asbLen ?_
  intro p e s m below meth c s₁ hx hby hml hown hret hlk hZ hnm X0 e0
  have SS' := SS
  obtain ⟨hzc, SC, hwf, SF⟩ := SS
  have Z0 : n0 ≤ h0.size := O.1 ▸ O.2.1
  have N0 := Fr.nil n0
  obtain ⟨JE, JF, JC, JN, JV⟩ := J
  refine OGo.cast (g' := (mkF m 0 #[.val (.ref b)] [])) (by first | (simp [entryFrame, mkF, argsToLocals, Value.category]; done) | rfl) ?_
  show OGo p e below _ s₁ (mkF m 0 #[.val (.ref b)] [])
  refine OGo.step (fun _ k => XS.aloadN X0.here hx rfl (hb hby d_jdk_68_method_6_0) rfl rfl k) ?_
  show OGo p e below _ s₁ (mkF m 1 #[.val (.ref b)] [(.ref b)])
  obtain ⟨T47, X47, e47, st47⟩ := getF X0 hx hZ hown (host := "") (Or.inl (hw _ (List.mem_of_getElem? (i := 88) rfl))) Via.refl e0 JN (g := (mkF m 1 #[.val (.ref b)] [(.ref b)])) rfl rfl (hb hby d_jdk_68_method_6_1)
  refine OGo.step st47 ?_
  show OGo p e below _ T47 (mkF m 4 #[.val (.ref b)] [(.int (Int32.ofNat bs.length))])
  exact OGo.ret X47 hx (t := .int) hret hlk rfl (Or.inl ⟨rfl, by simp, _, rfl⟩) (hb hby d_jdk_68_method_6_4) (by decide) (by decide) ⟨rfl, rfl, e47⟩
theorem d_jdk_67_method_93_0 : decode jdk_67_method_93_code 0 = .ok (.aload_n 0, 1) := by decide +kernel
theorem d_jdk_67_method_93_1 : decode jdk_67_method_93_code 1 = .ok (.invokespecial 343, 3) := by decide +kernel
theorem d_jdk_67_method_93_4 : decode jdk_67_method_93_code 4 = .ok (.ireturn, 1) := by decide +kernel
theorem opl_rm_sbLen : plainFor (⟨"java/lang/StringBuilder", "length", "()I"⟩ : MethodName) = true := plainFor_of_name (by first | (simp [plainName, overriddenIn]; done) | decide +kernel)
set_option maxRecDepth 65536 in
set_option maxHeartbeats 40000000 in
theorem rm_sbLen (l : Launch) (Z : State) (a0 : Array Value) (hw : ∀ d ∈ tables_1, d.before a0 Z = true) (ws : List Jvm.Cond) (b d : Addr) (k : ClassId) (z : Int32) (bs : List Value) (zc : Int32) (wf : Value) (n0 : Nat) (h0 : Heap) (SS : own_SS Z zc wf) (O : Old Z n0 h0) (J : SBI Z h0 b d k z bs) :
    Con l Z (⟨"java/lang/StringBuilder", "length", "()I"⟩ : MethodName) jdk_67_method_93_code 1 (some .int) ws ({ frames := 1, cells := 0, slots := 0, locals := 12 } : Room) #[(.ref b)] h0 (fun v h L => v = some (.int (Int32.ofNat bs.length)) ∧ L = [] ∧ h = h0) := by
  refine Con.intro opl_rm_sbLen ?_
  intro p e s m below meth c s₁ hx hby hml hown hret hlk hZ hnm X0 e0
  have SS' := SS
  obtain ⟨hzc, SC, hwf, SF⟩ := SS
  have Z0 : n0 ≤ h0.size := O.1 ▸ O.2.1
  have N0 := Fr.nil n0
  obtain ⟨JE, JF, JC, JN, JV⟩ := J
  refine OGo.cast (g' := (mkF m 0 #[.val (.ref b)] [])) (by first | (simp [entryFrame, mkF, argsToLocals, Value.category]; done) | rfl) ?_
  show OGo p e below _ s₁ (mkF m 0 #[.val (.ref b)] [])
  refine OGo.step (fun _ k => XS.aloadN X0.here hx rfl (hb hby d_jdk_67_method_93_0) rfl rfl k) ?_
  show OGo p e below _ s₁ (mkF m 1 #[.val (.ref b)] [(.ref b)])
  obtain ⟨v48, T48, L48, X48, hQ48, st48⟩ := ucall X0 hx hZ hown (hw _ (List.mem_of_getElem? (i := 139) rfl)) (own_same (hw _ (List.mem_of_getElem? (i := 93) rfl)) rfl (hw _ (List.mem_of_getElem? (i := 135) rfl)) (by decide)) (hw _ (List.mem_of_getElem? (i := 135) rfl)) (hw _ (List.mem_of_getElem? (i := 74) rfl)) (hw _ (List.mem_of_getElem? (i := 59) rfl)) (hw _ (List.mem_of_getElem? (i := 140) rfl)) (by decide) (W := 0) (rm_asbLen l Z a0 hw [] b d k z bs zc wf n0 h0 SS' O ⟨JE, JF, JC, JN, JV⟩) e0 (by decide) (by decide) (by decide) (by decide) (g := (mkF m 1 #[.val (.ref b)] [(.ref b)])) rfl (by rw [hml]; rfl) JE (argsL := []) (rest := []) opd_8 rfl rfl rfl (by show 2 * 0 + _ ≤ _; exact Nat.le_of_eq rfl) (hb hby d_jdk_67_method_93_1)
  obtain ⟨rfl, rfl, e48⟩ := hQ48
  rw [List.append_nil] at X48
  refine OGo.step st48 ?_
  show OGo p e below _ T48 (mkF m 4 #[.val (.ref b)] [(.int (Int32.ofNat bs.length))])
  exact OGo.ret X48 hx (t := .int) hret hlk rfl (Or.inl ⟨rfl, by simp, _, rfl⟩) (hb hby d_jdk_67_method_93_4) (by decide) (by decide) ⟨rfl, rfl, e48⟩
theorem d_jdk_68_method_68_0 : decode jdk_68_method_68_code 0 = .ok (.getstatic 18, 3) := by decide +kernel
theorem d_jdk_68_method_68_3 : decode jdk_68_method_68_code 3 = .ok (.ifCond .eq 14, 3) := by decide +kernel
theorem d_jdk_68_method_68_6 : decode jdk_68_method_68_code 6 = .ok (.aload_n 0, 1) := by decide +kernel
theorem d_jdk_68_method_68_7 : decode jdk_68_method_68_code 7 = .ok (.getfield 22, 3) := by decide +kernel
theorem d_jdk_68_method_68_10 : decode jdk_68_method_68_code 10 = .ok (.ifCond .ne 7, 3) := by decide +kernel
theorem d_jdk_68_method_68_13 : decode jdk_68_method_68_code 13 = .ok (.iconst 1, 1) := by decide +kernel
theorem d_jdk_68_method_68_14 : decode jdk_68_method_68_code 14 = .ok (.goto 4, 3) := by decide +kernel
theorem d_jdk_68_method_68_18 : decode jdk_68_method_68_code 18 = .ok (.ireturn, 1) := by decide +kernel
theorem opl_rm_asbL1 : plainFor (⟨"java/lang/AbstractStringBuilder", "isLatin1", "()Z"⟩ : MethodName) = true := plainFor_of_name (by first | (simp [plainName, overriddenIn]; done) | decide +kernel)
set_option maxRecDepth 65536 in
set_option maxHeartbeats 40000000 in
theorem rm_asbL1 (l : Launch) (Z : State) (a0 : Array Value) (hw : ∀ d ∈ tables_1, d.before a0 Z = true) (ws : List Jvm.Cond) (b d : Addr) (k : ClassId) (z : Int32) (bs : List Value) (zc : Int32) (wf : Value) (n0 : Nat) (h0 : Heap) (SS : own_SS Z zc wf) (O : Old Z n0 h0) (J : SBI Z h0 b d k z bs) :
    Con l Z (⟨"java/lang/AbstractStringBuilder", "isLatin1", "()Z"⟩ : MethodName) jdk_68_method_68_code 1 (some .boolean) ws ({ frames := 0, cells := 0, slots := 0, locals := 0 } : Room) #[(.ref b)] h0 (fun v h L => v = some (.int (1 : Int32)) ∧ L = [] ∧ h = h0) := by
  refine Con.intro opl_rm_asbL1 ?_
  intro p e s m below meth c s₁ hx hby hml hown hret hlk hZ hnm X0 e0
  have SS' := SS
  obtain ⟨hzc, SC, hwf, SF⟩ := SS
  have Z0 : n0 ≤ h0.size := O.1 ▸ O.2.1
  have N0 := Fr.nil n0
  obtain ⟨JE, JF, JC, JN, JV⟩ := J
  refine OGo.cast (g' := (mkF m 0 #[.val (.ref b)] [])) (by first | (simp [entryFrame, mkF, argsToLocals, Value.category]; done) | rfl) ?_
  show OGo p e below _ s₁ (mkF m 0 #[.val (.ref b)] [])
  obtain ⟨T49, X49, e49, st49⟩ := getS2 X0 hx hZ hown (host := "") (Or.inl (hw _ (List.mem_of_getElem? (i := 62) rfl))) Via.refl e0 (SC.ext O.2) (g := (mkF m 0 #[.val (.ref b)] [])) rfl (hb hby d_jdk_68_method_68_0)
  refine OGo.step st49 ?_
  show OGo p e below _ T49 (mkF m 3 #[.val (.ref b)] [(.int zc)])
  refine OGo.step (fun _ k => XS.ifNo X49.here hx rfl (hb hby d_jdk_68_method_68_3) rfl ((if0 _ _).trans (feq hzc).1) k) ?_
  show OGo p e below _ T49 (mkF m 6 #[.val (.ref b)] [])
  refine OGo.step (fun _ k => XS.aloadN X49.here hx rfl (hb hby d_jdk_68_method_68_6) rfl rfl k) ?_
  show OGo p e below _ T49 (mkF m 7 #[.val (.ref b)] [(.ref b)])
  obtain ⟨T50, X50, e50, st50⟩ := getF X49 hx hZ hown (host := "") (Or.inl (hw _ (List.mem_of_getElem? (i := 65) rfl))) Via.refl e49 JC (g := (mkF m 7 #[.val (.ref b)] [(.ref b)])) rfl rfl (hb hby d_jdk_68_method_68_7)
  refine OGo.step st50 ?_
  show OGo p e below _ T50 (mkF m 10 #[.val (.ref b)] [(.int (0 : Int32))])
  refine OGo.step (fun _ k => XS.ifNo X50.here hx rfl (hb hby d_jdk_68_method_68_10) rfl ((if0 _ _).trans (teq (rfl : (0 : Int32) = 0)).2) k) ?_
  show OGo p e below _ T50 (mkF m 13 #[.val (.ref b)] [])
  refine OGo.step (fun _ k => XS.iconst X50.here hx rfl (hb hby d_jdk_68_method_68_13) k) ?_
  show OGo p e below _ T50 (mkF m 14 #[.val (.ref b)] [(.int (1 : Int32))])
  refine OGo.step (fun _ k => XS.goto X50.here hx rfl (pc0 := 14) (pc' := 18) rfl (hb hby d_jdk_68_method_68_14) (by decide) (by decide) k) ?_
  show OGo p e below _ T50 (mkF m 18 #[.val (.ref b)] [(.int (1 : Int32))])
  exact OGo.ret X50 hx (t := .boolean) hret hlk rfl (Or.inl ⟨rfl, by simp, _, rfl⟩) (hb hby d_jdk_68_method_68_18) (by decide) (by decide) ⟨rfl, rfl, e50⟩
theorem d_jdk_65_method_131_0 : decode jdk_65_method_131_code 0 = .ok (.iload_n 1, 1) := by decide +kernel
theorem d_jdk_65_method_131_1 : decode jdk_65_method_131_code 1 = .ok (.iload_n 0, 1) := by decide +kernel
theorem d_jdk_65_method_131_2 : decode jdk_65_method_131_code 2 = .ok (.if_icmp .ge 35, 3) := by decide +kernel
theorem d_jdk_65_method_131_37 : decode jdk_65_method_131_code 37 = .ok (.return_, 1) := by decide +kernel
theorem opl_rm_chk : plainFor (⟨"java/util/Arrays", "checkLength", "(II)V"⟩ : MethodName) = true := plainFor_of_name (by first | (simp [plainName, overriddenIn]; done) | decide +kernel)
set_option maxRecDepth 65536 in
set_option maxHeartbeats 40000000 in
theorem rm_chk (l : Launch) (Z : State) (a0 : Array Value) (hw : ∀ d ∈ tables_1, d.before a0 Z = true) (ws : List Jvm.Cond) (f t : Int32) (h0 : Heap) (hft : ¬ t < f) :
    Con l Z (⟨"java/util/Arrays", "checkLength", "(II)V"⟩ : MethodName) jdk_65_method_131_code 2 none ws ({ frames := 0, cells := 0, slots := 0, locals := 0 } : Room) #[(.int f), (.int t)] h0 (fun v h L => v = none ∧ L = [] ∧ h = h0) := by
  refine Con.intro opl_rm_chk ?_
  intro p e s m below meth c s₁ hx hby hml hown hret hlk hZ hnm X0 e0
  refine OGo.cast (g' := (mkF m 0 #[.val (.int f), .val (.int t)] [])) (by first | (simp [entryFrame, mkF, argsToLocals, Value.category]; done) | rfl) ?_
  show OGo p e below _ s₁ (mkF m 0 #[.val (.int f), .val (.int t)] [])
  refine OGo.step (fun _ k => XS.iloadN X0.here hx rfl (hb hby d_jdk_65_method_131_0) rfl k) ?_
  show OGo p e below _ s₁ (mkF m 1 #[.val (.int f), .val (.int t)] [(.int t)])
  refine OGo.step (fun _ k => XS.iloadN X0.here hx rfl (hb hby d_jdk_65_method_131_1) rfl k) ?_
  show OGo p e below _ s₁ (mkF m 2 #[.val (.int f), .val (.int t)] [(.int f), (.int t)])
  refine OGo.step (fun _ k => XS.icmpYes X0.here hx rfl (pc0 := 2) (pc' := 37) rfl (hb hby d_jdk_65_method_131_2) rfl (flt hft).2.1 (by decide) (by decide) k) ?_
  show OGo p e below _ s₁ (mkF m 37 #[.val (.int f), .val (.int t)] [])
  exact OGo.retV X0 hx hret hlk (hb hby d_jdk_65_method_131_37) (by decide) (by decide) ⟨rfl, rfl, e0⟩
theorem d_jdk_29_method_69_0 : decode jdk_29_method_69_code 0 = .ok (.iload_n 0, 1) := by decide +kernel
theorem d_jdk_29_method_69_1 : decode jdk_29_method_69_code 1 = .ok (.iload_n 1, 1) := by decide +kernel
theorem d_jdk_29_method_69_2 : decode jdk_29_method_69_code 2 = .ok (.if_icmp .gt 7, 3) := by decide +kernel
theorem d_jdk_29_method_69_9 : decode jdk_29_method_69_code 9 = .ok (.iload_n 1, 1) := by decide +kernel
theorem d_jdk_29_method_69_10 : decode jdk_29_method_69_code 10 = .ok (.ireturn, 1) := by decide +kernel
theorem opl_rm_min : plainFor (⟨"java/lang/Math", "min", "(II)I"⟩ : MethodName) = true := Jvm.Free.JP.mathPlain rfl (by decide +kernel)
set_option maxRecDepth 65536 in
set_option maxHeartbeats 40000000 in
theorem rm_min (l : Launch) (Z : State) (a0 : Array Value) (hw : ∀ d ∈ tables_1, d.before a0 Z = true) (ws : List Jvm.Cond) (a b : Int32) (h0 : Heap) (hba : b < a) :
    Con l Z (⟨"java/lang/Math", "min", "(II)I"⟩ : MethodName) jdk_29_method_69_code 2 (some .int) ws ({ frames := 0, cells := 0, slots := 0, locals := 0 } : Room) #[(.int a), (.int b)] h0 (fun v h L => v = some (.int b) ∧ L = [] ∧ h = h0) := by
  refine Con.intro opl_rm_min ?_
  intro p e s m below meth c s₁ hx hby hml hown hret hlk hZ hnm X0 e0
  refine OGo.cast (g' := (mkF m 0 #[.val (.int a), .val (.int b)] [])) (by first | (simp [entryFrame, mkF, argsToLocals, Value.category]; done) | rfl) ?_
  show OGo p e below _ s₁ (mkF m 0 #[.val (.int a), .val (.int b)] [])
  refine OGo.step (fun _ k => XS.iloadN X0.here hx rfl (hb hby d_jdk_29_method_69_0) rfl k) ?_
  show OGo p e below _ s₁ (mkF m 1 #[.val (.int a), .val (.int b)] [(.int a)])
  refine OGo.step (fun _ k => XS.iloadN X0.here hx rfl (hb hby d_jdk_29_method_69_1) rfl k) ?_
  show OGo p e below _ s₁ (mkF m 2 #[.val (.int a), .val (.int b)] [(.int b), (.int a)])
  refine OGo.step (fun _ k => XS.icmpYes X0.here hx rfl (pc0 := 2) (pc' := 9) rfl (hb hby d_jdk_29_method_69_2) rfl (tlt hba).2.2.1 (by decide) (by decide) k) ?_
  show OGo p e below _ s₁ (mkF m 9 #[.val (.int a), .val (.int b)] [])
  refine OGo.step (fun _ k => XS.iloadN X0.here hx rfl (hb hby d_jdk_29_method_69_9) rfl k) ?_
  show OGo p e below _ s₁ (mkF m 10 #[.val (.int a), .val (.int b)] [(.int b)])
  exact OGo.ret X0 hx (t := .int) hret hlk rfl (Or.inl ⟨rfl, by simp, _, rfl⟩) (hb hby d_jdk_29_method_69_10) (by decide) (by decide) ⟨rfl, rfl, e0⟩
theorem d_jdk_65_method_133_0 : decode jdk_65_method_133_code 0 = .ok (.iload_n 1, 1) := by decide +kernel
theorem d_jdk_65_method_133_1 : decode jdk_65_method_133_code 1 = .ok (.iload_n 2, 1) := by decide +kernel
theorem d_jdk_65_method_133_2 : decode jdk_65_method_133_code 2 = .ok (.invokestatic 343, 3) := by decide +kernel
theorem d_jdk_65_method_133_5 : decode jdk_65_method_133_code 5 = .ok (.iload_n 2, 1) := by decide +kernel
theorem d_jdk_65_method_133_6 : decode jdk_65_method_133_code 6 = .ok (.iload_n 1, 1) := by decide +kernel
theorem d_jdk_65_method_133_7 : decode jdk_65_method_133_code 7 = .ok (.isub, 1) := by decide +kernel
theorem d_jdk_65_method_133_8 : decode jdk_65_method_133_code 8 = .ok (.istore_n 3, 1) := by decide +kernel
theorem d_jdk_65_method_133_9 : decode jdk_65_method_133_code 9 = .ok (.iload_n 3, 1) := by decide +kernel
theorem d_jdk_65_method_133_10 : decode jdk_65_method_133_code 10 = .ok (.newarray .byte, 2) := by decide +kernel
theorem d_jdk_65_method_133_12 : decode jdk_65_method_133_code 12 = .ok (.astore 4, 2) := by decide +kernel
theorem d_jdk_65_method_133_14 : decode jdk_65_method_133_code 14 = .ok (.aload_n 0, 1) := by decide +kernel
theorem d_jdk_65_method_133_15 : decode jdk_65_method_133_code 15 = .ok (.iload_n 1, 1) := by decide +kernel
theorem d_jdk_65_method_133_16 : decode jdk_65_method_133_code 16 = .ok (.aload 4, 2) := by decide +kernel
theorem d_jdk_65_method_133_18 : decode jdk_65_method_133_code 18 = .ok (.iconst 0, 1) := by decide +kernel
theorem d_jdk_65_method_133_19 : decode jdk_65_method_133_code 19 = .ok (.aload_n 0, 1) := by decide +kernel
theorem d_jdk_65_method_133_20 : decode jdk_65_method_133_code 20 = .ok (.arraylength, 1) := by decide +kernel
theorem d_jdk_65_method_133_21 : decode jdk_65_method_133_code 21 = .ok (.iload_n 1, 1) := by decide +kernel
theorem d_jdk_65_method_133_22 : decode jdk_65_method_133_code 22 = .ok (.isub, 1) := by decide +kernel
theorem d_jdk_65_method_133_23 : decode jdk_65_method_133_code 23 = .ok (.iload_n 3, 1) := by decide +kernel
theorem opd_11 : parseMethodDescriptor "(II)I" = some ⟨[.int, .int], some .int⟩ := by decide +kernel
theorem d_jdk_65_method_133_24 : decode jdk_65_method_133_code 24 = .ok (.invokestatic 304, 3) := by decide +kernel
theorem d_jdk_65_method_133_27 : decode jdk_65_method_133_code 27 = .ok (.invokestatic 150, 3) := by decide +kernel
theorem d_jdk_65_method_133_30 : decode jdk_65_method_133_code 30 = .ok (.aload 4, 2) := by decide +kernel
theorem d_jdk_65_method_133_32 : decode jdk_65_method_133_code 32 = .ok (.areturn, 1) := by decide +kernel
theorem opl_rm_corb : plainFor (⟨"java/util/Arrays", "copyOfRangeByte", "([BII)[B"⟩ : MethodName) = true := plainFor_of_name (by first | (simp [plainName, overriddenIn]; done) | decide +kernel)
set_option maxRecDepth 65536 in
set_option maxHeartbeats 40000000 in
theorem rm_corb (l : Launch) (Z : State) (a0 : Array Value) (hw : ∀ d ∈ tables_1, d.before a0 Z = true) (ws : List Jvm.Cond) (d : Addr) (k : ClassId) (z : Int32) (bs : List Value) (zc : Int32) (wf : Value) (n0 : Nat) (h0 : Heap) (SS : own_SS Z zc wf) (O : Old Z n0 h0) (V : Arv Z h0 d k .byte z bs (.int (0 : Int32))) (hb2 : bs.length < 2147483648) (hcap : bs.length ≤ 8) (hlt : Int32.ofNat bs.length < z) (hz1 : bs.length ≤ z.toNatClampNeg) :
    Con l Z (⟨"java/util/Arrays", "copyOfRangeByte", "([BII)[B"⟩ : MethodName) jdk_65_method_133_code 5 (some (.array .byte)) ws ({ frames := 1, cells := 1, slots := 8, locals := 29 } : Room) #[(.ref d), (.int (0 : Int32)), (.int (Int32.ofNat bs.length))] h0 (fun v h L => ∃ r k', v = some (.ref r) ∧ h0.size ≤ r ∧ Fr n0 L ∧ Keep h0 h [] ∧ Arv Z h r k' .byte (Int32.ofNat bs.length) bs (.int (0 : Int32))) := by
  refine Con.intro opl_rm_corb ?_
  intro p e s m below meth c s₁ hx hby hml hown hret hlk hZ hnm X0 e0
  obtain ⟨hzc, SC, hwf, SF⟩ := SS
  have Z0 : n0 ≤ h0.size := O.1 ▸ O.2.1
  have N0 := Fr.nil n0
  refine OGo.cast (g' := (mkF m 0 #[.val (.ref d), .val (.int (0 : Int32)), .val (.int (Int32.ofNat bs.length)), .unset, .unset] [])) (by first | (simp [entryFrame, mkF, argsToLocals, Value.category]; done) | rfl) ?_
  show OGo p e below _ s₁ (mkF m 0 #[.val (.ref d), .val (.int (0 : Int32)), .val (.int (Int32.ofNat bs.length)), .unset, .unset] [])
  refine OGo.step (fun _ k => XS.iloadN X0.here hx rfl (hb hby d_jdk_65_method_133_0) rfl k) ?_
  show OGo p e below _ s₁ (mkF m 1 #[.val (.ref d), .val (.int (0 : Int32)), .val (.int (Int32.ofNat bs.length)), .unset, .unset] [(.int (0 : Int32))])
  refine OGo.step (fun _ k => XS.iloadN X0.here hx rfl (hb hby d_jdk_65_method_133_1) rfl k) ?_
  show OGo p e below _ s₁ (mkF m 2 #[.val (.ref d), .val (.int (0 : Int32)), .val (.int (Int32.ofNat bs.length)), .unset, .unset] [(.int (Int32.ofNat bs.length)), (.int (0 : Int32))])
  obtain ⟨v51, T51, L51, X51, hQ51, st51⟩ := scall X0 hx hZ hown (hw _ (List.mem_of_getElem? (i := 153) rfl)) (hw _ (List.mem_of_getElem? (i := 154) rfl)) (hw _ (List.mem_of_getElem? (i := 148) rfl)) (hw _ (List.mem_of_getElem? (i := 155) rfl)) (by decide) (W := 0) (rm_chk l Z a0 hw [] (0 : Int32) (Int32.ofNat bs.length) h0 (own_nn hb2)) e0 (by decide) (by decide) (by decide) (by decide) (g := (mkF m 2 #[.val (.ref d), .val (.int (0 : Int32)), .val (.int (Int32.ofNat bs.length)), .unset, .unset] [(.int (Int32.ofNat bs.length)), (.int (0 : Int32))])) rfl (by rw [hml]; rfl) (argsL := [(.int (0 : Int32)), (.int (Int32.ofNat bs.length))]) (rest := []) opd_2 rfl rfl rfl (by show 2 * 0 + _ ≤ _; exact Nat.le_of_eq rfl) (hb hby d_jdk_65_method_133_2)
  obtain ⟨rfl, rfl, e51⟩ := hQ51
  rw [List.append_nil] at X51
  refine OGo.step st51 ?_
  show OGo p e below _ T51 (mkF m 5 #[.val (.ref d), .val (.int (0 : Int32)), .val (.int (Int32.ofNat bs.length)), .unset, .unset] [])
  refine OGo.step (fun _ k => XS.iloadN X51.here hx rfl (hb hby d_jdk_65_method_133_5) rfl k) ?_
  show OGo p e below _ T51 (mkF m 6 #[.val (.ref d), .val (.int (0 : Int32)), .val (.int (Int32.ofNat bs.length)), .unset, .unset] [(.int (Int32.ofNat bs.length))])
  refine OGo.step (fun _ k => XS.iloadN X51.here hx rfl (hb hby d_jdk_65_method_133_6) rfl k) ?_
  show OGo p e below _ T51 (mkF m 7 #[.val (.ref d), .val (.int (0 : Int32)), .val (.int (Int32.ofNat bs.length)), .unset, .unset] [(.int (0 : Int32)), (.int (Int32.ofNat bs.length))])
  refine OGo.step (fun _ k => XS.isub X51.here hx rfl (hb hby d_jdk_65_method_133_7) rfl k) ?_
  show OGo p e below _ T51 (mkF m 8 #[.val (.ref d), .val (.int (0 : Int32)), .val (.int (Int32.ofNat bs.length)), .unset, .unset] [(.int ((Int32.ofNat bs.length) - (0 : Int32)))])
  rw [own_sub0]
  show OGo p e below _ T51 (mkF m 8 #[.val (.ref d), .val (.int (0 : Int32)), .val (.int (Int32.ofNat bs.length)), .unset, .unset] [(.int (Int32.ofNat bs.length))])
  refine OGo.step (fun _ k => XS.istoreN X51.here hx rfl (hb hby d_jdk_65_method_133_8) rfl (l' := #[.val (.ref d), .val (.int (0 : Int32)), .val (.int (Int32.ofNat bs.length)), .val (.int (Int32.ofNat bs.length)), .unset]) rfl k) ?_
  show OGo p e below _ T51 (mkF m 9 #[.val (.ref d), .val (.int (0 : Int32)), .val (.int (Int32.ofNat bs.length)), .val (.int (Int32.ofNat bs.length)), .unset] [])
  refine OGo.step (fun _ k => XS.iloadN X51.here hx rfl (hb hby d_jdk_65_method_133_9) rfl k) ?_
  show OGo p e below _ T51 (mkF m 10 #[.val (.ref d), .val (.int (0 : Int32)), .val (.int (Int32.ofNat bs.length)), .val (.int (Int32.ofNat bs.length)), .unset] [(.int (Int32.ofNat bs.length))])
  obtain ⟨T52, h52, k52, X52, e52, E52, A52, st52⟩ := newP X51 hx hZ (hw _ (List.mem_of_getElem? (i := 19) rfl)) e51 (g := (mkF m 10 #[.val (.ref d), .val (.int (0 : Int32)), .val (.int (Int32.ofNat bs.length)), .val (.int (Int32.ofNat bs.length)), .unset] [(.int (Int32.ofNat bs.length))])) rfl (hb hby d_jdk_65_method_133_10) rfl (own_nn hb2) (cap := 8) (by rw [own_cl hb2]; exact hcap) (by decide) (by decide) (by decide)
  obtain ⟨b52, g52⟩ : ∃ z, z = h0.size := ⟨_, rfl⟩
  rw [← g52] at A52 st52
  have sz_b52 : h0.size ≤ b52 := Nat.le_trans (Keep.refl h0 []).1 (Nat.le_of_eq g52.symm)
  have KK52 : Keep h0 h52 [] := (Keep.refl h0 []).ext E52
  have V52 : Arv Z h52 b52 k52 .byte (Int32.ofNat bs.length) [] (.int (0 : Int32)) := Arv.new A52 (own_nn hb2)
  refine OGo.step st52 ?_
  show OGo p e below _ T52 (mkF m 12 #[.val (.ref d), .val (.int (0 : Int32)), .val (.int (Int32.ofNat bs.length)), .val (.int (Int32.ofNat bs.length)), .unset] [(.ref b52)])
  refine OGo.step (fun _ k => XS.astore X52.here hx rfl (hb hby d_jdk_65_method_133_12) rfl rfl (l' := #[.val (.ref d), .val (.int (0 : Int32)), .val (.int (Int32.ofNat bs.length)), .val (.int (Int32.ofNat bs.length)), .val (.ref b52)]) rfl k) ?_
  show OGo p e below _ T52 (mkF m 14 #[.val (.ref d), .val (.int (0 : Int32)), .val (.int (Int32.ofNat bs.length)), .val (.int (Int32.ofNat bs.length)), .val (.ref b52)] [])
  refine OGo.step (fun _ k => XS.aloadN X52.here hx rfl (hb hby d_jdk_65_method_133_14) rfl rfl k) ?_
  show OGo p e below _ T52 (mkF m 15 #[.val (.ref d), .val (.int (0 : Int32)), .val (.int (Int32.ofNat bs.length)), .val (.int (Int32.ofNat bs.length)), .val (.ref b52)] [(.ref d)])
  refine OGo.step (fun _ k => XS.iloadN X52.here hx rfl (hb hby d_jdk_65_method_133_15) rfl k) ?_
  show OGo p e below _ T52 (mkF m 16 #[.val (.ref d), .val (.int (0 : Int32)), .val (.int (Int32.ofNat bs.length)), .val (.int (Int32.ofNat bs.length)), .val (.ref b52)] [(.int (0 : Int32)), (.ref d)])
  refine OGo.step (fun _ k => XS.aload X52.here hx rfl (hb hby d_jdk_65_method_133_16) rfl rfl k) ?_
  show OGo p e below _ T52 (mkF m 18 #[.val (.ref d), .val (.int (0 : Int32)), .val (.int (Int32.ofNat bs.length)), .val (.int (Int32.ofNat bs.length)), .val (.ref b52)] [(.ref b52), (.int (0 : Int32)), (.ref d)])
  refine OGo.step (fun _ k => XS.iconst X52.here hx rfl (hb hby d_jdk_65_method_133_18) k) ?_
  show OGo p e below _ T52 (mkF m 19 #[.val (.ref d), .val (.int (0 : Int32)), .val (.int (Int32.ofNat bs.length)), .val (.int (Int32.ofNat bs.length)), .val (.ref b52)] [(.int (0 : Int32)), (.ref b52), (.int (0 : Int32)), (.ref d)])
  refine OGo.step (fun _ k => XS.aloadN X52.here hx rfl (hb hby d_jdk_65_method_133_19) rfl rfl k) ?_
  show OGo p e below _ T52 (mkF m 20 #[.val (.ref d), .val (.int (0 : Int32)), .val (.int (Int32.ofNat bs.length)), .val (.int (Int32.ofNat bs.length)), .val (.ref b52)] [(.ref d), (.int (0 : Int32)), (.ref b52), (.int (0 : Int32)), (.ref d)])
  refine OGo.step (fun _ k => alenV X52 hx hZ e52 (V.ext E52) (g := (mkF m 20 #[.val (.ref d), .val (.int (0 : Int32)), .val (.int (Int32.ofNat bs.length)), .val (.int (Int32.ofNat bs.length)), .val (.ref b52)] [(.ref d), (.int (0 : Int32)), (.ref b52), (.int (0 : Int32)), (.ref d)])) rfl rfl (hb hby d_jdk_65_method_133_20) _ k) ?_
  show OGo p e below _ T52 (mkF m 21 #[.val (.ref d), .val (.int (0 : Int32)), .val (.int (Int32.ofNat bs.length)), .val (.int (Int32.ofNat bs.length)), .val (.ref b52)] [(.int z), (.int (0 : Int32)), (.ref b52), (.int (0 : Int32)), (.ref d)])
  refine OGo.step (fun _ k => XS.iloadN X52.here hx rfl (hb hby d_jdk_65_method_133_21) rfl k) ?_
  show OGo p e below _ T52 (mkF m 22 #[.val (.ref d), .val (.int (0 : Int32)), .val (.int (Int32.ofNat bs.length)), .val (.int (Int32.ofNat bs.length)), .val (.ref b52)] [(.int (0 : Int32)), (.int z), (.int (0 : Int32)), (.ref b52), (.int (0 : Int32)), (.ref d)])
  refine OGo.step (fun _ k => XS.isub X52.here hx rfl (hb hby d_jdk_65_method_133_22) rfl k) ?_
  show OGo p e below _ T52 (mkF m 23 #[.val (.ref d), .val (.int (0 : Int32)), .val (.int (Int32.ofNat bs.length)), .val (.int (Int32.ofNat bs.length)), .val (.ref b52)] [(.int (z - (0 : Int32))), (.int (0 : Int32)), (.ref b52), (.int (0 : Int32)), (.ref d)])
  rw [own_sub0]
  show OGo p e below _ T52 (mkF m 23 #[.val (.ref d), .val (.int (0 : Int32)), .val (.int (Int32.ofNat bs.length)), .val (.int (Int32.ofNat bs.length)), .val (.ref b52)] [(.int z), (.int (0 : Int32)), (.ref b52), (.int (0 : Int32)), (.ref d)])
  refine OGo.step (fun _ k => XS.iloadN X52.here hx rfl (hb hby d_jdk_65_method_133_23) rfl k) ?_
  show OGo p e below _ T52 (mkF m 24 #[.val (.ref d), .val (.int (0 : Int32)), .val (.int (Int32.ofNat bs.length)), .val (.int (Int32.ofNat bs.length)), .val (.ref b52)] [(.int (Int32.ofNat bs.length)), (.int z), (.int (0 : Int32)), (.ref b52), (.int (0 : Int32)), (.ref d)])
  obtain ⟨v53, T53, L53, X53, hQ53, st53⟩ := scall X52 hx hZ hown (hw _ (List.mem_of_getElem? (i := 156) rfl)) (hw _ (List.mem_of_getElem? (i := 157) rfl)) (hw _ (List.mem_of_getElem? (i := 158) rfl)) (hw _ (List.mem_of_getElem? (i := 159) rfl)) (by decide) (W := 4) (rm_min l Z a0 hw [] z (Int32.ofNat bs.length) h52 hlt) e52 (by decide) (by decide) (by decide) (by decide) (g := (mkF m 24 #[.val (.ref d), .val (.int (0 : Int32)), .val (.int (Int32.ofNat bs.length)), .val (.int (Int32.ofNat bs.length)), .val (.ref b52)] [(.int (Int32.ofNat bs.length)), (.int z), (.int (0 : Int32)), (.ref b52), (.int (0 : Int32)), (.ref d)])) rfl (by rw [hml]; rfl) (argsL := [(.int z), (.int (Int32.ofNat bs.length))]) (rest := [(.int (0 : Int32)), (.ref b52), (.int (0 : Int32)), (.ref d)]) opd_11 rfl rfl rfl (by show 2 * 0 + _ ≤ _; exact Nat.le_of_eq rfl) (hb hby d_jdk_65_method_133_24)
  obtain ⟨rfl, rfl, e53⟩ := hQ53
  rw [List.append_nil] at X53
  refine OGo.step st53 ?_
  show OGo p e below _ T53 (mkF m 27 #[.val (.ref d), .val (.int (0 : Int32)), .val (.int (Int32.ofNat bs.length)), .val (.int (Int32.ofNat bs.length)), .val (.ref b52)] [(.int (Int32.ofNat bs.length)), (.int (0 : Int32)), (.ref b52), (.int (0 : Int32)), (.ref d)])
  obtain ⟨T54, h54, L54, X54, e54, N54, K54, V54, st54⟩ := own_cp X53 hx hZ hown (hw _ (List.mem_of_getElem? (i := 160) rfl)) (hw _ (List.mem_of_getElem? (i := 114) rfl)) (hw _ (List.mem_of_getElem? (i := 112) rfl)) (hw _ (List.mem_of_getElem? (i := 113) rfl)) e53 (V.ext E52) V52 hz1 (by rw [own_cl hb2]; exact Nat.le_of_eq (Nat.zero_add _)) hb2 (by decide) N0 (Nat.le_trans Z0 sz_b52) (g := (mkF m 27 #[.val (.ref d), .val (.int (0 : Int32)), .val (.int (Int32.ofNat bs.length)), .val (.int (Int32.ofNat bs.length)), .val (.ref b52)] [(.int (Int32.ofNat bs.length)), (.int (0 : Int32)), (.ref b52), (.int (0 : Int32)), (.ref d)])) rfl (by rw [hml]; rfl) (rest := []) rfl (hb hby d_jdk_65_method_133_27) (by decide) (W := 0) (by show 2 * 0 + _ ≤ _; exact Nat.le_of_eq rfl) (by decide)
  have KK54 : Keep h0 h54 [] := KK52.trans K54 (allS (Or.inr sz_b52) all0)
  refine OGo.step st54 ?_
  show OGo p e below _ T54 (mkF m 30 #[.val (.ref d), .val (.int (0 : Int32)), .val (.int (Int32.ofNat bs.length)), .val (.int (Int32.ofNat bs.length)), .val (.ref b52)] [])
  refine OGo.step (fun _ k => XS.aload X54.here hx rfl (hb hby d_jdk_65_method_133_30) rfl rfl k) ?_
  show OGo p e below _ T54 (mkF m 32 #[.val (.ref d), .val (.int (0 : Int32)), .val (.int (Int32.ofNat bs.length)), .val (.int (Int32.ofNat bs.length)), .val (.ref b52)] [(.ref b52)])
  exact OGo.ret X54 hx (t := (.array .byte)) hret hlk rfl (Or.inr (Or.inr (Or.inr (Or.inr ⟨rfl, rfl, rfl⟩)))) (hb hby d_jdk_65_method_133_32) (by decide) (by decide) (by rw [e54]; exact ⟨b52, _, rfl, sz_b52, N54, KK54, V54⟩)
theorem d_jdk_65_method_132_0 : decode jdk_65_method_132_code 0 = .ok (.iload_n 1, 1) := by decide +kernel
theorem d_jdk_65_method_132_1 : decode jdk_65_method_132_code 1 = .ok (.ifCond .ne 9, 3) := by decide +kernel
theorem d_jdk_65_method_132_4 : decode jdk_65_method_132_code 4 = .ok (.iload_n 2, 1) := by decide +kernel
theorem d_jdk_65_method_132_5 : decode jdk_65_method_132_code 5 = .ok (.aload_n 0, 1) := by decide +kernel
theorem d_jdk_65_method_132_6 : decode jdk_65_method_132_code 6 = .ok (.arraylength, 1) := by decide +kernel
theorem d_jdk_65_method_132_7 : decode jdk_65_method_132_code 7 = .ok (.if_icmp .eq 10, 3) := by decide +kernel
theorem d_jdk_65_method_132_10 : decode jdk_65_method_132_code 10 = .ok (.aload_n 0, 1) := by decide +kernel
theorem d_jdk_65_method_132_11 : decode jdk_65_method_132_code 11 = .ok (.iload_n 1, 1) := by decide +kernel
theorem d_jdk_65_method_132_12 : decode jdk_65_method_132_code 12 = .ok (.iload_n 2, 1) := by decide +kernel
theorem opd_12 : parseMethodDescriptor "([BII)[B" = some ⟨[(.array .byte), .int, .int], some (.array .byte)⟩ := by decide +kernel
theorem d_jdk_65_method_132_13 : decode jdk_65_method_132_code 13 = .ok (.invokestatic 339, 3) := by decide +kernel
theorem d_jdk_65_method_132_16 : decode jdk_65_method_132_code 16 = .ok (.areturn, 1) := by decide +kernel
theorem opl_rm_cor : plainFor (⟨"java/util/Arrays", "copyOfRange", "([BII)[B"⟩ : MethodName) = true := plainFor_of_name (by first | (simp [plainName, overriddenIn]; done) | decide +kernel)
set_option maxRecDepth 65536 in
set_option maxHeartbeats 40000000 in
theorem rm_cor (l : Launch) (Z : State) (a0 : Array Value) (hw : ∀ d ∈ tables_1, d.before a0 Z = true) (ws : List Jvm.Cond) (d : Addr) (k : ClassId) (z : Int32) (bs : List Value) (zc : Int32) (wf : Value) (n0 : Nat) (h0 : Heap) (SS : own_SS Z zc wf) (O : Old Z n0 h0) (V : Arv Z h0 d k .byte z bs (.int (0 : Int32))) (hb2 : bs.length < 2147483648) (hcap : bs.length ≤ 8) (hlt : Int32.ofNat bs.length < z) (hz1 : bs.length ≤ z.toNatClampNeg) :
    Con l Z (⟨"java/util/Arrays", "copyOfRange", "([BII)[B"⟩ : MethodName) jdk_65_method_132_code 3 (some (.array .byte)) ws ({ frames := 2, cells := 1, slots := 8, locals := 45 } : Room) #[(.ref d), (.int (0 : Int32)), (.int (Int32.ofNat bs.length))] h0 (fun v h L => ∃ r k', v = some (.ref r) ∧ h0.size ≤ r ∧ Fr n0 L ∧ Keep h0 h [] ∧ Arv Z h r k' .byte (Int32.ofNat bs.length) bs (.int (0 : Int32))) := by
  refine Con.intro opl_rm_cor ?_
  intro p e s m below meth c s₁ hx hby hml hown hret hlk hZ hnm X0 e0
  have SS' := SS
  obtain ⟨hzc, SC, hwf, SF⟩ := SS
  have Z0 : n0 ≤ h0.size := O.1 ▸ O.2.1
  have N0 := Fr.nil n0
  refine OGo.cast (g' := (mkF m 0 #[.val (.ref d), .val (.int (0 : Int32)), .val (.int (Int32.ofNat bs.length))] [])) (by first | (simp [entryFrame, mkF, argsToLocals, Value.category]; done) | rfl) ?_
  show OGo p e below _ s₁ (mkF m 0 #[.val (.ref d), .val (.int (0 : Int32)), .val (.int (Int32.ofNat bs.length))] [])
  refine OGo.step (fun _ k => XS.iloadN X0.here hx rfl (hb hby d_jdk_65_method_132_0) rfl k) ?_
  show OGo p e below _ s₁ (mkF m 1 #[.val (.ref d), .val (.int (0 : Int32)), .val (.int (Int32.ofNat bs.length))] [(.int (0 : Int32))])
  refine OGo.step (fun _ k => XS.ifNo X0.here hx rfl (hb hby d_jdk_65_method_132_1) rfl ((if0 _ _).trans (teq (rfl : (0 : Int32) = 0)).2) k) ?_
  show OGo p e below _ s₁ (mkF m 4 #[.val (.ref d), .val (.int (0 : Int32)), .val (.int (Int32.ofNat bs.length))] [])
  refine OGo.step (fun _ k => XS.iloadN X0.here hx rfl (hb hby d_jdk_65_method_132_4) rfl k) ?_
  show OGo p e below _ s₁ (mkF m 5 #[.val (.ref d), .val (.int (0 : Int32)), .val (.int (Int32.ofNat bs.length))] [(.int (Int32.ofNat bs.length))])
  refine OGo.step (fun _ k => XS.aloadN X0.here hx rfl (hb hby d_jdk_65_method_132_5) rfl rfl k) ?_
  show OGo p e below _ s₁ (mkF m 6 #[.val (.ref d), .val (.int (0 : Int32)), .val (.int (Int32.ofNat bs.length))] [(.ref d), (.int (Int32.ofNat bs.length))])
  refine OGo.step (fun _ k => alenV X0 hx hZ e0 V (g := (mkF m 6 #[.val (.ref d), .val (.int (0 : Int32)), .val (.int (Int32.ofNat bs.length))] [(.ref d), (.int (Int32.ofNat bs.length))])) rfl rfl (hb hby d_jdk_65_method_132_6) _ k) ?_
  show OGo p e below _ s₁ (mkF m 7 #[.val (.ref d), .val (.int (0 : Int32)), .val (.int (Int32.ofNat bs.length))] [(.int z), (.int (Int32.ofNat bs.length))])
  refine OGo.step (fun _ k => XS.icmpNo X0.here hx rfl (hb hby d_jdk_65_method_132_7) rfl (feq (fun q => by rw [q] at hlt; exact Int32.lt_irrefl hlt)).1 k) ?_
  show OGo p e below _ s₁ (mkF m 10 #[.val (.ref d), .val (.int (0 : Int32)), .val (.int (Int32.ofNat bs.length))] [])
  refine OGo.step (fun _ k => XS.aloadN X0.here hx rfl (hb hby d_jdk_65_method_132_10) rfl rfl k) ?_
  show OGo p e below _ s₁ (mkF m 11 #[.val (.ref d), .val (.int (0 : Int32)), .val (.int (Int32.ofNat bs.length))] [(.ref d)])
  refine OGo.step (fun _ k => XS.iloadN X0.here hx rfl (hb hby d_jdk_65_method_132_11) rfl k) ?_
  show OGo p e below _ s₁ (mkF m 12 #[.val (.ref d), .val (.int (0 : Int32)), .val (.int (Int32.ofNat bs.length))] [(.int (0 : Int32)), (.ref d)])
  refine OGo.step (fun _ k => XS.iloadN X0.here hx rfl (hb hby d_jdk_65_method_132_12) rfl k) ?_
  show OGo p e below _ s₁ (mkF m 13 #[.val (.ref d), .val (.int (0 : Int32)), .val (.int (Int32.ofNat bs.length))] [(.int (Int32.ofNat bs.length)), (.int (0 : Int32)), (.ref d)])
  obtain ⟨v55, T55, L55, X55, hQ55, st55⟩ := scall X0 hx hZ hown (hw _ (List.mem_of_getElem? (i := 150) rfl)) (hw _ (List.mem_of_getElem? (i := 151) rfl)) (hw _ (List.mem_of_getElem? (i := 148) rfl)) (hw _ (List.mem_of_getElem? (i := 152) rfl)) (by decide) (W := 0) (rm_corb l Z a0 hw [] d k z bs zc wf n0 h0 SS' O V hb2 hcap hlt hz1) e0 (by decide) (by decide) (by decide) (by decide) (g := (mkF m 13 #[.val (.ref d), .val (.int (0 : Int32)), .val (.int (Int32.ofNat bs.length))] [(.int (Int32.ofNat bs.length)), (.int (0 : Int32)), (.ref d)])) rfl (by rw [hml]; rfl) (argsL := [(.ref d), (.int (0 : Int32)), (.int (Int32.ofNat bs.length))]) (rest := []) opd_12 rfl rfl rfl (by show 2 * 0 + _ ≤ _; exact Nat.le_of_eq rfl) (hb hby d_jdk_65_method_132_13)
  obtain ⟨r55, kr55, rfl, sr55, N55, K55, V55⟩ := hQ55
  have NN55 := Fr.app N0 N55
  have KK55 : Keep h0 T55.heap [] := (Keep.refl h0 []).trans K55 all0
  refine OGo.step st55 ?_
  show OGo p e below _ T55 (mkF m 16 #[.val (.ref d), .val (.int (0 : Int32)), .val (.int (Int32.ofNat bs.length))] [(.ref r55)])
  exact OGo.ret X55 hx (t := (.array .byte)) hret hlk rfl (Or.inr (Or.inr (Or.inr (Or.inr ⟨rfl, rfl, rfl⟩)))) (hb hby d_jdk_65_method_132_16) (by decide) (by decide) ⟨r55, _, rfl, sr55, NN55, KK55, V55⟩
theorem d_jdk_42_method_150_0 : decode jdk_42_method_150_code 0 = .ok (.aload_n 0, 1) := by decide +kernel
theorem d_jdk_42_method_150_1 : decode jdk_42_method_150_code 1 = .ok (.invokespecial 1, 3) := by decide +kernel
theorem d_jdk_42_method_150_4 : decode jdk_42_method_150_code 4 = .ok (.aload_n 1, 1) := by decide +kernel
theorem opd_13 : parseMethodDescriptor "()[B" = some ⟨[], some (.array .byte)⟩ := by decide +kernel
theorem d_jdk_42_method_150_5 : decode jdk_42_method_150_code 5 = .ok (.invokevirtual 552, 3) := by decide +kernel
theorem d_jdk_42_method_150_8 : decode jdk_42_method_150_code 8 = .ok (.astore_n 3, 1) := by decide +kernel
theorem d_jdk_42_method_150_9 : decode jdk_42_method_150_code 9 = .ok (.aload_n 1, 1) := by decide +kernel
theorem d_jdk_42_method_150_10 : decode jdk_42_method_150_code 10 = .ok (.invokevirtual 549, 3) := by decide +kernel
theorem d_jdk_42_method_150_13 : decode jdk_42_method_150_code 13 = .ok (.istore 4, 2) := by decide +kernel
theorem d_jdk_42_method_150_15 : decode jdk_42_method_150_code 15 = .ok (.aload_n 1, 1) := by decide +kernel
theorem d_jdk_42_method_150_16 : decode jdk_42_method_150_code 16 = .ok (.invokevirtual 1047, 3) := by decide +kernel
theorem d_jdk_42_method_150_19 : decode jdk_42_method_150_code 19 = .ok (.ifCond .eq 22, 3) := by decide +kernel
theorem d_jdk_42_method_150_22 : decode jdk_42_method_150_code 22 = .ok (.aload_n 0, 1) := by decide +kernel
theorem d_jdk_42_method_150_23 : decode jdk_42_method_150_code 23 = .ok (.iconst 0, 1) := by decide +kernel
theorem d_jdk_42_method_150_24 : decode jdk_42_method_150_code 24 = .ok (.putfield 15, 3) := by decide +kernel
theorem d_jdk_42_method_150_27 : decode jdk_42_method_150_code 27 = .ok (.aload_n 0, 1) := by decide +kernel
theorem d_jdk_42_method_150_28 : decode jdk_42_method_150_code 28 = .ok (.aload_n 3, 1) := by decide +kernel
theorem d_jdk_42_method_150_29 : decode jdk_42_method_150_code 29 = .ok (.iconst 0, 1) := by decide +kernel
theorem d_jdk_42_method_150_30 : decode jdk_42_method_150_code 30 = .ok (.iload 4, 2) := by decide +kernel
theorem d_jdk_42_method_150_32 : decode jdk_42_method_150_code 32 = .ok (.invokestatic 54, 3) := by decide +kernel
theorem d_jdk_42_method_150_35 : decode jdk_42_method_150_code 35 = .ok (.putfield 9, 3) := by decide +kernel
theorem d_jdk_42_method_150_38 : decode jdk_42_method_150_code 38 = .ok (.goto 59, 3) := by decide +kernel
theorem d_jdk_42_method_150_97 : decode jdk_42_method_150_code 97 = .ok (.return_, 1) := by decide +kernel
theorem opl_rm_sia : plainFor (⟨"java/lang/String", "<init>", "(Ljava/lang/AbstractStringBuilder;Ljava/lang/Void;)V"⟩ : MethodName) = true := plainFor_of_name (by first | (simp [plainName, overriddenIn]; done) | decide +kernel)
set_option maxRecDepth 65536 in
set_option maxHeartbeats 40000000 in
theorem rm_sia (l : Launch) (Z : State) (a0 : Array Value) (hw : ∀ d ∈ tables_1, d.before a0 Z = true) (ws : List Jvm.Cond) (a : Addr) (b d : Addr) (k : ClassId) (z : Int32) (bs : List Value) (zc : Int32) (wf : Value) (n0 : Nat) (h0 : Heap) (SS : own_SS Z zc wf) (O : Old Z n0 h0) (J : SBI Z h0 b d k z bs) (hb2 : bs.length < 2147483648) (hcap : bs.length ≤ 8) (hlt : Int32.ofNat bs.length < z) (hz1 : bs.length ≤ z.toNatClampNeg) (E : Exa Z h0 a "java/lang/String") (Fc : Fld Z h0 a "java/lang/String" "coder" "B" (.int (0 : Int32))) (Fv : Fld Z h0 a "java/lang/String" "value" "[B" .null) (g_a : n0 ≤ a) (nba : b ≠ a) (nda : d ≠ a) :
    Con l Z (⟨"java/lang/String", "<init>", "(Ljava/lang/AbstractStringBuilder;Ljava/lang/Void;)V"⟩ : MethodName) jdk_42_method_150_code 5 none ws ({ frames := 3, cells := 1, slots := 8, locals := 60 } : Room) #[(.ref a), (.ref b), .null] h0 (fun v h L => v = none ∧ Fr n0 L ∧ Keep h0 h [a] ∧ ∃ r k', h0.size ≤ r ∧ STI Z h a r k' bs) := by
  refine Con.intro opl_rm_sia ?_
  intro p e s m below meth c s₁ hx hby hml hown hret hlk hZ hnm X0 e0
  have SS' := SS
  obtain ⟨hzc, SC, hwf, SF⟩ := SS
  have Z0 : n0 ≤ h0.size := O.1 ▸ O.2.1
  have N0 := Fr.nil n0
  obtain ⟨JE, JF, JC, JN, JV⟩ := J
  refine OGo.cast (g' := (mkF m 0 #[.val (.ref a), .val (.ref b), .val .null, .unset, .unset] [])) (by first | (simp [entryFrame, mkF, argsToLocals, Value.category]; done) | rfl) ?_
  show OGo p e below _ s₁ (mkF m 0 #[.val (.ref a), .val (.ref b), .val .null, .unset, .unset] [])
  refine OGo.step (fun _ k => XS.aloadN X0.here hx rfl (hb hby d_jdk_42_method_150_0) rfl rfl k) ?_
  show OGo p e below _ s₁ (mkF m 1 #[.val (.ref a), .val (.ref b), .val .null, .unset, .unset] [(.ref a)])
  obtain ⟨T56, X56, e56, st56⟩ := initO X0 hx hZ hown (hw _ (List.mem_of_getElem? (i := 15) rfl)) (hw _ (List.mem_of_getElem? (i := 16) rfl)) (hw _ (List.mem_of_getElem? (i := 17) rfl)) e0 (g := (mkF m 1 #[.val (.ref a), .val (.ref b), .val .null, .unset, .unset] [(.ref a)])) rfl (by rw [hml]; rfl) rfl (hb hby d_jdk_42_method_150_1) (by decide) (W := 0) (by show 2 * 0 + _ ≤ _; exact Nat.le_of_eq rfl) (by decide)
  refine OGo.step st56 ?_
  show OGo p e below _ T56 (mkF m 4 #[.val (.ref a), .val (.ref b), .val .null, .unset, .unset] [])
  refine OGo.step (fun _ k => XS.aloadN X56.here hx rfl (hb hby d_jdk_42_method_150_4) rfl rfl k) ?_
  show OGo p e below _ T56 (mkF m 5 #[.val (.ref a), .val (.ref b), .val .null, .unset, .unset] [(.ref b)])
  obtain ⟨v57, T57, L57, X57, hQ57, st57⟩ := vcall X56 hx hZ hown (hw _ (List.mem_of_getElem? (i := 128) rfl)) (hw _ (List.mem_of_getElem? (i := 129) rfl)) (hw _ (List.mem_of_getElem? (i := 131) rfl)) rfl (hw _ (List.mem_of_getElem? (i := 131) rfl)) (hw _ (List.mem_of_getElem? (i := 130) rfl)) (hw _ (List.mem_of_getElem? (i := 59) rfl)) (hw _ (List.mem_of_getElem? (i := 132) rfl)) (by decide) (W := 0) (rm_getV l Z a0 hw [] b d k z bs zc wf n0 h0 SS' O ⟨JE, JF, JC, JN, JV⟩) e56 (by decide) (by decide) (by decide) (by decide) (g := (mkF m 5 #[.val (.ref a), .val (.ref b), .val .null, .unset, .unset] [(.ref b)])) rfl (by rw [hml]; rfl) JE (argsL := []) (rest := []) opd_13 rfl rfl rfl (by show 2 * 0 + _ ≤ _; exact Nat.le_of_eq rfl) (hb hby d_jdk_42_method_150_5)
  obtain ⟨rfl, rfl, e57⟩ := hQ57
  rw [List.append_nil] at X57
  refine OGo.step st57 ?_
  show OGo p e below _ T57 (mkF m 8 #[.val (.ref a), .val (.ref b), .val .null, .unset, .unset] [(.ref d)])
  refine OGo.step (fun _ k => XS.astoreN X57.here hx rfl (hb hby d_jdk_42_method_150_8) rfl rfl (l' := #[.val (.ref a), .val (.ref b), .val .null, .val (.ref d), .unset]) rfl k) ?_
  show OGo p e below _ T57 (mkF m 9 #[.val (.ref a), .val (.ref b), .val .null, .val (.ref d), .unset] [])
  refine OGo.step (fun _ k => XS.aloadN X57.here hx rfl (hb hby d_jdk_42_method_150_9) rfl rfl k) ?_
  show OGo p e below _ T57 (mkF m 10 #[.val (.ref a), .val (.ref b), .val .null, .val (.ref d), .unset] [(.ref b)])
  obtain ⟨v58, T58, L58, X58, hQ58, st58⟩ := vcall X57 hx hZ hown (hw _ (List.mem_of_getElem? (i := 133) rfl)) (hw _ (List.mem_of_getElem? (i := 134) rfl)) (hw _ (List.mem_of_getElem? (i := 93) rfl)) rfl (hw _ (List.mem_of_getElem? (i := 136) rfl)) (hw _ (List.mem_of_getElem? (i := 137) rfl)) (hw _ (List.mem_of_getElem? (i := 51) rfl)) (hw _ (List.mem_of_getElem? (i := 138) rfl)) (by decide) (W := 0) (rm_sbLen l Z a0 hw [] b d k z bs zc wf n0 h0 SS' O ⟨JE, JF, JC, JN, JV⟩) e57 (by decide) (by decide) (by decide) (by decide) (g := (mkF m 10 #[.val (.ref a), .val (.ref b), .val .null, .val (.ref d), .unset] [(.ref b)])) rfl (by rw [hml]; rfl) JE (argsL := []) (rest := []) opd_8 rfl rfl rfl (by show 2 * 0 + _ ≤ _; exact Nat.le_of_eq rfl) (hb hby d_jdk_42_method_150_10)
  obtain ⟨rfl, rfl, e58⟩ := hQ58
  rw [List.append_nil] at X58
  refine OGo.step st58 ?_
  show OGo p e below _ T58 (mkF m 13 #[.val (.ref a), .val (.ref b), .val .null, .val (.ref d), .unset] [(.int (Int32.ofNat bs.length))])
  refine OGo.step (fun _ k => XS.istore X58.here hx rfl (hb hby d_jdk_42_method_150_13) rfl (l' := #[.val (.ref a), .val (.ref b), .val .null, .val (.ref d), .val (.int (Int32.ofNat bs.length))]) rfl k) ?_
  show OGo p e below _ T58 (mkF m 15 #[.val (.ref a), .val (.ref b), .val .null, .val (.ref d), .val (.int (Int32.ofNat bs.length))] [])
  refine OGo.step (fun _ k => XS.aloadN X58.here hx rfl (hb hby d_jdk_42_method_150_15) rfl rfl k) ?_
  show OGo p e below _ T58 (mkF m 16 #[.val (.ref a), .val (.ref b), .val .null, .val (.ref d), .val (.int (Int32.ofNat bs.length))] [(.ref b)])
  obtain ⟨v59, T59, L59, X59, hQ59, st59⟩ := vcall X58 hx hZ hown (hw _ (List.mem_of_getElem? (i := 141) rfl)) (hw _ (List.mem_of_getElem? (i := 142) rfl)) (hw _ (List.mem_of_getElem? (i := 144) rfl)) rfl (hw _ (List.mem_of_getElem? (i := 144) rfl)) (hw _ (List.mem_of_getElem? (i := 143) rfl)) (hw _ (List.mem_of_getElem? (i := 59) rfl)) (hw _ (List.mem_of_getElem? (i := 145) rfl)) (by decide) (W := 0) (rm_asbL1 l Z a0 hw [] b d k z bs zc wf n0 h0 SS' O ⟨JE, JF, JC, JN, JV⟩) e58 (by decide) (by decide) (by decide) (by decide) (g := (mkF m 16 #[.val (.ref a), .val (.ref b), .val .null, .val (.ref d), .val (.int (Int32.ofNat bs.length))] [(.ref b)])) rfl (by rw [hml]; rfl) JE (argsL := []) (rest := []) opd_3 rfl rfl rfl (by show 2 * 0 + _ ≤ _; exact Nat.le_of_eq rfl) (hb hby d_jdk_42_method_150_16)
  obtain ⟨rfl, rfl, e59⟩ := hQ59
  rw [List.append_nil] at X59
  refine OGo.step st59 ?_
  show OGo p e below _ T59 (mkF m 19 #[.val (.ref a), .val (.ref b), .val .null, .val (.ref d), .val (.int (Int32.ofNat bs.length))] [(.int (1 : Int32))])
  refine OGo.step (fun _ k => XS.ifNo X59.here hx rfl (hb hby d_jdk_42_method_150_19) rfl ((if0 _ _).trans (feq (by decide : ¬ (1 : Int32) = 0)).1) k) ?_
  show OGo p e below _ T59 (mkF m 22 #[.val (.ref a), .val (.ref b), .val .null, .val (.ref d), .val (.int (Int32.ofNat bs.length))] [])
  refine OGo.step (fun _ k => XS.aloadN X59.here hx rfl (hb hby d_jdk_42_method_150_22) rfl rfl k) ?_
  show OGo p e below _ T59 (mkF m 23 #[.val (.ref a), .val (.ref b), .val .null, .val (.ref d), .val (.int (Int32.ofNat bs.length))] [(.ref a)])
  refine OGo.step (fun _ k => XS.iconst X59.here hx rfl (hb hby d_jdk_42_method_150_23) k) ?_
  show OGo p e below _ T59 (mkF m 24 #[.val (.ref a), .val (.ref b), .val .null, .val (.ref d), .val (.int (Int32.ofNat bs.length))] [(.int (0 : Int32)), (.ref a)])
  obtain ⟨T60, h60, X60, e60, W60, st60⟩ := putFN X59 hx hZ hown (hw _ (List.mem_of_getElem? (i := 25) rfl)) Via.refl e59 Fc E (Or.inr ⟨(hw _ (List.mem_of_getElem? (i := 21) rfl)), rfl, hnm⟩) (hw _ (List.mem_of_getElem? (i := 5) rfl)) (ty := .byte) (v' := (.int (0 : Int32))) (by decide) rfl rfl (g := (mkF m 24 #[.val (.ref a), .val (.ref b), .val .null, .val (.ref d), .val (.int (Int32.ofNat bs.length))] [(.int (0 : Int32)), (.ref a)])) rfl rfl (hb hby d_jdk_42_method_150_24)
  have Fw60 := Fc.same W60
  have N60 := Fr.snoc X60 N0 g_a
  have KK60 : Keep h0 h60 [a] := (Keep.refl h0 [a]).wr W60 (Or.inl (List.mem_of_getElem? (i := 0) rfl))
  refine OGo.step st60 ?_
  show OGo p e below _ T60 (mkF m 27 #[.val (.ref a), .val (.ref b), .val .null, .val (.ref d), .val (.int (Int32.ofNat bs.length))] [])
  refine OGo.step (fun _ k => XS.aloadN X60.here hx rfl (hb hby d_jdk_42_method_150_27) rfl rfl k) ?_
  show OGo p e below _ T60 (mkF m 28 #[.val (.ref a), .val (.ref b), .val .null, .val (.ref d), .val (.int (Int32.ofNat bs.length))] [(.ref a)])
  refine OGo.step (fun _ k => XS.aloadN X60.here hx rfl (hb hby d_jdk_42_method_150_28) rfl rfl k) ?_
  show OGo p e below _ T60 (mkF m 29 #[.val (.ref a), .val (.ref b), .val .null, .val (.ref d), .val (.int (Int32.ofNat bs.length))] [(.ref d), (.ref a)])
  refine OGo.step (fun _ k => XS.iconst X60.here hx rfl (hb hby d_jdk_42_method_150_29) k) ?_
  show OGo p e below _ T60 (mkF m 30 #[.val (.ref a), .val (.ref b), .val .null, .val (.ref d), .val (.int (Int32.ofNat bs.length))] [(.int (0 : Int32)), (.ref d), (.ref a)])
  refine OGo.step (fun _ k => XS.iload X60.here hx rfl (hb hby d_jdk_42_method_150_30) rfl k) ?_
  show OGo p e below _ T60 (mkF m 32 #[.val (.ref a), .val (.ref b), .val .null, .val (.ref d), .val (.int (Int32.ofNat bs.length))] [(.int (Int32.ofNat bs.length)), (.int (0 : Int32)), (.ref d), (.ref a)])
  obtain ⟨v61, T61, L61, X61, hQ61, st61⟩ := scall X60 hx hZ hown (hw _ (List.mem_of_getElem? (i := 146) rfl)) (hw _ (List.mem_of_getElem? (i := 147) rfl)) (hw _ (List.mem_of_getElem? (i := 148) rfl)) (hw _ (List.mem_of_getElem? (i := 149) rfl)) (by decide) (W := 1) (rm_cor l Z a0 hw [] d k z bs zc wf n0 h60 SS' (O.wr W60 g_a) (JV.other W60 nda) hb2 hcap hlt hz1) e60 (by decide) (by decide) (by decide) (by decide) (g := (mkF m 32 #[.val (.ref a), .val (.ref b), .val .null, .val (.ref d), .val (.int (Int32.ofNat bs.length))] [(.int (Int32.ofNat bs.length)), (.int (0 : Int32)), (.ref d), (.ref a)])) rfl (by rw [hml]; rfl) (argsL := [(.ref d), (.int (0 : Int32)), (.int (Int32.ofNat bs.length))]) (rest := [(.ref a)]) opd_12 rfl rfl rfl (by show 2 * 0 + _ ≤ _; exact Nat.le_of_eq rfl) (hb hby d_jdk_42_method_150_32)
  obtain ⟨r61, kr61, rfl, sr61, N61, K61, V61⟩ := hQ61
  have NN61 := Fr.app N60 N61
  have KK61 : Keep h0 T61.heap [a] := KK60.trans K61 all0
  have sz_r61 : h0.size ≤ r61 := Nat.le_trans KK60.1 sr61
  refine OGo.step st61 ?_
  show OGo p e below _ T61 (mkF m 35 #[.val (.ref a), .val (.ref b), .val .null, .val (.ref d), .val (.int (Int32.ofNat bs.length))] [(.ref r61), (.ref a)])
  have q63 := ((Fv.other W60 (Or.inr (slot_ne (Or.inr (hw _ (List.mem_of_getElem? (i := 20) rfl))) (Or.inr (hw _ (List.mem_of_getElem? (i := 21) rfl))) (by decide) (t := (.array .byte)) (t' := .byte) (by decide) (by decide)))).keep K61 nin0)
  obtain ⟨T62, h62, X62, e62, W62, st62⟩ := putF X61 hx hZ hown (host := "") (Or.inl (hw _ (List.mem_of_getElem? (i := 24) rfl))) Via.refl rfl q63 ((E.wr W60).keep K61) (Or.inr ⟨(hw _ (List.mem_of_getElem? (i := 20) rfl)), rfl, hnm⟩) (hw _ (List.mem_of_getElem? (i := 5) rfl)) (ty := (.array .byte)) (by decide) rfl rfl (g := (mkF m 35 #[.val (.ref a), .val (.ref b), .val .null, .val (.ref d), .val (.int (Int32.ofNat bs.length))] [(.ref r61), (.ref a)])) rfl rfl (hb hby d_jdk_42_method_150_35)
  have Fw62 := q63.same W62
  have N62 := Fr.snoc X62 NN61 g_a
  have KK62 : Keep h0 h62 [a] := KK61.wr W62 (Or.inl (List.mem_of_getElem? (i := 0) rfl))
  refine OGo.step st62 ?_
  show OGo p e below _ T62 (mkF m 38 #[.val (.ref a), .val (.ref b), .val .null, .val (.ref d), .val (.int (Int32.ofNat bs.length))] [])
  refine OGo.step (fun _ k => XS.goto X62.here hx rfl (pc0 := 38) (pc' := 97) rfl (hb hby d_jdk_42_method_150_38) (by decide) (by decide) k) ?_
  show OGo p e below _ T62 (mkF m 97 #[.val (.ref a), .val (.ref b), .val .null, .val (.ref d), .val (.int (Int32.ofNat bs.length))] [])
  have q64 := ((Fw60.keep K61 nin0).other W62 (Or.inr (slot_ne (Or.inr (hw _ (List.mem_of_getElem? (i := 21) rfl))) (Or.inr (hw _ (List.mem_of_getElem? (i := 20) rfl))) (by decide) (t := .byte) (t' := (.array .byte)) (by decide) (by decide))))
  have q65 := (V61.other W62 (Ne.symm (Nat.ne_of_lt (Nat.lt_of_lt_of_le (E.wr W60).lt sr61))))
  exact OGo.retV X62 hx hret hlk (hb hby d_jdk_42_method_150_97) (by decide) (by decide) (by rw [e62]; exact ⟨rfl, N62, KK62, r61, _, sz_r61, ⟨(((E.wr W60).keep K61).wr W62), q64, Fw62, q65⟩⟩)
theorem d_jdk_42_method_53_0 : decode jdk_42_method_53_code 0 = .ok (.aload_n 0, 1) := by decide +kernel
theorem d_jdk_42_method_53_1 : decode jdk_42_method_53_code 1 = .ok (.aload_n 1, 1) := by decide +kernel
theorem d_jdk_42_method_53_2 : decode jdk_42_method_53_code 2 = .ok (.aconst_null, 1) := by decide +kernel
theorem opd_14 : parseMethodDescriptor "(Ljava/lang/AbstractStringBuilder;Ljava/lang/Void;)V" = some ⟨[(.object "java/lang/AbstractStringBuilder"), (.object "java/lang/Void")], none⟩ := by decide +kernel
theorem d_jdk_42_method_53_3 : decode jdk_42_method_53_code 3 = .ok (.invokespecial 489, 3) := by decide +kernel
theorem d_jdk_42_method_53_6 : decode jdk_42_method_53_code 6 = .ok (.return_, 1) := by decide +kernel
theorem opl_rm_sisb : plainFor (⟨"java/lang/String", "<init>", "(Ljava/lang/StringBuilder;)V"⟩ : MethodName) = true := plainFor_of_name (by first | (simp [plainName, overriddenIn]; done) | decide +kernel)
set_option maxRecDepth 65536 in
set_option maxHeartbeats 40000000 in
theorem rm_sisb (l : Launch) (Z : State) (a0 : Array Value) (hw : ∀ d ∈ tables_1, d.before a0 Z = true) (ws : List Jvm.Cond) (a : Addr) (b d : Addr) (k : ClassId) (z : Int32) (bs : List Value) (zc : Int32) (wf : Value) (n0 : Nat) (h0 : Heap) (SS : own_SS Z zc wf) (O : Old Z n0 h0) (J : SBI Z h0 b d k z bs) (hb2 : bs.length < 2147483648) (hcap : bs.length ≤ 8) (hlt : Int32.ofNat bs.length < z) (hz1 : bs.length ≤ z.toNatClampNeg) (E : Exa Z h0 a "java/lang/String") (Fc : Fld Z h0 a "java/lang/String" "coder" "B" (.int (0 : Int32))) (Fv : Fld Z h0 a "java/lang/String" "value" "[B" .null) (g_a : n0 ≤ a) (nba : b ≠ a) (nda : d ≠ a) :
    Con l Z (⟨"java/lang/String", "<init>", "(Ljava/lang/StringBuilder;)V"⟩ : MethodName) jdk_42_method_53_code 2 none ws ({ frames := 4, cells := 1, slots := 8, locals := 76 } : Room) #[(.ref a), (.ref b)] h0 (fun v h L => v = none ∧ Fr n0 L ∧ Keep h0 h [a] ∧ ∃ r k', h0.size ≤ r ∧ STI Z h a r k' bs) := by
  refine Con.intro opl_rm_sisb ?_
  intro p e s m below meth c s₁ hx hby hml hown hret hlk hZ hnm X0 e0
  have SS' := SS
  obtain ⟨hzc, SC, hwf, SF⟩ := SS
  have Z0 : n0 ≤ h0.size := O.1 ▸ O.2.1
  have N0 := Fr.nil n0
  obtain ⟨JE, JF, JC, JN, JV⟩ := J
  refine OGo.cast (g' := (mkF m 0 #[.val (.ref a), .val (.ref b)] [])) (by first | (simp [entryFrame, mkF, argsToLocals, Value.category]; done) | rfl) ?_
  show OGo p e below _ s₁ (mkF m 0 #[.val (.ref a), .val (.ref b)] [])
  refine OGo.step (fun _ k => XS.aloadN X0.here hx rfl (hb hby d_jdk_42_method_53_0) rfl rfl k) ?_
  show OGo p e below _ s₁ (mkF m 1 #[.val (.ref a), .val (.ref b)] [(.ref a)])
  refine OGo.step (fun _ k => XS.aloadN X0.here hx rfl (hb hby d_jdk_42_method_53_1) rfl rfl k) ?_
  show OGo p e below _ s₁ (mkF m 2 #[.val (.ref a), .val (.ref b)] [(.ref b), (.ref a)])
  refine OGo.step (fun _ k => XS.aconstNull X0.here hx rfl (hb hby d_jdk_42_method_53_2) k) ?_
  show OGo p e below _ s₁ (mkF m 3 #[.val (.ref a), .val (.ref b)] [.null, (.ref b), (.ref a)])
  obtain ⟨v66, T66, L66, X66, hQ66, st66⟩ := icall X0 hx hZ rfl hown (hw _ (List.mem_of_getElem? (i := 125) rfl)) (hw _ (List.mem_of_getElem? (i := 126) rfl)) (hw _ (List.mem_of_getElem? (i := 6) rfl)) (hw _ (List.mem_of_getElem? (i := 127) rfl)) (by decide) (W := 0) (rm_sia l Z a0 hw [] a b d k z bs zc wf n0 h0 SS' O ⟨JE, JF, JC, JN, JV⟩ hb2 hcap hlt hz1 E Fc Fv g_a nba nda) e0 (by decide) (by decide) (by decide) (by decide) (g := (mkF m 3 #[.val (.ref a), .val (.ref b)] [.null, (.ref b), (.ref a)])) rfl (by rw [hml]; rfl) (a := a) (argsL := [(.ref b), .null]) (rest := []) opd_14 rfl rfl rfl (by show 2 * 0 + _ ≤ _; exact Nat.le_of_eq rfl) (hb hby d_jdk_42_method_53_3)
  obtain ⟨rfl, N66, K66, r66, kr66, sr66, I66⟩ := hQ66
  have NN66 := Fr.app N0 N66
  have KK66 : Keep h0 T66.heap [a] := (Keep.refl h0 [a]).trans K66 (allS (Or.inl (List.mem_of_getElem? (i := 0) rfl)) all0)
  refine OGo.step st66 ?_
  show OGo p e below _ T66 (mkF m 6 #[.val (.ref a), .val (.ref b)] [])
  exact OGo.retV X66 hx hret hlk (hb hby d_jdk_42_method_53_6) (by decide) (by decide) ⟨rfl, NN66, KK66, r66, _, sr66, I66⟩
theorem d_jdk_67_method_42_0 : decode jdk_67_method_42_code 0 = .ok (.new 18, 3) := by decide +kernel
theorem d_jdk_67_method_42_3 : decode jdk_67_method_42_code 3 = .ok (.dup, 1) := by decide +kernel
theorem d_jdk_67_method_42_4 : decode jdk_67_method_42_code 4 = .ok (.aload_n 0, 1) := by decide +kernel
theorem opd_15 : parseMethodDescriptor "(Ljava/lang/StringBuilder;)V" = some ⟨[(.object "java/lang/StringBuilder")], none⟩ := by decide +kernel
theorem d_jdk_67_method_42_5 : decode jdk_67_method_42_code 5 = .ok (.invokespecial 137, 3) := by decide +kernel
theorem d_jdk_67_method_42_8 : decode jdk_67_method_42_code 8 = .ok (.areturn, 1) := by decide +kernel
theorem opl_rm_toS : plainFor (⟨"java/lang/StringBuilder", "toString", "()Ljava/lang/String;"⟩ : MethodName) = true := plainFor_of_name (by first | (simp [plainName, overriddenIn]; done) | decide +kernel)
set_option maxRecDepth 65536 in
set_option maxHeartbeats 40000000 in
theorem rm_toS (l : Launch) (Z : State) (a0 : Array Value) (hw : ∀ d ∈ tables_1, d.before a0 Z = true) (ws : List Jvm.Cond) (b d : Addr) (k : ClassId) (z : Int32) (bs : List Value) (zc : Int32) (wf : Value) (n0 : Nat) (h0 : Heap) (SS : own_SS Z zc wf) (O : Old Z n0 h0) (J : SBI Z h0 b d k z bs) (hb2 : bs.length < 2147483648) (hcap : bs.length ≤ 8) (hlt : Int32.ofNat bs.length < z) (hz1 : bs.length ≤ z.toNatClampNeg) :
    Con l Z (⟨"java/lang/StringBuilder", "toString", "()Ljava/lang/String;"⟩ : MethodName) jdk_67_method_42_code 1 (some (.object "java/lang/String")) ws ({ frames := 5, cells := 2, slots := 12, locals := 90 } : Room) #[(.ref b)] h0 (fun v h L => ∃ a r k', v = some (.ref a) ∧ h0.size ≤ a ∧ h0.size ≤ r ∧ Fr n0 L ∧ Keep h0 h [] ∧ STI Z h a r k' bs) := by
  refine Con.intro opl_rm_toS ?_
  intro p e s m below meth c s₁ hx hby hml hown hret hlk hZ hnm X0 e0
  have SS' := SS
  obtain ⟨hzc, SC, hwf, SF⟩ := SS
  have Z0 : n0 ≤ h0.size := O.1 ▸ O.2.1
  have N0 := Fr.nil n0
  obtain ⟨JE, JF, JC, JN, JV⟩ := J
  refine OGo.cast (g' := (mkF m 0 #[.val (.ref b)] [])) (by first | (simp [entryFrame, mkF, argsToLocals, Value.category]; done) | rfl) ?_
  show OGo p e below _ s₁ (mkF m 0 #[.val (.ref b)] [])
  obtain ⟨T67, h67, X67, e67, E67, A67, D67, -, st67⟩ := newO X0 hx hZ hown (hw _ (List.mem_of_getElem? (i := 121) rfl)) (hw _ (List.mem_of_getElem? (i := 5) rfl)) (hw _ (List.mem_of_getElem? (i := 6) rfl)) e0 (g := (mkF m 0 #[.val (.ref b)] [])) rfl (hb hby d_jdk_67_method_42_0) (by decide) (by decide)
  obtain ⟨b67, g67⟩ : ∃ z, z = h0.size := ⟨_, rfl⟩
  rw [← g67] at A67 D67 st67
  have sz_b67 : h0.size ≤ b67 := Nat.le_trans (Keep.refl h0 []).1 (Nat.le_of_eq g67.symm)
  have KK67 : Keep h0 h67 [] := (Keep.refl h0 []).ext E67
  have F67_value : Fld Z h67 b67 "java/lang/String" "value" "[B" .null := D67 (Or.inr (hw _ (List.mem_of_getElem? (i := 20) rfl))) (ty := (.array .byte)) (by decide)
  have F67_coder : Fld Z h67 b67 "java/lang/String" "coder" "B" (.int (0 : Int32)) := D67 (Or.inr (hw _ (List.mem_of_getElem? (i := 21) rfl))) (ty := .byte) (by decide)
  refine OGo.step st67 ?_
  show OGo p e below _ T67 (mkF m 3 #[.val (.ref b)] [(.ref b67)])
  refine OGo.step (fun _ k => XS.dup X67.here hx rfl (hb hby d_jdk_67_method_42_3) rfl rfl k) ?_
  show OGo p e below _ T67 (mkF m 4 #[.val (.ref b)] [(.ref b67), (.ref b67)])
  refine OGo.step (fun _ k => XS.aloadN X67.here hx rfl (hb hby d_jdk_67_method_42_4) rfl rfl k) ?_
  show OGo p e below _ T67 (mkF m 5 #[.val (.ref b)] [(.ref b), (.ref b67), (.ref b67)])
  obtain ⟨v68, T68, L68, X68, hQ68, st68⟩ := icall X67 hx hZ rfl hown (hw _ (List.mem_of_getElem? (i := 122) rfl)) (hw _ (List.mem_of_getElem? (i := 123) rfl)) (hw _ (List.mem_of_getElem? (i := 6) rfl)) (hw _ (List.mem_of_getElem? (i := 124) rfl)) (by decide) (W := 1) (rm_sisb l Z a0 hw [] b67 b d k z bs zc wf n0 h67 SS' (O.ext E67) ⟨(JE.ext E67), (JF.ext E67), (JC.ext E67), (JN.ext E67), (JV.ext E67)⟩ hb2 hcap hlt hz1 A67 F67_coder F67_value (Nat.le_trans Z0 sz_b67) (Nat.ne_of_lt (Nat.lt_of_lt_of_le JE.lt (Nat.le_of_eq g67.symm))) (Nat.ne_of_lt (Nat.lt_of_lt_of_le JV.lt (Nat.le_of_eq g67.symm)))) e67 (by decide) (by decide) (by decide) (by decide) (g := (mkF m 5 #[.val (.ref b)] [(.ref b), (.ref b67), (.ref b67)])) rfl (by rw [hml]; rfl) (a := b67) (argsL := [(.ref b)]) (rest := [(.ref b67)]) opd_15 rfl rfl rfl (by show 2 * 0 + _ ≤ _; exact Nat.le_of_eq rfl) (hb hby d_jdk_67_method_42_5)
  obtain ⟨rfl, N68, K68, r68, kr68, sr68, I68⟩ := hQ68
  have NN68 := Fr.app N0 N68
  have KK68 : Keep h0 T68.heap [] := KK67.trans K68 (allS (Or.inr sz_b67) all0)
  have sz_r68 : h0.size ≤ r68 := Nat.le_trans KK67.1 sr68
  refine OGo.step st68 ?_
  show OGo p e below _ T68 (mkF m 8 #[.val (.ref b)] [(.ref b67)])
  exact OGo.ret X68 hx (t := (.object "java/lang/String")) hret hlk rfl (Or.inr (Or.inr (Or.inr (Or.inr ⟨rfl, rfl, rfl⟩)))) (hb hby d_jdk_67_method_42_8) (by decide) (by decide) ⟨b67, r68, _, rfl, sz_b67, sz_r68, NN68, KK68, I68⟩
theorem d_jdk_52_method_21_0 : decode jdk_52_method_21_code 0 = .ok (.iconst 0, 1) := by decide +kernel
theorem d_jdk_52_method_21_1 : decode jdk_52_method_21_code 1 = .ok (.istore 5, 2) := by decide +kernel
theorem d_jdk_52_method_21_3 : decode jdk_52_method_21_code 3 = .ok (.iload 5, 2) := by decide +kernel
theorem d_jdk_52_method_21_5 : decode jdk_52_method_21_code 5 = .ok (.iload 4, 2) := by decide +kernel
theorem d_jdk_52_method_21_7 : decode jdk_52_method_21_code 7 = .ok (.if_icmp .ge 37, 3) := by decide +kernel
theorem d_jdk_52_method_21_44 : decode jdk_52_method_21_code 44 = .ok (.iload 4, 2) := by decide +kernel
theorem d_jdk_52_method_21_46 : decode jdk_52_method_21_code 46 = .ok (.ireturn, 1) := by decide +kernel
theorem d_jdk_52_method_21_10 : decode jdk_52_method_21_code 10 = .ok (.aload_n 0, 1) := by decide +kernel
theorem d_jdk_52_method_21_11 : decode jdk_52_method_21_code 11 = .ok (.iload_n 1, 1) := by decide +kernel
theorem d_jdk_52_method_21_12 : decode jdk_52_method_21_code 12 = .ok (.caload, 1) := by decide +kernel
theorem d_jdk_52_method_21_13 : decode jdk_52_method_21_code 13 = .ok (.istore 6, 2) := by decide +kernel
theorem d_jdk_52_method_21_15 : decode jdk_52_method_21_code 15 = .ok (.iload 6, 2) := by decide +kernel
theorem d_jdk_52_method_21_17 : decode jdk_52_method_21_code 17 = .ok (.sipush 255, 3) := by decide +kernel
theorem d_jdk_52_method_21_20 : decode jdk_52_method_21_code 20 = .ok (.if_icmp .le 6, 3) := by decide +kernel
theorem d_jdk_52_method_21_26 : decode jdk_52_method_21_code 26 = .ok (.aload_n 2, 1) := by decide +kernel
theorem d_jdk_52_method_21_27 : decode jdk_52_method_21_code 27 = .ok (.iload_n 3, 1) := by decide +kernel
theorem d_jdk_52_method_21_28 : decode jdk_52_method_21_code 28 = .ok (.iload 6, 2) := by decide +kernel
theorem d_jdk_52_method_21_30 : decode jdk_52_method_21_code 30 = .ok (.i2b, 1) := by decide +kernel
theorem d_jdk_52_method_21_31 : decode jdk_52_method_21_code 31 = .ok (.bastore, 1) := by decide +kernel
theorem d_jdk_52_method_21_32 : decode jdk_52_method_21_code 32 = .ok (.iinc 1 1, 3) := by decide +kernel
theorem d_jdk_52_method_21_35 : decode jdk_52_method_21_code 35 = .ok (.iinc 3 1, 3) := by decide +kernel
theorem d_jdk_52_method_21_38 : decode jdk_52_method_21_code 38 = .ok (.iinc 5 1, 3) := by decide +kernel
theorem d_jdk_52_method_21_41 : decode jdk_52_method_21_code 41 = .ok (.goto (-38), 3) := by decide +kernel
theorem opl_rm_cmp5 : plainFor (⟨"java/lang/StringUTF16", "compress", "([CI[BII)I"⟩ : MethodName) = true := plainFor_of_name (by first | (simp [plainName, overriddenIn]; done) | decide +kernel)
set_option maxRecDepth 65536 in
set_option maxHeartbeats 40000000 in
theorem rm_cmp5 (l : Launch) (Z : State) (a0 : Array Value) (hw : ∀ d ∈ tables_1, d.before a0 Z = true) (ws : List Jvm.Cond) (ca b : Addr) (kc kb : ClassId) (cs : List Int32) (zc : Int32) (wf : Value) (n0 : Nat) (h0 : Heap) (SS : own_SS Z zc wf) (O : Old Z n0 h0) (Vc : Arv Z h0 ca kc .char (Int32.ofNat cs.length) (cs.map Value.int) (.int (0 : Int32))) (Vb : Arv Z h0 b kb .byte (Int32.ofNat cs.length) [] (.int (0 : Int32))) (hp : own_ok8 cs) (hbl : cs.length < 2147483648) (nbc : ca ≠ b) (g_b : n0 ≤ b) :
    Con l Z (⟨"java/lang/StringUTF16", "compress", "([CI[BII)I"⟩ : MethodName) jdk_52_method_21_code 7 (some .int) ws ({ frames := 0, cells := 0, slots := 0, locals := 0 } : Room) #[(.ref ca), (.int (0 : Int32)), (.ref b), (.int (0 : Int32)), (.int (Int32.ofNat cs.length))] h0 (fun v h L => v = some (.int (Int32.ofNat cs.length)) ∧ Fr n0 L ∧ Keep h0 h [b] ∧ Arv Z h b kb .byte (Int32.ofNat cs.length) (own_b8 cs) (.int (0 : Int32))) := by
  refine Con.intro opl_rm_cmp5 ?_
  intro p e s m below meth c s₁ hx hby hml hown hret hlk hZ hnm X0 e0
  obtain ⟨hzc, SC, hwf, SF⟩ := SS
  have Z0 : n0 ≤ h0.size := O.1 ▸ O.2.1
  have N0 := Fr.nil n0
  refine OGo.cast (g' := (mkF m 0 #[.val (.ref ca), .val (.int (0 : Int32)), .val (.ref b), .val (.int (0 : Int32)), .val (.int (Int32.ofNat cs.length)), .unset, .unset] [])) (by first | (simp [entryFrame, mkF, argsToLocals, Value.category]; done) | rfl) ?_
  show OGo p e below _ s₁ (mkF m 0 #[.val (.ref ca), .val (.int (0 : Int32)), .val (.ref b), .val (.int (0 : Int32)), .val (.int (Int32.ofNat cs.length)), .unset, .unset] [])
  refine OGo.step (fun _ k => XS.iconst X0.here hx rfl (hb hby d_jdk_52_method_21_0) k) ?_
  show OGo p e below _ s₁ (mkF m 1 #[.val (.ref ca), .val (.int (0 : Int32)), .val (.ref b), .val (.int (0 : Int32)), .val (.int (Int32.ofNat cs.length)), .unset, .unset] [(.int (0 : Int32))])
  refine OGo.step (fun _ k => XS.istore X0.here hx rfl (hb hby d_jdk_52_method_21_1) rfl (l' := #[.val (.ref ca), .val (.int (0 : Int32)), .val (.ref b), .val (.int (0 : Int32)), .val (.int (Int32.ofNat cs.length)), .val (.int (0 : Int32)), .unset]) rfl k) ?_
  show OGo p e below _ s₁ (mkF m 3 #[.val (.ref ca), .val (.int (0 : Int32)), .val (.ref b), .val (.int (0 : Int32)), .val (.int (Int32.ofNat cs.length)), .val (.int (0 : Int32)), .unset] [])
  have loop : ∀ (r i : Nat) (T : State) (h : Heap) (locs : List Loc) (s6 : Slot), i + r = cs.length → One s6 → Stand p l e ({ frames := 0, cells := 0, slots := 0, locals := 0 } : Room) s m #[(.ref ca), (.int (0 : Int32)), (.ref b), (.int (0 : Int32)), (.int (Int32.ofNat cs.length))] below meth c T locs 0 0 → T.heap = h → Fr n0 locs → Keep h0 h [b] → Arv Z h ca kc .char (Int32.ofNat cs.length) (cs.map Value.int) (.int (0 : Int32)) → Arv Z h b kb .byte (Int32.ofNat cs.length) (own_b8 (cs.take i)) (.int (0 : Int32)) → OGo p e below (EndQ s ({ frames := 0, cells := 0, slots := 0, locals := 0 } : Room) (fun v h L => v = some (.int (Int32.ofNat cs.length)) ∧ Fr n0 L ∧ Keep h0 h [b] ∧ Arv Z h b kb .byte (Int32.ofNat cs.length) (own_b8 cs) (.int (0 : Int32)))) T (mkF m 3 #[.val (.ref ca), .val (.int (Int32.ofNat i)), .val (.ref b), .val (.int (Int32.ofNat i)), .val (.int (Int32.ofNat cs.length)), .val (.int (Int32.ofNat i)), s6] []) := by
    intro r
    induction r with
    | zero =>
      intro i T h locs s6 hi h6 X eT N K Vc Vb
      have hi' : i = cs.length := by omega
      subst hi'
      rw [List.take_length] at Vb
      show OGo p e below _ T (mkF m 3 #[.val (.ref ca), .val (.int (Int32.ofNat cs.length)), .val (.ref b), .val (.int (Int32.ofNat cs.length)), .val (.int (Int32.ofNat cs.length)), .val (.int (Int32.ofNat cs.length)), s6] [])
      refine OGo.step (fun _ k => XS.iload X.here hx rfl (hb hby d_jdk_52_method_21_3) rfl k) ?_
      show OGo p e below _ T (mkF m 5 #[.val (.ref ca), .val (.int (Int32.ofNat cs.length)), .val (.ref b), .val (.int (Int32.ofNat cs.length)), .val (.int (Int32.ofNat cs.length)), .val (.int (Int32.ofNat cs.length)), s6] [(.int (Int32.ofNat cs.length))])
      refine OGo.step (fun _ k => XS.iload X.here hx rfl (hb hby d_jdk_52_method_21_5) rfl k) ?_
      show OGo p e below _ T (mkF m 7 #[.val (.ref ca), .val (.int (Int32.ofNat cs.length)), .val (.ref b), .val (.int (Int32.ofNat cs.length)), .val (.int (Int32.ofNat cs.length)), .val (.int (Int32.ofNat cs.length)), s6] [(.int (Int32.ofNat cs.length)), (.int (Int32.ofNat cs.length))])
      refine OGo.step (fun _ k => XS.icmpYes X.here hx rfl (pc0 := 7) (pc' := 44) rfl (hb hby d_jdk_52_method_21_7) rfl (flt Int32.lt_irrefl).2.1 (by decide) (by decide) k) ?_
      show OGo p e below _ T (mkF m 44 #[.val (.ref ca), .val (.int (Int32.ofNat cs.length)), .val (.ref b), .val (.int (Int32.ofNat cs.length)), .val (.int (Int32.ofNat cs.length)), .val (.int (Int32.ofNat cs.length)), s6] [])
      refine OGo.step (fun _ k => XS.iload X.here hx rfl (hb hby d_jdk_52_method_21_44) rfl k) ?_
      show OGo p e below _ T (mkF m 46 #[.val (.ref ca), .val (.int (Int32.ofNat cs.length)), .val (.ref b), .val (.int (Int32.ofNat cs.length)), .val (.int (Int32.ofNat cs.length)), .val (.int (Int32.ofNat cs.length)), s6] [(.int (Int32.ofNat cs.length))])
      exact OGo.ret X hx (t := .int) hret hlk rfl (Or.inl ⟨rfl, by simp, _, rfl⟩) (hb hby d_jdk_52_method_21_46) (by decide) (by decide) (by rw [eT]; exact ⟨rfl, N, K, Vb⟩)
    | succ r ih =>
      intro i T h locs s6 hi h6 X eT N K Vc Vb
      have hil : i < cs.length := by omega
      obtain ⟨x, hxi⟩ : ∃ x, cs[i]? = some x := ⟨_, List.getElem?_eq_getElem hil⟩
      have hx8 := hp x (List.mem_of_getElem? hxi)
      have hlt : Int32.ofNat i < (Int32.ofNat cs.length) := (own_lt (by omega) hbl).mpr hil
      have Vb' : Arv Z h b kb .byte (Int32.ofNat cs.length) (own_b8 (cs.take i) ++ List.replicate 1 (.int (0 : Int32))) (.int (0 : Int32)) := Vb.pad (pad_rep _ _ 1)
      show OGo p e below _ T (mkF m 3 #[.val (.ref ca), .val (.int (Int32.ofNat i)), .val (.ref b), .val (.int (Int32.ofNat i)), .val (.int (Int32.ofNat cs.length)), .val (.int (Int32.ofNat i)), s6] [])
      refine OGo.step (fun _ k => XS.iload X.here hx rfl (hb hby d_jdk_52_method_21_3) rfl k) ?_
      show OGo p e below _ T (mkF m 5 #[.val (.ref ca), .val (.int (Int32.ofNat i)), .val (.ref b), .val (.int (Int32.ofNat i)), .val (.int (Int32.ofNat cs.length)), .val (.int (Int32.ofNat i)), s6] [(.int (Int32.ofNat i))])
      refine OGo.step (fun _ k => XS.iload X.here hx rfl (hb hby d_jdk_52_method_21_5) rfl k) ?_
      show OGo p e below _ T (mkF m 7 #[.val (.ref ca), .val (.int (Int32.ofNat i)), .val (.ref b), .val (.int (Int32.ofNat i)), .val (.int (Int32.ofNat cs.length)), .val (.int (Int32.ofNat i)), s6] [(.int (Int32.ofNat cs.length)), (.int (Int32.ofNat i))])
      refine OGo.step (fun _ k => XS.icmpNo X.here hx rfl (hb hby d_jdk_52_method_21_7) rfl (tlt hlt).2.1 k) ?_
      show OGo p e below _ T (mkF m 10 #[.val (.ref ca), .val (.int (Int32.ofNat i)), .val (.ref b), .val (.int (Int32.ofNat i)), .val (.int (Int32.ofNat cs.length)), .val (.int (Int32.ofNat i)), s6] [])
      refine OGo.step (fun _ k => XS.aloadN X.here hx rfl (hb hby d_jdk_52_method_21_10) rfl rfl k) ?_
      show OGo p e below _ T (mkF m 11 #[.val (.ref ca), .val (.int (Int32.ofNat i)), .val (.ref b), .val (.int (Int32.ofNat i)), .val (.int (Int32.ofNat cs.length)), .val (.int (Int32.ofNat i)), s6] [(.ref ca)])
      refine OGo.step (fun _ k => XS.iloadN X.here hx rfl (hb hby d_jdk_52_method_21_11) rfl k) ?_
      show OGo p e below _ T (mkF m 12 #[.val (.ref ca), .val (.int (Int32.ofNat i)), .val (.ref b), .val (.int (Int32.ofNat i)), .val (.int (Int32.ofNat cs.length)), .val (.int (Int32.ofNat i)), s6] [(.int (Int32.ofNat i)), (.ref ca)])
      refine OGo.step (fun _ k => caloadV X hx hZ eT Vc ⟨own_nn (by omega), hlt⟩ (own_at hxi (by omega)) (g := (mkF m 12 #[.val (.ref ca), .val (.int (Int32.ofNat i)), .val (.ref b), .val (.int (Int32.ofNat i)), .val (.int (Int32.ofNat cs.length)), .val (.int (Int32.ofNat i)), s6] [(.int (Int32.ofNat i)), (.ref ca)])) rfl rfl (hb hby d_jdk_52_method_21_12) _ k) ?_
      show OGo p e below _ T (mkF m 13 #[.val (.ref ca), .val (.int (Int32.ofNat i)), .val (.ref b), .val (.int (Int32.ofNat i)), .val (.int (Int32.ofNat cs.length)), .val (.int (Int32.ofNat i)), s6] [(.int x)])
      refine OGo.step (fun _ k => XS.istore X.here hx rfl (hb hby d_jdk_52_method_21_13) rfl (own_one h6) k) ?_
      show OGo p e below _ T (mkF m 15 #[.val (.ref ca), .val (.int (Int32.ofNat i)), .val (.ref b), .val (.int (Int32.ofNat i)), .val (.int (Int32.ofNat cs.length)), .val (.int (Int32.ofNat i)), .val (.int x)] [])
      refine OGo.step (fun _ k => XS.iload X.here hx rfl (hb hby d_jdk_52_method_21_15) rfl k) ?_
      show OGo p e below _ T (mkF m 17 #[.val (.ref ca), .val (.int (Int32.ofNat i)), .val (.ref b), .val (.int (Int32.ofNat i)), .val (.int (Int32.ofNat cs.length)), .val (.int (Int32.ofNat i)), .val (.int x)] [(.int x)])
      refine OGo.step (fun _ k => XS.sipush X.here hx rfl (hb hby d_jdk_52_method_21_17) k) ?_
      show OGo p e below _ T (mkF m 20 #[.val (.ref ca), .val (.int (Int32.ofNat i)), .val (.ref b), .val (.int (Int32.ofNat i)), .val (.int (Int32.ofNat cs.length)), .val (.int (Int32.ofNat i)), .val (.int x)] [(.int (255 : Int32)), (.int x)])
      refine OGo.step (fun _ k => XS.icmpYes X.here hx rfl (pc0 := 20) (pc' := 26) rfl (hb hby d_jdk_52_method_21_20) rfl (flt hx8.2).2.2.2 (by decide) (by decide) k) ?_
      show OGo p e below _ T (mkF m 26 #[.val (.ref ca), .val (.int (Int32.ofNat i)), .val (.ref b), .val (.int (Int32.ofNat i)), .val (.int (Int32.ofNat cs.length)), .val (.int (Int32.ofNat i)), .val (.int x)] [])
      refine OGo.step (fun _ k => XS.aloadN X.here hx rfl (hb hby d_jdk_52_method_21_26) rfl rfl k) ?_
      show OGo p e below _ T (mkF m 27 #[.val (.ref ca), .val (.int (Int32.ofNat i)), .val (.ref b), .val (.int (Int32.ofNat i)), .val (.int (Int32.ofNat cs.length)), .val (.int (Int32.ofNat i)), .val (.int x)] [(.ref b)])
      refine OGo.step (fun _ k => XS.iloadN X.here hx rfl (hb hby d_jdk_52_method_21_27) rfl k) ?_
      show OGo p e below _ T (mkF m 28 #[.val (.ref ca), .val (.int (Int32.ofNat i)), .val (.ref b), .val (.int (Int32.ofNat i)), .val (.int (Int32.ofNat cs.length)), .val (.int (Int32.ofNat i)), .val (.int x)] [(.int (Int32.ofNat i)), (.ref b)])
      refine OGo.step (fun _ k => XS.iload X.here hx rfl (hb hby d_jdk_52_method_21_28) rfl k) ?_
      show OGo p e below _ T (mkF m 30 #[.val (.ref ca), .val (.int (Int32.ofNat i)), .val (.ref b), .val (.int (Int32.ofNat i)), .val (.int (Int32.ofNat cs.length)), .val (.int (Int32.ofNat i)), .val (.int x)] [(.int x), (.int (Int32.ofNat i)), (.ref b)])
      refine OGo.step (fun _ k => XS.i2b X.here hx rfl (hb hby d_jdk_52_method_21_30) rfl k) ?_
      show OGo p e below _ T (mkF m 31 #[.val (.ref ca), .val (.int (Int32.ofNat i)), .val (.ref b), .val (.int (Int32.ofNat i)), .val (.int (Int32.ofNat cs.length)), .val (.int (Int32.ofNat i)), .val (.int x)] [(.int (x.toInt8.toInt32)), (.int (Int32.ofNat i)), (.ref b)])
      obtain ⟨T69, h69, X69, e69, W69, Vq69, st69⟩ := bastoreV X hx hZ eT Vb' (j := (Int32.ofNat i)) ⟨own_nn (by omega), hlt⟩ (by rw [own_cl (by omega), List.length_append, own_b8_len]; simp; omega) (g := (mkF m 31 #[.val (.ref ca), .val (.int (Int32.ofNat i)), .val (.ref b), .val (.int (Int32.ofNat i)), .val (.int (Int32.ofNat cs.length)), .val (.int (Int32.ofNat i)), .val (.int x)] [(.int (x.toInt8.toInt32)), (.int (Int32.ofNat i)), (.ref b)])) rfl rfl (hb hby d_jdk_52_method_21_31)
      have N69 := Fr.snoc X69 N g_b
      have KK69 : Keep h0 h69 [b] := K.wr W69 (Or.inl (List.mem_of_getElem? (i := 0) rfl))
      refine OGo.step st69 ?_
      show OGo p e below _ T69 (mkF m 32 #[.val (.ref ca), .val (.int (Int32.ofNat i)), .val (.ref b), .val (.int (Int32.ofNat i)), .val (.int (Int32.ofNat cs.length)), .val (.int (Int32.ofNat i)), .val (.int x)] [])
      rw [own_cl (show i < 2147483648 by omega), own_set hxi] at Vq69
      refine OGo.step (fun _ k => XS.iinc X69.here hx rfl (hb hby d_jdk_52_method_21_32) rfl (l' := #[.val (.ref ca), .val (.int ((Int32.ofNat i) + (1 : Int32))), .val (.ref b), .val (.int (Int32.ofNat i)), .val (.int (Int32.ofNat cs.length)), .val (.int (Int32.ofNat i)), .val (.int x)]) rfl k) ?_
      show OGo p e below _ T69 (mkF m 35 #[.val (.ref ca), .val (.int ((Int32.ofNat i) + (1 : Int32))), .val (.ref b), .val (.int (Int32.ofNat i)), .val (.int (Int32.ofNat cs.length)), .val (.int (Int32.ofNat i)), .val (.int x)] [])
      refine OGo.step (fun _ k => XS.iinc X69.here hx rfl (hb hby d_jdk_52_method_21_35) rfl (l' := #[.val (.ref ca), .val (.int ((Int32.ofNat i) + (1 : Int32))), .val (.ref b), .val (.int ((Int32.ofNat i) + (1 : Int32))), .val (.int (Int32.ofNat cs.length)), .val (.int (Int32.ofNat i)), .val (.int x)]) rfl k) ?_
      show OGo p e below _ T69 (mkF m 38 #[.val (.ref ca), .val (.int ((Int32.ofNat i) + (1 : Int32))), .val (.ref b), .val (.int ((Int32.ofNat i) + (1 : Int32))), .val (.int (Int32.ofNat cs.length)), .val (.int (Int32.ofNat i)), .val (.int x)] [])
      refine OGo.step (fun _ k => XS.iinc X69.here hx rfl (hb hby d_jdk_52_method_21_38) rfl (l' := #[.val (.ref ca), .val (.int ((Int32.ofNat i) + (1 : Int32))), .val (.ref b), .val (.int ((Int32.ofNat i) + (1 : Int32))), .val (.int (Int32.ofNat cs.length)), .val (.int ((Int32.ofNat i) + (1 : Int32))), .val (.int x)]) rfl k) ?_
      show OGo p e below _ T69 (mkF m 41 #[.val (.ref ca), .val (.int ((Int32.ofNat i) + (1 : Int32))), .val (.ref b), .val (.int ((Int32.ofNat i) + (1 : Int32))), .val (.int (Int32.ofNat cs.length)), .val (.int ((Int32.ofNat i) + (1 : Int32))), .val (.int x)] [])
      refine OGo.step (fun _ k => XS.goto X69.here hx rfl (pc0 := 41) (pc' := 3) rfl (hb hby d_jdk_52_method_21_41) (by decide) (by decide) k) ?_
      show OGo p e below _ T69 (mkF m 3 #[.val (.ref ca), .val (.int ((Int32.ofNat i) + (1 : Int32))), .val (.ref b), .val (.int ((Int32.ofNat i) + (1 : Int32))), .val (.int (Int32.ofNat cs.length)), .val (.int ((Int32.ofNat i) + (1 : Int32))), .val (.int x)] [])
      rw [own_inc]
      exact ih (i + 1) T69 h69 _ _ (by omega) (One.val rfl) X69 e69 N69 KK69 (Vc.other W69 nbc) Vq69
  exact loop cs.length 0 _ _ _ _ (Nat.zero_add _) One.u X0 e0 N0 (Keep.refl _ _) Vc Vb
theorem d_jdk_52_method_16_0 : decode jdk_52_method_16_code 0 = .ok (.iload_n 2, 1) := by decide +kernel
theorem d_jdk_52_method_16_1 : decode jdk_52_method_16_code 1 = .ok (.newarray .byte, 2) := by decide +kernel
theorem d_jdk_52_method_16_3 : decode jdk_52_method_16_code 3 = .ok (.astore_n 3, 1) := by decide +kernel
theorem d_jdk_52_method_16_4 : decode jdk_52_method_16_code 4 = .ok (.aload_n 0, 1) := by decide +kernel
theorem d_jdk_52_method_16_5 : decode jdk_52_method_16_code 5 = .ok (.iload_n 1, 1) := by decide +kernel
theorem d_jdk_52_method_16_6 : decode jdk_52_method_16_code 6 = .ok (.aload_n 3, 1) := by decide +kernel
theorem d_jdk_52_method_16_7 : decode jdk_52_method_16_code 7 = .ok (.iconst 0, 1) := by decide +kernel
theorem d_jdk_52_method_16_8 : decode jdk_52_method_16_code 8 = .ok (.iload_n 2, 1) := by decide +kernel
theorem opd_16 : parseMethodDescriptor "([CI[BII)I" = some ⟨[(.array .char), .int, (.array .byte), .int, .int], some .int⟩ := by decide +kernel
theorem d_jdk_52_method_16_9 : decode jdk_52_method_16_code 9 = .ok (.invokestatic 115, 3) := by decide +kernel
theorem d_jdk_52_method_16_12 : decode jdk_52_method_16_code 12 = .ok (.istore 4, 2) := by decide +kernel
theorem d_jdk_52_method_16_14 : decode jdk_52_method_16_code 14 = .ok (.iload 4, 2) := by decide +kernel
theorem d_jdk_52_method_16_16 : decode jdk_52_method_16_code 16 = .ok (.iload_n 2, 1) := by decide +kernel
theorem d_jdk_52_method_16_17 : decode jdk_52_method_16_code 17 = .ok (.if_icmp .eq 40, 3) := by decide +kernel
theorem d_jdk_52_method_16_57 : decode jdk_52_method_16_code 57 = .ok (.aload_n 3, 1) := by decide +kernel
theorem d_jdk_52_method_16_58 : decode jdk_52_method_16_code 58 = .ok (.areturn, 1) := by decide +kernel
theorem opl_rm_cmp3 : plainFor (⟨"java/lang/StringUTF16", "compress", "([CII)[B"⟩ : MethodName) = true := plainFor_of_name (by first | (simp [plainName, overriddenIn]; done) | decide +kernel)
set_option maxRecDepth 65536 in
set_option maxHeartbeats 40000000 in
theorem rm_cmp3 (l : Launch) (Z : State) (a0 : Array Value) (hw : ∀ d ∈ tables_1, d.before a0 Z = true) (ws : List Jvm.Cond) (ca : Addr) (kc : ClassId) (cs : List Int32) (zc : Int32) (wf : Value) (n0 : Nat) (h0 : Heap) (SS : own_SS Z zc wf) (O : Old Z n0 h0) (Vc : Arv Z h0 ca kc .char (Int32.ofNat cs.length) (cs.map Value.int) (.int (0 : Int32))) (hp : own_ok8 cs) (hbl : cs.length < 2147483648) (hcap : cs.length ≤ 2) :
    Con l Z (⟨"java/lang/StringUTF16", "compress", "([CII)[B"⟩ : MethodName) jdk_52_method_16_code 6 (some (.array .byte)) ws ({ frames := 1, cells := 1, slots := 2, locals := 18 } : Room) #[(.ref ca), (.int (0 : Int32)), (.int (Int32.ofNat cs.length))] h0 (fun v h L => ∃ r k', v = some (.ref r) ∧ h0.size ≤ r ∧ Fr n0 L ∧ Keep h0 h [] ∧ Arv Z h r k' .byte (Int32.ofNat cs.length) (own_b8 cs) (.int (0 : Int32))) := by
  refine Con.intro opl_rm_cmp3 ?_
  intro p e s m below meth c s₁ hx hby hml hown hret hlk hZ hnm X0 e0
  have SS' := SS
  obtain ⟨hzc, SC, hwf, SF⟩ := SS
  have Z0 : n0 ≤ h0.size := O.1 ▸ O.2.1
  have N0 := Fr.nil n0
  refine OGo.cast (g' := (mkF m 0 #[.val (.ref ca), .val (.int (0 : Int32)), .val (.int (Int32.ofNat cs.length)), .unset, .unset, .unset] [])) (by first | (simp [entryFrame, mkF, argsToLocals, Value.category]; done) | rfl) ?_
  show OGo p e below _ s₁ (mkF m 0 #[.val (.ref ca), .val (.int (0 : Int32)), .val (.int (Int32.ofNat cs.length)), .unset, .unset, .unset] [])
  refine OGo.step (fun _ k => XS.iloadN X0.here hx rfl (hb hby d_jdk_52_method_16_0) rfl k) ?_
  show OGo p e below _ s₁ (mkF m 1 #[.val (.ref ca), .val (.int (0 : Int32)), .val (.int (Int32.ofNat cs.length)), .unset, .unset, .unset] [(.int (Int32.ofNat cs.length))])
  obtain ⟨T70, h70, k70, X70, e70, E70, A70, st70⟩ := newP X0 hx hZ (hw _ (List.mem_of_getElem? (i := 19) rfl)) e0 (g := (mkF m 1 #[.val (.ref ca), .val (.int (0 : Int32)), .val (.int (Int32.ofNat cs.length)), .unset, .unset, .unset] [(.int (Int32.ofNat cs.length))])) rfl (hb hby d_jdk_52_method_16_1) rfl (own_nn hbl) (cap := 2) (by rw [own_cl hbl]; exact hcap) (by decide) (by decide) (by decide)
  obtain ⟨b70, g70⟩ : ∃ z, z = h0.size := ⟨_, rfl⟩
  rw [← g70] at A70 st70
  have sz_b70 : h0.size ≤ b70 := Nat.le_trans (Keep.refl h0 []).1 (Nat.le_of_eq g70.symm)
  have KK70 : Keep h0 h70 [] := (Keep.refl h0 []).ext E70
  have V70 : Arv Z h70 b70 k70 .byte (Int32.ofNat cs.length) [] (.int (0 : Int32)) := Arv.new A70 (own_nn hbl)
  refine OGo.step st70 ?_
  show OGo p e below _ T70 (mkF m 3 #[.val (.ref ca), .val (.int (0 : Int32)), .val (.int (Int32.ofNat cs.length)), .unset, .unset, .unset] [(.ref b70)])
  refine OGo.step (fun _ k => XS.astoreN X70.here hx rfl (hb hby d_jdk_52_method_16_3) rfl rfl (l' := #[.val (.ref ca), .val (.int (0 : Int32)), .val (.int (Int32.ofNat cs.length)), .val (.ref b70), .unset, .unset]) rfl k) ?_
  show OGo p e below _ T70 (mkF m 4 #[.val (.ref ca), .val (.int (0 : Int32)), .val (.int (Int32.ofNat cs.length)), .val (.ref b70), .unset, .unset] [])
  refine OGo.step (fun _ k => XS.aloadN X70.here hx rfl (hb hby d_jdk_52_method_16_4) rfl rfl k) ?_
  show OGo p e below _ T70 (mkF m 5 #[.val (.ref ca), .val (.int (0 : Int32)), .val (.int (Int32.ofNat cs.length)), .val (.ref b70), .unset, .unset] [(.ref ca)])
  refine OGo.step (fun _ k => XS.iloadN X70.here hx rfl (hb hby d_jdk_52_method_16_5) rfl k) ?_
  show OGo p e below _ T70 (mkF m 6 #[.val (.ref ca), .val (.int (0 : Int32)), .val (.int (Int32.ofNat cs.length)), .val (.ref b70), .unset, .unset] [(.int (0 : Int32)), (.ref ca)])
  refine OGo.step (fun _ k => XS.aloadN X70.here hx rfl (hb hby d_jdk_52_method_16_6) rfl rfl k) ?_
  show OGo p e below _ T70 (mkF m 7 #[.val (.ref ca), .val (.int (0 : Int32)), .val (.int (Int32.ofNat cs.length)), .val (.ref b70), .unset, .unset] [(.ref b70), (.int (0 : Int32)), (.ref ca)])
  refine OGo.step (fun _ k => XS.iconst X70.here hx rfl (hb hby d_jdk_52_method_16_7) k) ?_
  show OGo p e below _ T70 (mkF m 8 #[.val (.ref ca), .val (.int (0 : Int32)), .val (.int (Int32.ofNat cs.length)), .val (.ref b70), .unset, .unset] [(.int (0 : Int32)), (.ref b70), (.int (0 : Int32)), (.ref ca)])
  refine OGo.step (fun _ k => XS.iloadN X70.here hx rfl (hb hby d_jdk_52_method_16_8) rfl k) ?_
  show OGo p e below _ T70 (mkF m 9 #[.val (.ref ca), .val (.int (0 : Int32)), .val (.int (Int32.ofNat cs.length)), .val (.ref b70), .unset, .unset] [(.int (Int32.ofNat cs.length)), (.int (0 : Int32)), (.ref b70), (.int (0 : Int32)), (.ref ca)])
  obtain ⟨v71, T71, L71, X71, hQ71, st71⟩ := scall X70 hx hZ hown (hw _ (List.mem_of_getElem? (i := 193) rfl)) (hw _ (List.mem_of_getElem? (i := 194) rfl)) (hw _ (List.mem_of_getElem? (i := 191) rfl)) (hw _ (List.mem_of_getElem? (i := 195) rfl)) (by decide) (W := 0) (rm_cmp5 l Z a0 hw [] ca b70 kc k70 cs zc wf n0 h70 SS' (O.ext E70) (Vc.ext E70) V70 hp hbl (Nat.ne_of_lt (Nat.lt_of_lt_of_le Vc.lt (Nat.le_of_eq g70.symm))) (Nat.le_trans Z0 sz_b70)) e70 (by decide) (by decide) (by decide) (by decide) (g := (mkF m 9 #[.val (.ref ca), .val (.int (0 : Int32)), .val (.int (Int32.ofNat cs.length)), .val (.ref b70), .unset, .unset] [(.int (Int32.ofNat cs.length)), (.int (0 : Int32)), (.ref b70), (.int (0 : Int32)), (.ref ca)])) rfl (by rw [hml]; rfl) (argsL := [(.ref ca), (.int (0 : Int32)), (.ref b70), (.int (0 : Int32)), (.int (Int32.ofNat cs.length))]) (rest := []) opd_16 rfl rfl rfl (by show 2 * 0 + _ ≤ _; exact Nat.le_of_eq rfl) (hb hby d_jdk_52_method_16_9)
  obtain ⟨rfl, N71, K71, V71⟩ := hQ71
  have NN71 := Fr.app N0 N71
  have KK71 : Keep h0 T71.heap [] := KK70.trans K71 (allS (Or.inr sz_b70) all0)
  refine OGo.step st71 ?_
  show OGo p e below _ T71 (mkF m 12 #[.val (.ref ca), .val (.int (0 : Int32)), .val (.int (Int32.ofNat cs.length)), .val (.ref b70), .unset, .unset] [(.int (Int32.ofNat cs.length))])
  refine OGo.step (fun _ k => XS.istore X71.here hx rfl (hb hby d_jdk_52_method_16_12) rfl (l' := #[.val (.ref ca), .val (.int (0 : Int32)), .val (.int (Int32.ofNat cs.length)), .val (.ref b70), .val (.int (Int32.ofNat cs.length)), .unset]) rfl k) ?_
  show OGo p e below _ T71 (mkF m 14 #[.val (.ref ca), .val (.int (0 : Int32)), .val (.int (Int32.ofNat cs.length)), .val (.ref b70), .val (.int (Int32.ofNat cs.length)), .unset] [])
  refine OGo.step (fun _ k => XS.iload X71.here hx rfl (hb hby d_jdk_52_method_16_14) rfl k) ?_
  show OGo p e below _ T71 (mkF m 16 #[.val (.ref ca), .val (.int (0 : Int32)), .val (.int (Int32.ofNat cs.length)), .val (.ref b70), .val (.int (Int32.ofNat cs.length)), .unset] [(.int (Int32.ofNat cs.length))])
  refine OGo.step (fun _ k => XS.iloadN X71.here hx rfl (hb hby d_jdk_52_method_16_16) rfl k) ?_
  show OGo p e below _ T71 (mkF m 17 #[.val (.ref ca), .val (.int (0 : Int32)), .val (.int (Int32.ofNat cs.length)), .val (.ref b70), .val (.int (Int32.ofNat cs.length)), .unset] [(.int (Int32.ofNat cs.length)), (.int (Int32.ofNat cs.length))])
  refine OGo.step (fun _ k => XS.icmpYes X71.here hx rfl (pc0 := 17) (pc' := 57) rfl (hb hby d_jdk_52_method_16_17) rfl (teq (rfl : (Int32.ofNat cs.length) = (Int32.ofNat cs.length))).1 (by decide) (by decide) k) ?_
  show OGo p e below _ T71 (mkF m 57 #[.val (.ref ca), .val (.int (0 : Int32)), .val (.int (Int32.ofNat cs.length)), .val (.ref b70), .val (.int (Int32.ofNat cs.length)), .unset] [])
  refine OGo.step (fun _ k => XS.aloadN X71.here hx rfl (hb hby d_jdk_52_method_16_57) rfl rfl k) ?_
  show OGo p e below _ T71 (mkF m 58 #[.val (.ref ca), .val (.int (0 : Int32)), .val (.int (Int32.ofNat cs.length)), .val (.ref b70), .val (.int (Int32.ofNat cs.length)), .unset] [(.ref b70)])
  exact OGo.ret X71 hx (t := (.array .byte)) hret hlk rfl (Or.inr (Or.inr (Or.inr (Or.inr ⟨rfl, rfl, rfl⟩)))) (hb hby d_jdk_52_method_16_58) (by decide) (by decide) ⟨b70, _, rfl, sz_b70, NN71, KK71, V71⟩
theorem d_jdk_52_method_15_0 : decode jdk_52_method_15_code 0 = .ok (.iload_n 1, 1) := by decide +kernel
theorem d_jdk_52_method_15_1 : decode jdk_52_method_15_code 1 = .ok (.aload_n 0, 1) := by decide +kernel
theorem d_jdk_52_method_15_2 : decode jdk_52_method_15_code 2 = .ok (.arraylength, 1) := by decide +kernel
theorem d_jdk_52_method_15_3 : decode jdk_52_method_15_code 3 = .ok (.isub, 1) := by decide +kernel
theorem d_jdk_52_method_15_4 : decode jdk_52_method_15_code 4 = .ok (.bipush 31, 2) := by decide +kernel
theorem d_jdk_52_method_15_6 : decode jdk_52_method_15_code 6 = .ok (.iushr, 1) := by decide +kernel
theorem d_jdk_52_method_15_7 : decode jdk_52_method_15_code 7 = .ok (.i2b, 1) := by decide +kernel
theorem d_jdk_52_method_15_8 : decode jdk_52_method_15_code 8 = .ok (.ireturn, 1) := by decide +kernel
theorem opl_rm_cfal : plainFor (⟨"java/lang/StringUTF16", "coderFromArrayLen", "([BI)B"⟩ : MethodName) = true := plainFor_of_name (by first | (simp [plainName, overriddenIn]; done) | decide +kernel)
set_option maxRecDepth 65536 in
set_option maxHeartbeats 40000000 in
theorem rm_cfal (l : Launch) (Z : State) (a0 : Array Value) (hw : ∀ d ∈ tables_1, d.before a0 Z = true) (ws : List Jvm.Cond) (d : Addr) (k : ClassId) (z : Int32) (us : List Value) (h0 : Heap) (V : Arv Z h0 d k .byte z us (.int (0 : Int32))) :
    Con l Z (⟨"java/lang/StringUTF16", "coderFromArrayLen", "([BI)B"⟩ : MethodName) jdk_52_method_15_code 2 (some .byte) ws ({ frames := 0, cells := 0, slots := 0, locals := 0 } : Room) #[(.ref d), (.int z)] h0 (fun v h L => v = some (.int (0 : Int32)) ∧ L = [] ∧ h = h0) := by
  refine Con.intro opl_rm_cfal ?_
  intro p e s m below meth c s₁ hx hby hml hown hret hlk hZ hnm X0 e0
  refine OGo.cast (g' := (mkF m 0 #[.val (.ref d), .val (.int z)] [])) (by first | (simp [entryFrame, mkF, argsToLocals, Value.category]; done) | rfl) ?_
  show OGo p e below _ s₁ (mkF m 0 #[.val (.ref d), .val (.int z)] [])
  refine OGo.step (fun _ k => XS.iloadN X0.here hx rfl (hb hby d_jdk_52_method_15_0) rfl k) ?_
  show OGo p e below _ s₁ (mkF m 1 #[.val (.ref d), .val (.int z)] [(.int z)])
  refine OGo.step (fun _ k => XS.aloadN X0.here hx rfl (hb hby d_jdk_52_method_15_1) rfl rfl k) ?_
  show OGo p e below _ s₁ (mkF m 2 #[.val (.ref d), .val (.int z)] [(.ref d), (.int z)])
  refine OGo.step (fun _ k => alenV X0 hx hZ e0 V (g := (mkF m 2 #[.val (.ref d), .val (.int z)] [(.ref d), (.int z)])) rfl rfl (hb hby d_jdk_52_method_15_2) _ k) ?_
  show OGo p e below _ s₁ (mkF m 3 #[.val (.ref d), .val (.int z)] [(.int z), (.int z)])
  refine OGo.step (fun _ k => XS.isub X0.here hx rfl (hb hby d_jdk_52_method_15_3) rfl k) ?_
  show OGo p e below _ s₁ (mkF m 4 #[.val (.ref d), .val (.int z)] [(.int (z - z))])
  refine OGo.step (fun _ k => XS.bipush X0.here hx rfl (hb hby d_jdk_52_method_15_4) k) ?_
  show OGo p e below _ s₁ (mkF m 6 #[.val (.ref d), .val (.int z)] [(.int (31 : Int32)), (.int (z - z))])
  refine OGo.step (fun _ k => XS.iushr X0.here hx rfl (hb hby d_jdk_52_method_15_6) rfl k) ?_
  show OGo p e below _ s₁ (mkF m 7 #[.val (.ref d), .val (.int z)] [(.int (((z - z).toUInt32 >>> ((31 : Int32) &&& 31).toUInt32).toInt32))])
  refine OGo.step (fun _ k => XS.i2b X0.here hx rfl (hb hby d_jdk_52_method_15_7) rfl k) ?_
  show OGo p e below _ s₁ (mkF m 8 #[.val (.ref d), .val (.int z)] [(.int ((((z - z).toUInt32 >>> ((31 : Int32) &&& 31).toUInt32).toInt32).toInt8.toInt32))])
  rw [own_cfal]
  show OGo p e below _ s₁ (mkF m 8 #[.val (.ref d), .val (.int z)] [(.int (0 : Int32))])
  exact OGo.ret X0 hx (t := .byte) hret hlk rfl (Or.inl ⟨rfl, by simp, _, rfl⟩) (hb hby d_jdk_52_method_15_8) (by decide) (by decide) ⟨rfl, rfl, e0⟩
theorem d_jdk_42_method_149_0 : decode jdk_42_method_149_code 0 = .ok (.aload_n 0, 1) := by decide +kernel
theorem d_jdk_42_method_149_1 : decode jdk_42_method_149_code 1 = .ok (.invokespecial 1, 3) := by decide +kernel
theorem d_jdk_42_method_149_4 : decode jdk_42_method_149_code 4 = .ok (.iload_n 3, 1) := by decide +kernel
theorem d_jdk_42_method_149_5 : decode jdk_42_method_149_code 5 = .ok (.ifCond .ne 22, 3) := by decide +kernel
theorem d_jdk_42_method_149_27 : decode jdk_42_method_149_code 27 = .ok (.getstatic 38, 3) := by decide +kernel
theorem d_jdk_42_method_149_30 : decode jdk_42_method_149_code 30 = .ok (.ifCond .eq 28, 3) := by decide +kernel
theorem d_jdk_42_method_149_33 : decode jdk_42_method_149_code 33 = .ok (.aload_n 1, 1) := by decide +kernel
theorem d_jdk_42_method_149_34 : decode jdk_42_method_149_code 34 = .ok (.iload_n 2, 1) := by decide +kernel
theorem d_jdk_42_method_149_35 : decode jdk_42_method_149_code 35 = .ok (.iload_n 3, 1) := by decide +kernel
theorem opd_17 : parseMethodDescriptor "([CII)[B" = some ⟨[(.array .char), .int, .int], some (.array .byte)⟩ := by decide +kernel
theorem d_jdk_42_method_149_36 : decode jdk_42_method_149_code 36 = .ok (.invokestatic 177, 3) := by decide +kernel
theorem d_jdk_42_method_149_39 : decode jdk_42_method_149_code 39 = .ok (.astore 5, 2) := by decide +kernel
theorem d_jdk_42_method_149_41 : decode jdk_42_method_149_code 41 = .ok (.aload_n 0, 1) := by decide +kernel
theorem d_jdk_42_method_149_42 : decode jdk_42_method_149_code 42 = .ok (.aload 5, 2) := by decide +kernel
theorem d_jdk_42_method_149_44 : decode jdk_42_method_149_code 44 = .ok (.iload_n 3, 1) := by decide +kernel
theorem opd_18 : parseMethodDescriptor "([BI)B" = some ⟨[(.array .byte), .int], some .byte⟩ := by decide +kernel
theorem d_jdk_42_method_149_45 : decode jdk_42_method_149_code 45 = .ok (.invokestatic 47, 3) := by decide +kernel
theorem d_jdk_42_method_149_48 : decode jdk_42_method_149_code 48 = .ok (.putfield 15, 3) := by decide +kernel
theorem d_jdk_42_method_149_51 : decode jdk_42_method_149_code 51 = .ok (.aload_n 0, 1) := by decide +kernel
theorem d_jdk_42_method_149_52 : decode jdk_42_method_149_code 52 = .ok (.aload 5, 2) := by decide +kernel
theorem d_jdk_42_method_149_54 : decode jdk_42_method_149_code 54 = .ok (.putfield 9, 3) := by decide +kernel
theorem d_jdk_42_method_149_57 : decode jdk_42_method_149_code 57 = .ok (.return_, 1) := by decide +kernel
theorem opl_rm_new4 : plainFor (⟨"java/lang/String", "<init>", "([CIILjava/lang/Void;)V"⟩ : MethodName) = true := plainFor_of_name (by first | (simp [plainName, overriddenIn]; done) | decide +kernel)
set_option maxRecDepth 65536 in
set_option maxHeartbeats 40000000 in
theorem rm_new4 (l : Launch) (Z : State) (a0 : Array Value) (hw : ∀ d ∈ tables_1, d.before a0 Z = true) (ws : List Jvm.Cond) (a : Addr) (ca : Addr) (kc : ClassId) (cs : List Int32) (zc : Int32) (wf : Value) (n0 : Nat) (h0 : Heap) (SS : own_SS Z zc wf) (O : Old Z n0 h0) (Vc : Arv Z h0 ca kc .char (Int32.ofNat cs.length) (cs.map Value.int) (.int (0 : Int32))) (hp : own_ok8 cs) (hbl : cs.length < 2147483648) (hcap : cs.length ≤ 2) (E : Exa Z h0 a "java/lang/String") (Fc : Fld Z h0 a "java/lang/String" "coder" "B" (.int (0 : Int32))) (Fv : Fld Z h0 a "java/lang/String" "value" "[B" .null) (g_a : n0 ≤ a) (hne : ¬ (Int32.ofNat cs.length) = 0) (nca : ca ≠ a) :
    Con l Z (⟨"java/lang/String", "<init>", "([CIILjava/lang/Void;)V"⟩ : MethodName) jdk_42_method_149_code 6 none ws ({ frames := 2, cells := 1, slots := 2, locals := 35 } : Room) #[(.ref a), (.ref ca), (.int (0 : Int32)), (.int (Int32.ofNat cs.length)), .null] h0 (fun v h L => v = none ∧ Fr n0 L ∧ Keep h0 h [a] ∧ ∃ r k', h0.size ≤ r ∧ STI Z h a r k' (own_b8 cs)) := by
  refine Con.intro opl_rm_new4 ?_
  intro p e s m below meth c s₁ hx hby hml hown hret hlk hZ hnm X0 e0
  have SS' := SS
  obtain ⟨hzc, SC, hwf, SF⟩ := SS
  have Z0 : n0 ≤ h0.size := O.1 ▸ O.2.1
  have N0 := Fr.nil n0
  refine OGo.cast (g' := (mkF m 0 #[.val (.ref a), .val (.ref ca), .val (.int (0 : Int32)), .val (.int (Int32.ofNat cs.length)), .val .null, .unset] [])) (by first | (simp [entryFrame, mkF, argsToLocals, Value.category]; done) | rfl) ?_
  show OGo p e below _ s₁ (mkF m 0 #[.val (.ref a), .val (.ref ca), .val (.int (0 : Int32)), .val (.int (Int32.ofNat cs.length)), .val .null, .unset] [])
  refine OGo.step (fun _ k => XS.aloadN X0.here hx rfl (hb hby d_jdk_42_method_149_0) rfl rfl k) ?_
  show OGo p e below _ s₁ (mkF m 1 #[.val (.ref a), .val (.ref ca), .val (.int (0 : Int32)), .val (.int (Int32.ofNat cs.length)), .val .null, .unset] [(.ref a)])
  obtain ⟨T72, X72, e72, st72⟩ := initO X0 hx hZ hown (hw _ (List.mem_of_getElem? (i := 15) rfl)) (hw _ (List.mem_of_getElem? (i := 16) rfl)) (hw _ (List.mem_of_getElem? (i := 17) rfl)) e0 (g := (mkF m 1 #[.val (.ref a), .val (.ref ca), .val (.int (0 : Int32)), .val (.int (Int32.ofNat cs.length)), .val .null, .unset] [(.ref a)])) rfl (by rw [hml]; rfl) rfl (hb hby d_jdk_42_method_149_1) (by decide) (W := 0) (by show 2 * 0 + _ ≤ _; exact Nat.le_of_eq rfl) (by decide)
  refine OGo.step st72 ?_
  show OGo p e below _ T72 (mkF m 4 #[.val (.ref a), .val (.ref ca), .val (.int (0 : Int32)), .val (.int (Int32.ofNat cs.length)), .val .null, .unset] [])
  refine OGo.step (fun _ k => XS.iloadN X72.here hx rfl (hb hby d_jdk_42_method_149_4) rfl k) ?_
  show OGo p e below _ T72 (mkF m 5 #[.val (.ref a), .val (.ref ca), .val (.int (0 : Int32)), .val (.int (Int32.ofNat cs.length)), .val .null, .unset] [(.int (Int32.ofNat cs.length))])
  refine OGo.step (fun _ k => XS.ifYes X72.here hx rfl (pc0 := 5) (pc' := 27) rfl (hb hby d_jdk_42_method_149_5) rfl ((if0 _ _).trans (feq hne).2) (by decide) (by decide) k) ?_
  show OGo p e below _ T72 (mkF m 27 #[.val (.ref a), .val (.ref ca), .val (.int (0 : Int32)), .val (.int (Int32.ofNat cs.length)), .val .null, .unset] [])
  obtain ⟨T73, X73, e73, st73⟩ := getS2 X72 hx hZ hown (host := "") (Or.inl (hw _ (List.mem_of_getElem? (i := 87) rfl))) Via.refl e72 (SC.ext O.2) (g := (mkF m 27 #[.val (.ref a), .val (.ref ca), .val (.int (0 : Int32)), .val (.int (Int32.ofNat cs.length)), .val .null, .unset] [])) rfl (hb hby d_jdk_42_method_149_27)
  refine OGo.step st73 ?_
  show OGo p e below _ T73 (mkF m 30 #[.val (.ref a), .val (.ref ca), .val (.int (0 : Int32)), .val (.int (Int32.ofNat cs.length)), .val .null, .unset] [(.int zc)])
  refine OGo.step (fun _ k => XS.ifNo X73.here hx rfl (hb hby d_jdk_42_method_149_30) rfl ((if0 _ _).trans (feq hzc).1) k) ?_
  show OGo p e below _ T73 (mkF m 33 #[.val (.ref a), .val (.ref ca), .val (.int (0 : Int32)), .val (.int (Int32.ofNat cs.length)), .val .null, .unset] [])
  refine OGo.step (fun _ k => XS.aloadN X73.here hx rfl (hb hby d_jdk_42_method_149_33) rfl rfl k) ?_
  show OGo p e below _ T73 (mkF m 34 #[.val (.ref a), .val (.ref ca), .val (.int (0 : Int32)), .val (.int (Int32.ofNat cs.length)), .val .null, .unset] [(.ref ca)])
  refine OGo.step (fun _ k => XS.iloadN X73.here hx rfl (hb hby d_jdk_42_method_149_34) rfl k) ?_
  show OGo p e below _ T73 (mkF m 35 #[.val (.ref a), .val (.ref ca), .val (.int (0 : Int32)), .val (.int (Int32.ofNat cs.length)), .val .null, .unset] [(.int (0 : Int32)), (.ref ca)])
  refine OGo.step (fun _ k => XS.iloadN X73.here hx rfl (hb hby d_jdk_42_method_149_35) rfl k) ?_
  show OGo p e below _ T73 (mkF m 36 #[.val (.ref a), .val (.ref ca), .val (.int (0 : Int32)), .val (.int (Int32.ofNat cs.length)), .val .null, .unset] [(.int (Int32.ofNat cs.length)), (.int (0 : Int32)), (.ref ca)])
  obtain ⟨v74, T74, L74, X74, hQ74, st74⟩ := scall X73 hx hZ hown (hw _ (List.mem_of_getElem? (i := 189) rfl)) (hw _ (List.mem_of_getElem? (i := 190) rfl)) (hw _ (List.mem_of_getElem? (i := 191) rfl)) (hw _ (List.mem_of_getElem? (i := 192) rfl)) (by decide) (W := 0) (rm_cmp3 l Z a0 hw [] ca kc cs zc wf n0 h0 SS' O Vc hp hbl hcap) e73 (by decide) (by decide) (by decide) (by decide) (g := (mkF m 36 #[.val (.ref a), .val (.ref ca), .val (.int (0 : Int32)), .val (.int (Int32.ofNat cs.length)), .val .null, .unset] [(.int (Int32.ofNat cs.length)), (.int (0 : Int32)), (.ref ca)])) rfl (by rw [hml]; rfl) (argsL := [(.ref ca), (.int (0 : Int32)), (.int (Int32.ofNat cs.length))]) (rest := []) opd_17 rfl rfl rfl (by show 2 * 0 + _ ≤ _; exact Nat.le_of_eq rfl) (hb hby d_jdk_42_method_149_36)
  obtain ⟨r74, kr74, rfl, sr74, N74, K74, V74⟩ := hQ74
  have NN74 := Fr.app N0 N74
  have KK74 : Keep h0 T74.heap [a] := (Keep.refl h0 [a]).trans K74 all0
  have sz_r74 : h0.size ≤ r74 := Nat.le_trans (Keep.refl h0 [a]).1 sr74
  refine OGo.step st74 ?_
  show OGo p e below _ T74 (mkF m 39 #[.val (.ref a), .val (.ref ca), .val (.int (0 : Int32)), .val (.int (Int32.ofNat cs.length)), .val .null, .unset] [(.ref r74)])
  refine OGo.step (fun _ k => XS.astore X74.here hx rfl (hb hby d_jdk_42_method_149_39) rfl rfl (l' := #[.val (.ref a), .val (.ref ca), .val (.int (0 : Int32)), .val (.int (Int32.ofNat cs.length)), .val .null, .val (.ref r74)]) rfl k) ?_
  show OGo p e below _ T74 (mkF m 41 #[.val (.ref a), .val (.ref ca), .val (.int (0 : Int32)), .val (.int (Int32.ofNat cs.length)), .val .null, .val (.ref r74)] [])
  refine OGo.step (fun _ k => XS.aloadN X74.here hx rfl (hb hby d_jdk_42_method_149_41) rfl rfl k) ?_
  show OGo p e below _ T74 (mkF m 42 #[.val (.ref a), .val (.ref ca), .val (.int (0 : Int32)), .val (.int (Int32.ofNat cs.length)), .val .null, .val (.ref r74)] [(.ref a)])
  refine OGo.step (fun _ k => XS.aload X74.here hx rfl (hb hby d_jdk_42_method_149_42) rfl rfl k) ?_
  show OGo p e below _ T74 (mkF m 44 #[.val (.ref a), .val (.ref ca), .val (.int (0 : Int32)), .val (.int (Int32.ofNat cs.length)), .val .null, .val (.ref r74)] [(.ref r74), (.ref a)])
  refine OGo.step (fun _ k => XS.iloadN X74.here hx rfl (hb hby d_jdk_42_method_149_44) rfl k) ?_
  show OGo p e below _ T74 (mkF m 45 #[.val (.ref a), .val (.ref ca), .val (.int (0 : Int32)), .val (.int (Int32.ofNat cs.length)), .val .null, .val (.ref r74)] [(.int (Int32.ofNat cs.length)), (.ref r74), (.ref a)])
  obtain ⟨v75, T75, L75, X75, hQ75, st75⟩ := scall X74 hx hZ hown (hw _ (List.mem_of_getElem? (i := 196) rfl)) (hw _ (List.mem_of_getElem? (i := 197) rfl)) (hw _ (List.mem_of_getElem? (i := 191) rfl)) (hw _ (List.mem_of_getElem? (i := 198) rfl)) (by decide) (W := 1) (rm_cfal l Z a0 hw [] r74 kr74 (Int32.ofNat cs.length) (own_b8 cs) T74.heap V74) rfl (by decide) (by decide) (by decide) (by decide) (g := (mkF m 45 #[.val (.ref a), .val (.ref ca), .val (.int (0 : Int32)), .val (.int (Int32.ofNat cs.length)), .val .null, .val (.ref r74)] [(.int (Int32.ofNat cs.length)), (.ref r74), (.ref a)])) rfl (by rw [hml]; rfl) (argsL := [(.ref r74), (.int (Int32.ofNat cs.length))]) (rest := [(.ref a)]) opd_18 rfl rfl rfl (by show 2 * 0 + _ ≤ _; exact Nat.le_of_eq rfl) (hb hby d_jdk_42_method_149_45)
  obtain ⟨rfl, rfl, e75⟩ := hQ75
  rw [List.append_nil] at X75
  refine OGo.step st75 ?_
  show OGo p e below _ T75 (mkF m 48 #[.val (.ref a), .val (.ref ca), .val (.int (0 : Int32)), .val (.int (Int32.ofNat cs.length)), .val .null, .val (.ref r74)] [(.int (0 : Int32)), (.ref a)])
  obtain ⟨T76, h76, X76, e76, W76, st76⟩ := putFN X75 hx hZ hown (hw _ (List.mem_of_getElem? (i := 25) rfl)) Via.refl e75 (Fc.keep K74 nin0) (E.keep K74) (Or.inr ⟨(hw _ (List.mem_of_getElem? (i := 21) rfl)), rfl, hnm⟩) (hw _ (List.mem_of_getElem? (i := 5) rfl)) (ty := .byte) (v' := (.int (0 : Int32))) (by decide) rfl rfl (g := (mkF m 48 #[.val (.ref a), .val (.ref ca), .val (.int (0 : Int32)), .val (.int (Int32.ofNat cs.length)), .val .null, .val (.ref r74)] [(.int (0 : Int32)), (.ref a)])) rfl rfl (hb hby d_jdk_42_method_149_48)
  have Fw76 := (Fc.keep K74 nin0).same W76
  have N76 := Fr.snoc X76 NN74 g_a
  have KK76 : Keep h0 h76 [a] := KK74.wr W76 (Or.inl (List.mem_of_getElem? (i := 0) rfl))
  refine OGo.step st76 ?_
  show OGo p e below _ T76 (mkF m 51 #[.val (.ref a), .val (.ref ca), .val (.int (0 : Int32)), .val (.int (Int32.ofNat cs.length)), .val .null, .val (.ref r74)] [])
  refine OGo.step (fun _ k => XS.aloadN X76.here hx rfl (hb hby d_jdk_42_method_149_51) rfl rfl k) ?_
  show OGo p e below _ T76 (mkF m 52 #[.val (.ref a), .val (.ref ca), .val (.int (0 : Int32)), .val (.int (Int32.ofNat cs.length)), .val .null, .val (.ref r74)] [(.ref a)])
  refine OGo.step (fun _ k => XS.aload X76.here hx rfl (hb hby d_jdk_42_method_149_52) rfl rfl k) ?_
  show OGo p e below _ T76 (mkF m 54 #[.val (.ref a), .val (.ref ca), .val (.int (0 : Int32)), .val (.int (Int32.ofNat cs.length)), .val .null, .val (.ref r74)] [(.ref r74), (.ref a)])
  have q78 := ((Fv.keep K74 nin0).other W76 (Or.inr (slot_ne (Or.inr (hw _ (List.mem_of_getElem? (i := 20) rfl))) (Or.inr (hw _ (List.mem_of_getElem? (i := 21) rfl))) (by decide) (t := (.array .byte)) (t' := .byte) (by decide) (by decide))))
  obtain ⟨T77, h77, X77, e77, W77, st77⟩ := putF X76 hx hZ hown (host := "") (Or.inl (hw _ (List.mem_of_getElem? (i := 24) rfl))) Via.refl e76 q78 ((E.keep K74).wr W76) (Or.inr ⟨(hw _ (List.mem_of_getElem? (i := 20) rfl)), rfl, hnm⟩) (hw _ (List.mem_of_getElem? (i := 5) rfl)) (ty := (.array .byte)) (by decide) rfl rfl (g := (mkF m 54 #[.val (.ref a), .val (.ref ca), .val (.int (0 : Int32)), .val (.int (Int32.ofNat cs.length)), .val .null, .val (.ref r74)] [(.ref r74), (.ref a)])) rfl rfl (hb hby d_jdk_42_method_149_54)
  have Fw77 := q78.same W77
  have N77 := Fr.snoc X77 N76 g_a
  have KK77 : Keep h0 h77 [a] := KK76.wr W77 (Or.inl (List.mem_of_getElem? (i := 0) rfl))
  refine OGo.step st77 ?_
  show OGo p e below _ T77 (mkF m 57 #[.val (.ref a), .val (.ref ca), .val (.int (0 : Int32)), .val (.int (Int32.ofNat cs.length)), .val .null, .val (.ref r74)] [])
  have q79 := (Fw76.other W77 (Or.inr (slot_ne (Or.inr (hw _ (List.mem_of_getElem? (i := 21) rfl))) (Or.inr (hw _ (List.mem_of_getElem? (i := 20) rfl))) (by decide) (t := .byte) (t' := (.array .byte)) (by decide) (by decide))))
  have q80 := ((V74.other W76 (Ne.symm (Nat.ne_of_lt (Nat.lt_of_lt_of_le E.lt sr74)))).other W77 (Ne.symm (Nat.ne_of_lt (Nat.lt_of_lt_of_le E.lt sr74))))
  exact OGo.retV X77 hx hret hlk (hb hby d_jdk_42_method_149_57) (by decide) (by decide) (by rw [e77]; exact ⟨rfl, N77, KK77, r74, _, sz_r74, ⟨(((E.keep K74).wr W76).wr W77), q79, Fw77, by rw [own_b8_len]; exact q80⟩⟩)
theorem d_jdk_42_method_3_0 : decode jdk_42_method_3_code 0 = .ok (.aload_n 0, 1) := by decide +kernel
theorem d_jdk_42_method_3_1 : decode jdk_42_method_3_code 1 = .ok (.aload_n 1, 1) := by decide +kernel
theorem d_jdk_42_method_3_2 : decode jdk_42_method_3_code 2 = .ok (.iconst 0, 1) := by decide +kernel
theorem d_jdk_42_method_3_3 : decode jdk_42_method_3_code 3 = .ok (.aload_n 1, 1) := by decide +kernel
theorem d_jdk_42_method_3_4 : decode jdk_42_method_3_code 4 = .ok (.arraylength, 1) := by decide +kernel
theorem d_jdk_42_method_3_5 : decode jdk_42_method_3_code 5 = .ok (.aconst_null, 1) := by decide +kernel
theorem opd_19 : parseMethodDescriptor "([CIILjava/lang/Void;)V" = some ⟨[(.array .char), .int, .int, (.object "java/lang/Void")], none⟩ := by decide +kernel
theorem d_jdk_42_method_3_6 : decode jdk_42_method_3_code 6 = .ok (.invokespecial 27, 3) := by decide +kernel
theorem d_jdk_42_method_3_9 : decode jdk_42_method_3_code 9 = .ok (.return_, 1) := by decide +kernel
theorem opl_rm_new1 : plainFor (⟨"java/lang/String", "<init>", "([C)V"⟩ : MethodName) = true := plainFor_of_name (by first | (simp [plainName, overriddenIn]; done) | decide +kernel)
set_option maxRecDepth 65536 in
set_option maxHeartbeats 40000000 in
theorem rm_new1 (l : Launch) (Z : State) (a0 : Array Value) (hw : ∀ d ∈ tables_1, d.before a0 Z = true) (ws : List Jvm.Cond) (a : Addr) (ca : Addr) (kc : ClassId) (cs : List Int32) (zc : Int32) (wf : Value) (n0 : Nat) (h0 : Heap) (SS : own_SS Z zc wf) (O : Old Z n0 h0) (Vc : Arv Z h0 ca kc .char (Int32.ofNat cs.length) (cs.map Value.int) (.int (0 : Int32))) (hp : own_ok8 cs) (hbl : cs.length < 2147483648) (hcap : cs.length ≤ 2) (E : Exa Z h0 a "java/lang/String") (Fc : Fld Z h0 a "java/lang/String" "coder" "B" (.int (0 : Int32))) (Fv : Fld Z h0 a "java/lang/String" "value" "[B" .null) (g_a : n0 ≤ a) (hne : ¬ (Int32.ofNat cs.length) = 0) (nca : ca ≠ a) :
    Con l Z (⟨"java/lang/String", "<init>", "([C)V"⟩ : MethodName) jdk_42_method_3_code 2 none ws ({ frames := 3, cells := 1, slots := 2, locals := 52 } : Room) #[(.ref a), (.ref ca)] h0 (fun v h L => v = none ∧ Fr n0 L ∧ Keep h0 h [a] ∧ ∃ r k', h0.size ≤ r ∧ STI Z h a r k' (own_b8 cs)) := by
  refine Con.intro opl_rm_new1 ?_
  intro p e s m below meth c s₁ hx hby hml hown hret hlk hZ hnm X0 e0
  have SS' := SS
  obtain ⟨hzc, SC, hwf, SF⟩ := SS
  have Z0 : n0 ≤ h0.size := O.1 ▸ O.2.1
  have N0 := Fr.nil n0
  refine OGo.cast (g' := (mkF m 0 #[.val (.ref a), .val (.ref ca)] [])) (by first | (simp [entryFrame, mkF, argsToLocals, Value.category]; done) | rfl) ?_
  show OGo p e below _ s₁ (mkF m 0 #[.val (.ref a), .val (.ref ca)] [])
  refine OGo.step (fun _ k => XS.aloadN X0.here hx rfl (hb hby d_jdk_42_method_3_0) rfl rfl k) ?_
  show OGo p e below _ s₁ (mkF m 1 #[.val (.ref a), .val (.ref ca)] [(.ref a)])
  refine OGo.step (fun _ k => XS.aloadN X0.here hx rfl (hb hby d_jdk_42_method_3_1) rfl rfl k) ?_
  show OGo p e below _ s₁ (mkF m 2 #[.val (.ref a), .val (.ref ca)] [(.ref ca), (.ref a)])
  refine OGo.step (fun _ k => XS.iconst X0.here hx rfl (hb hby d_jdk_42_method_3_2) k) ?_
  show OGo p e below _ s₁ (mkF m 3 #[.val (.ref a), .val (.ref ca)] [(.int (0 : Int32)), (.ref ca), (.ref a)])
  refine OGo.step (fun _ k => XS.aloadN X0.here hx rfl (hb hby d_jdk_42_method_3_3) rfl rfl k) ?_
  show OGo p e below _ s₁ (mkF m 4 #[.val (.ref a), .val (.ref ca)] [(.ref ca), (.int (0 : Int32)), (.ref ca), (.ref a)])
  refine OGo.step (fun _ k => alenV X0 hx hZ e0 Vc (g := (mkF m 4 #[.val (.ref a), .val (.ref ca)] [(.ref ca), (.int (0 : Int32)), (.ref ca), (.ref a)])) rfl rfl (hb hby d_jdk_42_method_3_4) _ k) ?_
  show OGo p e below _ s₁ (mkF m 5 #[.val (.ref a), .val (.ref ca)] [(.int (Int32.ofNat cs.length)), (.int (0 : Int32)), (.ref ca), (.ref a)])
  refine OGo.step (fun _ k => XS.aconstNull X0.here hx rfl (hb hby d_jdk_42_method_3_5) k) ?_
  show OGo p e below _ s₁ (mkF m 6 #[.val (.ref a), .val (.ref ca)] [.null, (.int (Int32.ofNat cs.length)), (.int (0 : Int32)), (.ref ca), (.ref a)])
  obtain ⟨v81, T81, L81, X81, hQ81, st81⟩ := icall X0 hx hZ rfl hown (hw _ (List.mem_of_getElem? (i := 11) rfl)) (hw _ (List.mem_of_getElem? (i := 12) rfl)) (hw _ (List.mem_of_getElem? (i := 6) rfl)) (hw _ (List.mem_of_getElem? (i := 14) rfl)) (by decide) (W := 0) (rm_new4 l Z a0 hw [] a ca kc cs zc wf n0 h0 SS' O Vc hp hbl hcap E Fc Fv g_a hne nca) e0 (by decide) (by decide) (by decide) (by decide) (g := (mkF m 6 #[.val (.ref a), .val (.ref ca)] [.null, (.int (Int32.ofNat cs.length)), (.int (0 : Int32)), (.ref ca), (.ref a)])) rfl (by rw [hml]; rfl) (a := a) (argsL := [(.ref ca), (.int (0 : Int32)), (.int (Int32.ofNat cs.length)), .null]) (rest := []) opd_19 rfl rfl rfl (by show 2 * 0 + _ ≤ _; exact Nat.le_of_eq rfl) (hb hby d_jdk_42_method_3_6)
  obtain ⟨rfl, N81, K81, r81, kr81, sr81, I81⟩ := hQ81
  have NN81 := Fr.app N0 N81
  have KK81 : Keep h0 T81.heap [a] := (Keep.refl h0 [a]).trans K81 (allS (Or.inl (List.mem_of_getElem? (i := 0) rfl)) all0)
  refine OGo.step st81 ?_
  show OGo p e below _ T81 (mkF m 9 #[.val (.ref a), .val (.ref ca)] [])
  exact OGo.retV X81 hx hret hlk (hb hby d_jdk_42_method_3_9) (by decide) (by decide) ⟨rfl, NN81, KK81, r81, _, sr81, I81⟩
theorem d_jdk_43_method_3_0 : decode jdk_43_method_3_code 0 = .ok (.iload_n 0, 1) := by decide +kernel
theorem d_jdk_43_method_3_1 : decode jdk_43_method_3_code 1 = .ok (.sipush 255, 3) := by decide +kernel
theorem d_jdk_43_method_3_4 : decode jdk_43_method_3_code 4 = .ok (.if_icmp .gt 7, 3) := by decide +kernel
theorem d_jdk_43_method_3_7 : decode jdk_43_method_3_code 7 = .ok (.iconst 1, 1) := by decide +kernel
theorem d_jdk_43_method_3_8 : decode jdk_43_method_3_code 8 = .ok (.goto 4, 3) := by decide +kernel
theorem d_jdk_43_method_3_12 : decode jdk_43_method_3_code 12 = .ok (.ireturn, 1) := by decide +kernel
theorem opl_rm_can : plainFor (⟨"java/lang/StringLatin1", "canEncode", "(C)Z"⟩ : MethodName) = true := plainFor_of_name (by first | (simp [plainName, overriddenIn]; done) | decide +kernel)
set_option maxRecDepth 65536 in
set_option maxHeartbeats 40000000 in
theorem rm_can (l : Launch) (Z : State) (a0 : Array Value) (hw : ∀ d ∈ tables_1, d.before a0 Z = true) (ws : List Jvm.Cond) (x : Int32) (h0 : Heap) (hx255 : ¬ (255 : Int32) < x) :
    Con l Z (⟨"java/lang/StringLatin1", "canEncode", "(C)Z"⟩ : MethodName) jdk_43_method_3_code 1 (some .boolean) ws ({ frames := 0, cells := 0, slots := 0, locals := 0 } : Room) #[(.int x)] h0 (fun v h L => v = some (.int (1 : Int32)) ∧ L = [] ∧ h = h0) := by
  refine Con.intro opl_rm_can ?_
  intro p e s m below meth c s₁ hx hby hml hown hret hlk hZ hnm X0 e0
  refine OGo.cast (g' := (mkF m 0 #[.val (.int x)] [])) (by first | (simp [entryFrame, mkF, argsToLocals, Value.category]; done) | rfl) ?_
  show OGo p e below _ s₁ (mkF m 0 #[.val (.int x)] [])
  refine OGo.step (fun _ k => XS.iloadN X0.here hx rfl (hb hby d_jdk_43_method_3_0) rfl k) ?_
  show OGo p e below _ s₁ (mkF m 1 #[.val (.int x)] [(.int x)])
  refine OGo.step (fun _ k => XS.sipush X0.here hx rfl (hb hby d_jdk_43_method_3_1) k) ?_
  show OGo p e below _ s₁ (mkF m 4 #[.val (.int x)] [(.int (255 : Int32)), (.int x)])
  refine OGo.step (fun _ k => XS.icmpNo X0.here hx rfl (hb hby d_jdk_43_method_3_4) rfl (flt hx255).2.2.1 k) ?_
  show OGo p e below _ s₁ (mkF m 7 #[.val (.int x)] [])
  refine OGo.step (fun _ k => XS.iconst X0.here hx rfl (hb hby d_jdk_43_method_3_7) k) ?_
  show OGo p e below _ s₁ (mkF m 8 #[.val (.int x)] [(.int (1 : Int32))])
  refine OGo.step (fun _ k => XS.goto X0.here hx rfl (pc0 := 8) (pc' := 12) rfl (hb hby d_jdk_43_method_3_8) (by decide) (by decide) k) ?_
  show OGo p e below _ s₁ (mkF m 12 #[.val (.int x)] [(.int (1 : Int32))])
  exact OGo.ret X0 hx (t := .boolean) hret hlk rfl (Or.inl ⟨rfl, by simp, _, rfl⟩) (hb hby d_jdk_43_method_3_12) (by decide) (by decide) ⟨rfl, rfl, e0⟩
theorem d_jdk_43_method_46_0 : decode jdk_43_method_46_code 0 = .ok (.iconst 1, 1) := by decide +kernel
theorem d_jdk_43_method_46_1 : decode jdk_43_method_46_code 1 = .ok (.newarray .byte, 2) := by decide +kernel
theorem d_jdk_43_method_46_3 : decode jdk_43_method_46_code 3 = .ok (.dup, 1) := by decide +kernel
theorem d_jdk_43_method_46_4 : decode jdk_43_method_46_code 4 = .ok (.iconst 0, 1) := by decide +kernel
theorem d_jdk_43_method_46_5 : decode jdk_43_method_46_code 5 = .ok (.iload_n 0, 1) := by decide +kernel
theorem d_jdk_43_method_46_6 : decode jdk_43_method_46_code 6 = .ok (.i2b, 1) := by decide +kernel
theorem d_jdk_43_method_46_7 : decode jdk_43_method_46_code 7 = .ok (.bastore, 1) := by decide +kernel
theorem d_jdk_43_method_46_8 : decode jdk_43_method_46_code 8 = .ok (.areturn, 1) := by decide +kernel
theorem opl_rm_toB : plainFor (⟨"java/lang/StringLatin1", "toBytes", "(C)[B"⟩ : MethodName) = true := plainFor_of_name (by first | (simp [plainName, overriddenIn]; done) | decide +kernel)
set_option maxRecDepth 65536 in
set_option maxHeartbeats 40000000 in
theorem rm_toB (l : Launch) (Z : State) (a0 : Array Value) (hw : ∀ d ∈ tables_1, d.before a0 Z = true) (ws : List Jvm.Cond) (x : Int32) (zc : Int32) (wf : Value) (n0 : Nat) (h0 : Heap) (SS : own_SS Z zc wf) (O : Old Z n0 h0) :
    Con l Z (⟨"java/lang/StringLatin1", "toBytes", "(C)[B"⟩ : MethodName) jdk_43_method_46_code 1 (some (.array .byte)) ws ({ frames := 0, cells := 1, slots := 1, locals := 0 } : Room) #[(.int x)] h0 (fun v h L => ∃ r k', v = some (.ref r) ∧ h0.size ≤ r ∧ Fr n0 L ∧ Keep h0 h [] ∧ Arv Z h r k' .byte (1 : Int32) (own_b8 [x]) (.int (0 : Int32))) := by
  refine Con.intro opl_rm_toB ?_
  intro p e s m below meth c s₁ hx hby hml hown hret hlk hZ hnm X0 e0
  obtain ⟨hzc, SC, hwf, SF⟩ := SS
  have Z0 : n0 ≤ h0.size := O.1 ▸ O.2.1
  have N0 := Fr.nil n0
  refine OGo.cast (g' := (mkF m 0 #[.val (.int x)] [])) (by first | (simp [entryFrame, mkF, argsToLocals, Value.category]; done) | rfl) ?_
  show OGo p e below _ s₁ (mkF m 0 #[.val (.int x)] [])
  refine OGo.step (fun _ k => XS.iconst X0.here hx rfl (hb hby d_jdk_43_method_46_0) k) ?_
  show OGo p e below _ s₁ (mkF m 1 #[.val (.int x)] [(.int (1 : Int32))])
  obtain ⟨T82, h82, k82, X82, e82, E82, A82, st82⟩ := newP X0 hx hZ (hw _ (List.mem_of_getElem? (i := 19) rfl)) e0 (g := (mkF m 1 #[.val (.int x)] [(.int (1 : Int32))])) rfl (hb hby d_jdk_43_method_46_1) rfl (by decide) (cap := 1) (by decide) (by decide) (by decide) (by decide)
  obtain ⟨b82, g82⟩ : ∃ z, z = h0.size := ⟨_, rfl⟩
  rw [← g82] at A82 st82
  have sz_b82 : h0.size ≤ b82 := Nat.le_trans (Keep.refl h0 []).1 (Nat.le_of_eq g82.symm)
  have KK82 : Keep h0 h82 [] := (Keep.refl h0 []).ext E82
  have V82 : Arv Z h82 b82 k82 .byte (1 : Int32) [(.int (0 : Int32))] (.int (0 : Int32)) := (Arv.new A82 (by decide)).pad (pad_rep [] (.int (0 : Int32)) 1)
  refine OGo.step st82 ?_
  show OGo p e below _ T82 (mkF m 3 #[.val (.int x)] [(.ref b82)])
  refine OGo.step (fun _ k => XS.dup X82.here hx rfl (hb hby d_jdk_43_method_46_3) rfl rfl k) ?_
  show OGo p e below _ T82 (mkF m 4 #[.val (.int x)] [(.ref b82), (.ref b82)])
  refine OGo.step (fun _ k => XS.iconst X82.here hx rfl (hb hby d_jdk_43_method_46_4) k) ?_
  show OGo p e below _ T82 (mkF m 5 #[.val (.int x)] [(.int (0 : Int32)), (.ref b82), (.ref b82)])
  refine OGo.step (fun _ k => XS.iloadN X82.here hx rfl (hb hby d_jdk_43_method_46_5) rfl k) ?_
  show OGo p e below _ T82 (mkF m 6 #[.val (.int x)] [(.int x), (.int (0 : Int32)), (.ref b82), (.ref b82)])
  refine OGo.step (fun _ k => XS.i2b X82.here hx rfl (hb hby d_jdk_43_method_46_6) rfl k) ?_
  show OGo p e below _ T82 (mkF m 7 #[.val (.int x)] [(.int (x.toInt8.toInt32)), (.int (0 : Int32)), (.ref b82), (.ref b82)])
  obtain ⟨T83, h83, X83, e83, W83, Vq83, st83⟩ := bastoreV X82 hx hZ e82 V82 (j := (0 : Int32)) ⟨by decide, by decide⟩ (by decide) (g := (mkF m 7 #[.val (.int x)] [(.int (x.toInt8.toInt32)), (.int (0 : Int32)), (.ref b82), (.ref b82)])) rfl rfl (hb hby d_jdk_43_method_46_7)
  have N83 := Fr.snoc X83 N0 (Nat.le_trans Z0 sz_b82)
  have KK83 : Keep h0 h83 [] := KK82.wr W83 (Or.inr sz_b82)
  refine OGo.step st83 ?_
  show OGo p e below _ T83 (mkF m 8 #[.val (.int x)] [(.ref b82)])
  have V83 : Arv Z h83 b82 k82 .byte (1 : Int32) (own_b8 [x]) (.int (0 : Int32)) := by have q := Vq83; rw [own_i8i8] at q; exact q
  exact OGo.ret X83 hx (t := (.array .byte)) hret hlk rfl (Or.inr (Or.inr (Or.inr (Or.inr ⟨rfl, rfl, rfl⟩)))) (hb hby d_jdk_43_method_46_8) (by decide) (by decide) (by rw [e83]; exact ⟨b82, _, rfl, sz_b82, N83, KK83, V83⟩)
theorem d_jdk_42_method_151_0 : decode jdk_42_method_151_code 0 = .ok (.aload_n 0, 1) := by decide +kernel
theorem d_jdk_42_method_151_1 : decode jdk_42_method_151_code 1 = .ok (.invokespecial 1, 3) := by decide +kernel
theorem d_jdk_42_method_151_4 : decode jdk_42_method_151_code 4 = .ok (.aload_n 0, 1) := by decide +kernel
theorem d_jdk_42_method_151_5 : decode jdk_42_method_151_code 5 = .ok (.aload_n 1, 1) := by decide +kernel
theorem d_jdk_42_method_151_6 : decode jdk_42_method_151_code 6 = .ok (.putfield 9, 3) := by decide +kernel
theorem d_jdk_42_method_151_9 : decode jdk_42_method_151_code 9 = .ok (.aload_n 0, 1) := by decide +kernel
theorem d_jdk_42_method_151_10 : decode jdk_42_method_151_code 10 = .ok (.iload_n 2, 1) := by decide +kernel
theorem d_jdk_42_method_151_11 : decode jdk_42_method_151_code 11 = .ok (.putfield 15, 3) := by decide +kernel
theorem d_jdk_42_method_151_14 : decode jdk_42_method_151_code 14 = .ok (.return_, 1) := by decide +kernel
theorem opl_rm_sbb : plainFor (⟨"java/lang/String", "<init>", "([BB)V"⟩ : MethodName) = true := plainFor_of_name (by first | (simp [plainName, overriddenIn]; done) | decide +kernel)
set_option maxRecDepth 65536 in
set_option maxHeartbeats 40000000 in
theorem rm_sbb (l : Launch) (Z : State) (a0 : Array Value) (hw : ∀ d ∈ tables_1, d.before a0 Z = true) (ws : List Jvm.Cond) (a d : Addr) (k : ClassId) (us : List Value) (zc : Int32) (wf : Value) (n0 : Nat) (h0 : Heap) (SS : own_SS Z zc wf) (O : Old Z n0 h0) (V : Arv Z h0 d k .byte (Int32.ofNat us.length) us (.int (0 : Int32))) (E : Exa Z h0 a "java/lang/String") (Fc : Fld Z h0 a "java/lang/String" "coder" "B" (.int (0 : Int32))) (Fv : Fld Z h0 a "java/lang/String" "value" "[B" .null) (g_a : n0 ≤ a) (nda : d ≠ a) :
    Con l Z (⟨"java/lang/String", "<init>", "([BB)V"⟩ : MethodName) jdk_42_method_151_code 3 none ws ({ frames := 1, cells := 0, slots := 0, locals := 12 } : Room) #[(.ref a), (.ref d), (.int (0 : Int32))] h0 (fun v h L => v = none ∧ Fr n0 L ∧ Keep h0 h [a] ∧ STI Z h a d k us) := by
  refine Con.intro opl_rm_sbb ?_
  intro p e s m below meth c s₁ hx hby hml hown hret hlk hZ hnm X0 e0
  obtain ⟨hzc, SC, hwf, SF⟩ := SS
  have Z0 : n0 ≤ h0.size := O.1 ▸ O.2.1
  have N0 := Fr.nil n0
  refine OGo.cast (g' := (mkF m 0 #[.val (.ref a), .val (.ref d), .val (.int (0 : Int32))] [])) (by first | (simp [entryFrame, mkF, argsToLocals, Value.category]; done) | rfl) ?_
  show OGo p e below _ s₁ (mkF m 0 #[.val (.ref a), .val (.ref d), .val (.int (0 : Int32))] [])
  refine OGo.step (fun _ k => XS.aloadN X0.here hx rfl (hb hby d_jdk_42_method_151_0) rfl rfl k) ?_
  show OGo p e below _ s₁ (mkF m 1 #[.val (.ref a), .val (.ref d), .val (.int (0 : Int32))] [(.ref a)])
  obtain ⟨T84, X84, e84, st84⟩ := initO X0 hx hZ hown (hw _ (List.mem_of_getElem? (i := 15) rfl)) (hw _ (List.mem_of_getElem? (i := 16) rfl)) (hw _ (List.mem_of_getElem? (i := 17) rfl)) e0 (g := (mkF m 1 #[.val (.ref a), .val (.ref d), .val (.int (0 : Int32))] [(.ref a)])) rfl (by rw [hml]; rfl) rfl (hb hby d_jdk_42_method_151_1) (by decide) (W := 0) (by show 2 * 0 + _ ≤ _; exact Nat.le_of_eq rfl) (by decide)
  refine OGo.step st84 ?_
  show OGo p e below _ T84 (mkF m 4 #[.val (.ref a), .val (.ref d), .val (.int (0 : Int32))] [])
  refine OGo.step (fun _ k => XS.aloadN X84.here hx rfl (hb hby d_jdk_42_method_151_4) rfl rfl k) ?_
  show OGo p e below _ T84 (mkF m 5 #[.val (.ref a), .val (.ref d), .val (.int (0 : Int32))] [(.ref a)])
  refine OGo.step (fun _ k => XS.aloadN X84.here hx rfl (hb hby d_jdk_42_method_151_5) rfl rfl k) ?_
  show OGo p e below _ T84 (mkF m 6 #[.val (.ref a), .val (.ref d), .val (.int (0 : Int32))] [(.ref d), (.ref a)])
  obtain ⟨T85, h85, X85, e85, W85, st85⟩ := putF X84 hx hZ hown (host := "") (Or.inl (hw _ (List.mem_of_getElem? (i := 24) rfl))) Via.refl e84 Fv E (Or.inr ⟨(hw _ (List.mem_of_getElem? (i := 20) rfl)), rfl, hnm⟩) (hw _ (List.mem_of_getElem? (i := 5) rfl)) (ty := (.array .byte)) (by decide) rfl rfl (g := (mkF m 6 #[.val (.ref a), .val (.ref d), .val (.int (0 : Int32))] [(.ref d), (.ref a)])) rfl rfl (hb hby d_jdk_42_method_151_6)
  have Fw85 := Fv.same W85
  have N85 := Fr.snoc X85 N0 g_a
  have KK85 : Keep h0 h85 [a] := (Keep.refl h0 [a]).wr W85 (Or.inl (List.mem_of_getElem? (i := 0) rfl))
  refine OGo.step st85 ?_
  show OGo p e below _ T85 (mkF m 9 #[.val (.ref a), .val (.ref d), .val (.int (0 : Int32))] [])
  refine OGo.step (fun _ k => XS.aloadN X85.here hx rfl (hb hby d_jdk_42_method_151_9) rfl rfl k) ?_
  show OGo p e below _ T85 (mkF m 10 #[.val (.ref a), .val (.ref d), .val (.int (0 : Int32))] [(.ref a)])
  refine OGo.step (fun _ k => XS.iloadN X85.here hx rfl (hb hby d_jdk_42_method_151_10) rfl k) ?_
  show OGo p e below _ T85 (mkF m 11 #[.val (.ref a), .val (.ref d), .val (.int (0 : Int32))] [(.int (0 : Int32)), (.ref a)])
  have q87 := (Fc.other W85 (Or.inr (slot_ne (Or.inr (hw _ (List.mem_of_getElem? (i := 21) rfl))) (Or.inr (hw _ (List.mem_of_getElem? (i := 20) rfl))) (by decide) (t := .byte) (t' := (.array .byte)) (by decide) (by decide))))
  obtain ⟨T86, h86, X86, e86, W86, st86⟩ := putFN X85 hx hZ hown (hw _ (List.mem_of_getElem? (i := 25) rfl)) Via.refl e85 q87 (E.wr W85) (Or.inr ⟨(hw _ (List.mem_of_getElem? (i := 21) rfl)), rfl, hnm⟩) (hw _ (List.mem_of_getElem? (i := 5) rfl)) (ty := .byte) (v' := (.int (0 : Int32))) (by decide) rfl rfl (g := (mkF m 11 #[.val (.ref a), .val (.ref d), .val (.int (0 : Int32))] [(.int (0 : Int32)), (.ref a)])) rfl rfl (hb hby d_jdk_42_method_151_11)
  have Fw86 := q87.same W86
  have N86 := Fr.snoc X86 N85 g_a
  have KK86 : Keep h0 h86 [a] := KK85.wr W86 (Or.inl (List.mem_of_getElem? (i := 0) rfl))
  refine OGo.step st86 ?_
  show OGo p e below _ T86 (mkF m 14 #[.val (.ref a), .val (.ref d), .val (.int (0 : Int32))] [])
  have q88 := (Fw85.other W86 (Or.inr (slot_ne (Or.inr (hw _ (List.mem_of_getElem? (i := 20) rfl))) (Or.inr (hw _ (List.mem_of_getElem? (i := 21) rfl))) (by decide) (t := (.array .byte)) (t' := .byte) (by decide) (by decide))))
  exact OGo.retV X86 hx hret hlk (hb hby d_jdk_42_method_151_14) (by decide) (by decide) (by rw [e86]; exact ⟨rfl, N86, KK86, ⟨((E.wr W85).wr W86), Fw86, q88, ((V.other W85 nda).other W86 nda)⟩⟩)
theorem d_jdk_42_method_139_0 : decode jdk_42_method_139_code 0 = .ok (.getstatic 38, 3) := by decide +kernel
theorem d_jdk_42_method_139_3 : decode jdk_42_method_139_code 3 = .ok (.ifCond .eq 23, 3) := by decide +kernel
theorem d_jdk_42_method_139_6 : decode jdk_42_method_139_code 6 = .ok (.iload_n 0, 1) := by decide +kernel
theorem opd_20 : parseMethodDescriptor "(C)Z" = some ⟨[.char], some .boolean⟩ := by decide +kernel
theorem d_jdk_42_method_139_7 : decode jdk_42_method_139_code 7 = .ok (.invokestatic 1015, 3) := by decide +kernel
theorem d_jdk_42_method_139_10 : decode jdk_42_method_139_code 10 = .ok (.ifCond .eq 16, 3) := by decide +kernel
theorem d_jdk_42_method_139_13 : decode jdk_42_method_139_code 13 = .ok (.new 10, 3) := by decide +kernel
theorem d_jdk_42_method_139_16 : decode jdk_42_method_139_code 16 = .ok (.dup, 1) := by decide +kernel
theorem d_jdk_42_method_139_17 : decode jdk_42_method_139_code 17 = .ok (.iload_n 0, 1) := by decide +kernel
theorem opd_21 : parseMethodDescriptor "(C)[B" = some ⟨[.char], some (.array .byte)⟩ := by decide +kernel
theorem d_jdk_42_method_139_18 : decode jdk_42_method_139_code 18 = .ok (.invokestatic 1018, 3) := by decide +kernel
theorem d_jdk_42_method_139_21 : decode jdk_42_method_139_code 21 = .ok (.iconst 0, 1) := by decide +kernel
theorem opd_22 : parseMethodDescriptor "([BB)V" = some ⟨[(.array .byte), .byte], none⟩ := by decide +kernel
theorem d_jdk_42_method_139_22 : decode jdk_42_method_139_code 22 = .ok (.invokespecial 209, 3) := by decide +kernel
theorem d_jdk_42_method_139_25 : decode jdk_42_method_139_code 25 = .ok (.areturn, 1) := by decide +kernel
theorem opl_rm_valueOf : plainFor (⟨"java/lang/String", "valueOf", "(C)Ljava/lang/String;"⟩ : MethodName) = true := plainFor_of_name (by first | (simp [plainName, overriddenIn]; done) | decide +kernel)
set_option maxRecDepth 65536 in
set_option maxHeartbeats 40000000 in
theorem rm_valueOf (l : Launch) (Z : State) (a0 : Array Value) (hw : ∀ d ∈ tables_1, d.before a0 Z = true) (ws : List Jvm.Cond) (x : Int32) (zc : Int32) (wf : Value) (n0 : Nat) (h0 : Heap) (SS : own_SS Z zc wf) (O : Old Z n0 h0) (hx255 : ¬ (255 : Int32) < x) :
    Con l Z (⟨"java/lang/String", "valueOf", "(C)Ljava/lang/String;"⟩ : MethodName) jdk_42_method_139_code 1 (some (.object "java/lang/String")) ws ({ frames := 2, cells := 2, slots := 5, locals := 27 } : Room) #[(.int x)] h0 (fun v h L => ∃ a r k', v = some (.ref a) ∧ h0.size ≤ a ∧ h0.size ≤ r ∧ Fr n0 L ∧ Keep h0 h [] ∧ STI Z h a r k' (own_b8 [x])) := by
  refine Con.intro opl_rm_valueOf ?_
  intro p e s m below meth c s₁ hx hby hml hown hret hlk hZ hnm X0 e0
  have SS' := SS
  obtain ⟨hzc, SC, hwf, SF⟩ := SS
  have Z0 : n0 ≤ h0.size := O.1 ▸ O.2.1
  have N0 := Fr.nil n0
  refine OGo.cast (g' := (mkF m 0 #[.val (.int x)] [])) (by first | (simp [entryFrame, mkF, argsToLocals, Value.category]; done) | rfl) ?_
  show OGo p e below _ s₁ (mkF m 0 #[.val (.int x)] [])
  obtain ⟨T89, X89, e89, st89⟩ := getS2 X0 hx hZ hown (host := "") (Or.inl (hw _ (List.mem_of_getElem? (i := 87) rfl))) Via.refl e0 (SC.ext O.2) (g := (mkF m 0 #[.val (.int x)] [])) rfl (hb hby d_jdk_42_method_139_0)
  refine OGo.step st89 ?_
  show OGo p e below _ T89 (mkF m 3 #[.val (.int x)] [(.int zc)])
  refine OGo.step (fun _ k => XS.ifNo X89.here hx rfl (hb hby d_jdk_42_method_139_3) rfl ((if0 _ _).trans (feq hzc).1) k) ?_
  show OGo p e below _ T89 (mkF m 6 #[.val (.int x)] [])
  refine OGo.step (fun _ k => XS.iloadN X89.here hx rfl (hb hby d_jdk_42_method_139_6) rfl k) ?_
  show OGo p e below _ T89 (mkF m 7 #[.val (.int x)] [(.int x)])
  obtain ⟨v90, T90, L90, X90, hQ90, st90⟩ := scall X89 hx hZ hown (hw _ (List.mem_of_getElem? (i := 202) rfl)) (hw _ (List.mem_of_getElem? (i := 203) rfl)) (hw _ (List.mem_of_getElem? (i := 179) rfl)) (hw _ (List.mem_of_getElem? (i := 204) rfl)) (by decide) (W := 0) (rm_can l Z a0 hw [] x h0 hx255) e89 (by decide) (by decide) (by decide) (by decide) (g := (mkF m 7 #[.val (.int x)] [(.int x)])) rfl (by rw [hml]; rfl) (argsL := [(.int x)]) (rest := []) opd_20 rfl rfl rfl (by show 2 * 0 + _ ≤ _; exact Nat.le_of_eq rfl) (hb hby d_jdk_42_method_139_7)
  obtain ⟨rfl, rfl, e90⟩ := hQ90
  rw [List.append_nil] at X90
  refine OGo.step st90 ?_
  show OGo p e below _ T90 (mkF m 10 #[.val (.int x)] [(.int (1 : Int32))])
  refine OGo.step (fun _ k => XS.ifNo X90.here hx rfl (hb hby d_jdk_42_method_139_10) rfl ((if0 _ _).trans (feq (by decide : ¬ (1 : Int32) = 0)).1) k) ?_
  show OGo p e below _ T90 (mkF m 13 #[.val (.int x)] [])
  obtain ⟨T91, h91, X91, e91, E91, A91, D91, -, st91⟩ := newO X90 hx hZ hown (hw _ (List.mem_of_getElem? (i := 205) rfl)) (hw _ (List.mem_of_getElem? (i := 5) rfl)) (hw _ (List.mem_of_getElem? (i := 6) rfl)) e90 (g := (mkF m 13 #[.val (.int x)] [])) rfl (hb hby d_jdk_42_method_139_13) (by decide) (by decide)
  obtain ⟨b91, g91⟩ : ∃ z, z = h0.size := ⟨_, rfl⟩
  rw [← g91] at A91 D91 st91
  have sz_b91 : h0.size ≤ b91 := Nat.le_trans (Keep.refl h0 []).1 (Nat.le_of_eq g91.symm)
  have KK91 : Keep h0 h91 [] := (Keep.refl h0 []).ext E91
  have F91_value : Fld Z h91 b91 "java/lang/String" "value" "[B" .null := D91 (Or.inr (hw _ (List.mem_of_getElem? (i := 20) rfl))) (ty := (.array .byte)) (by decide)
  have F91_coder : Fld Z h91 b91 "java/lang/String" "coder" "B" (.int (0 : Int32)) := D91 (Or.inr (hw _ (List.mem_of_getElem? (i := 21) rfl))) (ty := .byte) (by decide)
  refine OGo.step st91 ?_
  show OGo p e below _ T91 (mkF m 16 #[.val (.int x)] [(.ref b91)])
  refine OGo.step (fun _ k => XS.dup X91.here hx rfl (hb hby d_jdk_42_method_139_16) rfl rfl k) ?_
  show OGo p e below _ T91 (mkF m 17 #[.val (.int x)] [(.ref b91), (.ref b91)])
  refine OGo.step (fun _ k => XS.iloadN X91.here hx rfl (hb hby d_jdk_42_method_139_17) rfl k) ?_
  show OGo p e below _ T91 (mkF m 18 #[.val (.int x)] [(.int x), (.ref b91), (.ref b91)])
  obtain ⟨v92, T92, L92, X92, hQ92, st92⟩ := scall X91 hx hZ hown (hw _ (List.mem_of_getElem? (i := 206) rfl)) (hw _ (List.mem_of_getElem? (i := 207) rfl)) (hw _ (List.mem_of_getElem? (i := 179) rfl)) (hw _ (List.mem_of_getElem? (i := 208) rfl)) (by decide) (W := 2) (rm_toB l Z a0 hw [] x zc wf n0 h91 SS' (O.ext E91)) e91 (by decide) (by decide) (by decide) (by decide) (g := (mkF m 18 #[.val (.int x)] [(.int x), (.ref b91), (.ref b91)])) rfl (by rw [hml]; rfl) (argsL := [(.int x)]) (rest := [(.ref b91), (.ref b91)]) opd_21 rfl rfl rfl (by show 2 * 0 + _ ≤ _; exact Nat.le_of_eq rfl) (hb hby d_jdk_42_method_139_18)
  obtain ⟨r92, kr92, rfl, sr92, N92, K92, V92⟩ := hQ92
  have NN92 := Fr.app N0 N92
  have KK92 : Keep h0 T92.heap [] := KK91.trans K92 all0
  have sz_r92 : h0.size ≤ r92 := Nat.le_trans KK91.1 sr92
  refine OGo.step st92 ?_
  show OGo p e below _ T92 (mkF m 21 #[.val (.int x)] [(.ref r92), (.ref b91), (.ref b91)])
  refine OGo.step (fun _ k => XS.iconst X92.here hx rfl (hb hby d_jdk_42_method_139_21) k) ?_
  show OGo p e below _ T92 (mkF m 22 #[.val (.int x)] [(.int (0 : Int32)), (.ref r92), (.ref b91), (.ref b91)])
  obtain ⟨v93, T93, L93, X93, hQ93, st93⟩ := icall X92 hx hZ rfl hown (hw _ (List.mem_of_getElem? (i := 209) rfl)) (hw _ (List.mem_of_getElem? (i := 210) rfl)) (hw _ (List.mem_of_getElem? (i := 6) rfl)) (hw _ (List.mem_of_getElem? (i := 211) rfl)) (by decide) (W := 1) (rm_sbb l Z a0 hw [] b91 r92 kr92 (own_b8 [x]) zc wf n0 T92.heap SS' ((O.ext E91).keep K92 all0) V92 (A91.keep K92) (F91_coder.keep K92 nin0) (F91_value.keep K92 nin0) (Nat.le_trans Z0 sz_b91) (Ne.symm (Nat.ne_of_lt (Nat.lt_of_lt_of_le F91_value.lt sr92)))) rfl (by decide) (by decide) (by decide) (by decide) (g := (mkF m 22 #[.val (.int x)] [(.int (0 : Int32)), (.ref r92), (.ref b91), (.ref b91)])) rfl (by rw [hml]; rfl) (a := b91) (argsL := [(.ref r92), (.int (0 : Int32))]) (rest := [(.ref b91)]) opd_22 rfl rfl rfl (by show 2 * 0 + _ ≤ _; exact Nat.le_of_eq rfl) (hb hby d_jdk_42_method_139_22)
  obtain ⟨rfl, N93, K93, I93⟩ := hQ93
  have NN93 := Fr.app NN92 N93
  have KK93 : Keep h0 T93.heap [] := KK92.trans K93 (allS (Or.inr sz_b91) all0)
  refine OGo.step st93 ?_
  show OGo p e below _ T93 (mkF m 25 #[.val (.int x)] [(.ref b91)])
  exact OGo.ret X93 hx (t := (.object "java/lang/String")) hret hlk rfl (Or.inr (Or.inr (Or.inr (Or.inr ⟨rfl, rfl, rfl⟩)))) (hb hby d_jdk_42_method_139_25) (by decide) (by decide) ⟨b91, r92, _, rfl, sz_b91, sz_r92, NN93, KK93, I93⟩
theorem d_jdk_42_method_149_8 : decode jdk_42_method_149_code 8 = .ok (.aload_n 0, 1) := by decide +kernel
theorem d_jdk_42_method_149_9 : decode jdk_42_method_149_code 9 = .ok (.ldc 7, 2) := by decide +kernel
theorem d_jdk_42_method_149_11 : decode jdk_42_method_149_code 11 = .ok (.getfield 9, 3) := by decide +kernel
theorem d_jdk_42_method_149_14 : decode jdk_42_method_149_code 14 = .ok (.putfield 9, 3) := by decide +kernel
theorem d_jdk_42_method_149_17 : decode jdk_42_method_149_code 17 = .ok (.aload_n 0, 1) := by decide +kernel
theorem d_jdk_42_method_149_18 : decode jdk_42_method_149_code 18 = .ok (.ldc 7, 2) := by decide +kernel
theorem d_jdk_42_method_149_20 : decode jdk_42_method_149_code 20 = .ok (.getfield 15, 3) := by decide +kernel
theorem d_jdk_42_method_149_23 : decode jdk_42_method_149_code 23 = .ok (.putfield 15, 3) := by decide +kernel
theorem d_jdk_42_method_149_26 : decode jdk_42_method_149_code 26 = .ok (.return_, 1) := by decide +kernel
theorem opl_rm_new4e : plainFor (⟨"java/lang/String", "<init>", "([CIILjava/lang/Void;)V"⟩ : MethodName) = true := plainFor_of_name (by first | (simp [plainName, overriddenIn]; done) | decide +kernel)
set_option maxRecDepth 65536 in
set_option maxHeartbeats 40000000 in
theorem rm_new4e (l : Launch) (Z : State) (a0 : Array Value) (hw : ∀ d ∈ tables_1, d.before a0 Z = true) (ws : List Jvm.Cond) (a ca : Addr) (zc : Int32) (wf : Value) (n0 : Nat) (h0 : Heap) (SS : own_SS Z zc wf) (O : Old Z n0 h0) (E : Exa Z h0 a "java/lang/String") (Fc : Fld Z h0 a "java/lang/String" "coder" "B" (.int (0 : Int32))) (Fv : Fld Z h0 a "java/lang/String" "value" "[B" .null) (g_a : n0 ≤ a) :
    ConH l Z own_EL (⟨"java/lang/String", "<init>", "([CIILjava/lang/Void;)V"⟩ : MethodName) jdk_42_method_149_code 6 none ws ({ frames := 1, cells := 4, slots := 8, locals := 12 } : Room) #[(.ref a), (.ref ca), (.int (0 : Int32)), (.int (0 : Int32)), .null] h0 (fun v h L => v = none ∧ Fr n0 L ∧ Keep h0 h [a] ∧ ∃ r k', STI Z h a r k' []) := by
  refine ConH.intro opl_rm_new4e ?_
  intro p e s m below meth c s₁ hx hby hml hown hret hlk hZ hnm X0 e0 hs0 hS0 H0 R0
  obtain ⟨hzc, SC, hwf, SF⟩ := SS
  have Z0 : n0 ≤ h0.size := O.1 ▸ O.2.1
  have N0 := Fr.nil n0
  refine OGo.cast (g' := (mkF m 0 #[.val (.ref a), .val (.ref ca), .val (.int (0 : Int32)), .val (.int (0 : Int32)), .val .null, .unset] [])) (by first | (simp [entryFrame, mkF, argsToLocals, Value.category]; done) | rfl) ?_
  show OGo p e below _ s₁ (mkF m 0 #[.val (.ref a), .val (.ref ca), .val (.int (0 : Int32)), .val (.int (0 : Int32)), .val .null, .unset] [])
  refine OGo.step (fun _ k => XS.aloadN X0.here hx rfl (hb hby d_jdk_42_method_149_0) rfl rfl k) ?_
  show OGo p e below _ s₁ (mkF m 1 #[.val (.ref a), .val (.ref ca), .val (.int (0 : Int32)), .val (.int (0 : Int32)), .val .null, .unset] [(.ref a)])
  obtain ⟨T94, X94, e94, st94⟩ := initO X0 hx hZ hown (hw _ (List.mem_of_getElem? (i := 15) rfl)) (hw _ (List.mem_of_getElem? (i := 16) rfl)) (hw _ (List.mem_of_getElem? (i := 17) rfl)) e0 (g := (mkF m 1 #[.val (.ref a), .val (.ref ca), .val (.int (0 : Int32)), .val (.int (0 : Int32)), .val .null, .unset] [(.ref a)])) rfl (by rw [hml]; rfl) rfl (hb hby d_jdk_42_method_149_1) (by decide) (W := 0) (by show 2 * 0 + _ ≤ _; exact Nat.le_of_eq rfl) (by decide)
  refine OGo.step st94 ?_
  show OGo p e below _ T94 (mkF m 4 #[.val (.ref a), .val (.ref ca), .val (.int (0 : Int32)), .val (.int (0 : Int32)), .val .null, .unset] [])
  refine OGo.step (fun _ k => XS.iloadN X94.here hx rfl (hb hby d_jdk_42_method_149_4) rfl k) ?_
  show OGo p e below _ T94 (mkF m 5 #[.val (.ref a), .val (.ref ca), .val (.int (0 : Int32)), .val (.int (0 : Int32)), .val .null, .unset] [(.int (0 : Int32))])
  refine OGo.step (fun _ k => XS.ifNo X94.here hx rfl (hb hby d_jdk_42_method_149_5) rfl ((if0 _ _).trans (teq (rfl : (0 : Int32) = 0)).2) k) ?_
  show OGo p e below _ T94 (mkF m 8 #[.val (.ref a), .val (.ref ca), .val (.int (0 : Int32)), .val (.int (0 : Int32)), .val .null, .unset] [])
  refine OGo.step (fun _ k => XS.aloadN X94.here hx rfl (hb hby d_jdk_42_method_149_8) rfl rfl k) ?_
  show OGo p e below _ T94 (mkF m 9 #[.val (.ref a), .val (.ref ca), .val (.int (0 : Int32)), .val (.int (0 : Int32)), .val .null, .unset] [(.ref a)])
  obtain ⟨a95, T95, h95, kk95, d95, kd95, X95, e95, E95, hS95, hk95, hZ95, hown95, A95, C95, F95, V95, lt95, ltd95, CR95, Li95, sf95, st95⟩ := ldcCH X94 hx hZ hown (hw _ (List.mem_of_getElem? (i := 18) rfl)) (own_wS hw) e94 hS0 (Nat.zero_le _) (own_hEL hw) (List.mem_of_getElem? (i := 3) rfl) H0 (vs := []) (z := (0 : Int32)) (by decide) (by decide) (by decide) (g := (mkF m 9 #[.val (.ref a), .val (.ref ca), .val (.int (0 : Int32)), .val (.int (0 : Int32)), .val .null, .unset] [(.ref a)])) rfl (hb hby d_jdk_42_method_149_9) (n := 0) (by decide) (by decide) (by decide) (by decide)
  have KK95 : Keep h0 h95 [a] := (Keep.refl h0 [a]).ext E95
  have H95 := CR95.1
  have R95 := CHr.trans R0 CR95
  refine OGo.step st95 ?_
  show OGo p e below _ T95 (mkF m 11 #[.val (.ref a), .val (.ref ca), .val (.int (0 : Int32)), .val (.int (0 : Int32)), .val .null, .unset] [(.ref a95), (.ref a)])
  obtain ⟨T96, X96, e96, st96⟩ := getF X95 hx hZ95 hown95 (host := "") (Or.inl (hw _ (List.mem_of_getElem? (i := 24) rfl))) Via.refl e95 F95 (g := (mkF m 11 #[.val (.ref a), .val (.ref ca), .val (.int (0 : Int32)), .val (.int (0 : Int32)), .val .null, .unset] [(.ref a95), (.ref a)])) rfl rfl (hb hby d_jdk_42_method_149_11)
  refine OGo.step st96 ?_
  show OGo p e below _ T96 (mkF m 14 #[.val (.ref a), .val (.ref ca), .val (.int (0 : Int32)), .val (.int (0 : Int32)), .val .null, .unset] [(.ref d95), (.ref a)])
  obtain ⟨T97, h97, X97, e97, W97, st97⟩ := putF X96 hx hZ95 hown95 (host := "") (Or.inl (hw _ (List.mem_of_getElem? (i := 24) rfl))) Via.refl e96 (Fv.ext E95) (E.ext E95) (Or.inr ⟨(hw _ (List.mem_of_getElem? (i := 20) rfl)), rfl, hnm⟩) (hw _ (List.mem_of_getElem? (i := 5) rfl)) (ty := (.array .byte)) (by decide) rfl rfl (g := (mkF m 14 #[.val (.ref a), .val (.ref ca), .val (.int (0 : Int32)), .val (.int (0 : Int32)), .val .null, .unset] [(.ref d95), (.ref a)])) rfl rfl (hb hby d_jdk_42_method_149_14)
  have Fw97 := (Fv.ext E95).same W97
  have q98 := (CHr.safe CR95 E.lt (own_safeNull hZ.alike E Fv))
  have N97 := Fr.snoc X97 N0 g_a
  have KK97 : Keep h0 h97 [a] := KK95.wr W97 (Or.inl (List.mem_of_getElem? (i := 0) rfl))
  have H97 := CHv.wr W97 q98 H95
  have R97 := CHr.trans R95 (CHr.wr W97 q98 H95)
  refine OGo.step st97 ?_
  show OGo p e below _ T97 (mkF m 17 #[.val (.ref a), .val (.ref ca), .val (.int (0 : Int32)), .val (.int (0 : Int32)), .val .null, .unset] [])
  refine OGo.step (fun _ k => XS.aloadN X97.here hx rfl (hb hby d_jdk_42_method_149_17) rfl rfl k) ?_
  show OGo p e below _ T97 (mkF m 18 #[.val (.ref a), .val (.ref ca), .val (.int (0 : Int32)), .val (.int (0 : Int32)), .val .null, .unset] [(.ref a)])
  obtain ⟨a99, T99, h99, kk99, d99, kd99, X99, e99, E99, hS99, hk99, hZ99, hown99, A99, C99, F99, V99, lt99, ltd99, CR99, Li99, sf99, st99⟩ := ldcCH X97 hx hZ95 hown95 (hw _ (List.mem_of_getElem? (i := 18) rfl)) (own_wS hw) e97 hS95 (Nat.le_trans hk95 (Nat.le_of_eq W97.size.symm)) (own_hEL hw) (List.mem_of_getElem? (i := 3) rfl) H97 (vs := []) (z := (0 : Int32)) (by decide) (by decide) (by decide) (g := (mkF m 18 #[.val (.ref a), .val (.ref ca), .val (.int (0 : Int32)), .val (.int (0 : Int32)), .val .null, .unset] [(.ref a)])) rfl (hb hby d_jdk_42_method_149_18) (n := 0) (by decide) (by decide) (by decide) (by decide)
  have KK99 : Keep h0 h99 [a] := KK97.ext E99
  have H99 := CR99.1
  have R99 := CHr.trans R97 CR99
  refine OGo.step st99 ?_
  show OGo p e below _ T99 (mkF m 20 #[.val (.ref a), .val (.ref ca), .val (.int (0 : Int32)), .val (.int (0 : Int32)), .val .null, .unset] [(.ref a99), (.ref a)])
  obtain ⟨T100, X100, e100, st100⟩ := getF X99 hx hZ99 hown99 (host := "") (Or.inl (hw _ (List.mem_of_getElem? (i := 25) rfl))) Via.refl e99 C99 (g := (mkF m 20 #[.val (.ref a), .val (.ref ca), .val (.int (0 : Int32)), .val (.int (0 : Int32)), .val .null, .unset] [(.ref a99), (.ref a)])) rfl rfl (hb hby d_jdk_42_method_149_20)
  refine OGo.step st100 ?_
  show OGo p e below _ T100 (mkF m 23 #[.val (.ref a), .val (.ref ca), .val (.int (0 : Int32)), .val (.int (0 : Int32)), .val .null, .unset] [(.int (0 : Int32)), (.ref a)])
  have q102 := (((Fc.ext E95).other W97 (Or.inr (slot_ne (Or.inr (hw _ (List.mem_of_getElem? (i := 21) rfl))) (Or.inr (hw _ (List.mem_of_getElem? (i := 20) rfl))) (by decide) (t := .byte) (t' := (.array .byte)) (by decide) (by decide)))).ext E99)
  obtain ⟨T101, h101, X101, e101, W101, st101⟩ := putFN X100 hx hZ99 hown99 (hw _ (List.mem_of_getElem? (i := 25) rfl)) Via.refl e100 q102 (((E.ext E95).wr W97).ext E99) (Or.inr ⟨(hw _ (List.mem_of_getElem? (i := 21) rfl)), rfl, hnm⟩) (hw _ (List.mem_of_getElem? (i := 5) rfl)) (ty := .byte) (v' := (.int (0 : Int32))) (by decide) rfl rfl (g := (mkF m 23 #[.val (.ref a), .val (.ref ca), .val (.int (0 : Int32)), .val (.int (0 : Int32)), .val .null, .unset] [(.int (0 : Int32)), (.ref a)])) rfl rfl (hb hby d_jdk_42_method_149_23)
  have Fw101 := q102.same W101
  have q103 := (CHr.safe CR99 ((E.ext E95).wr W97).lt (Safe.wr W97 q98 H95 q98))
  have N101 := Fr.snoc X101 N97 g_a
  have KK101 : Keep h0 h101 [a] := KK99.wr W101 (Or.inl (List.mem_of_getElem? (i := 0) rfl))
  have H101 := CHv.wr W101 q103 H99
  have R101 := CHr.trans R99 (CHr.wr W101 q103 H99)
  refine OGo.step st101 ?_
  show OGo p e below _ T101 (mkF m 26 #[.val (.ref a), .val (.ref ca), .val (.int (0 : Int32)), .val (.int (0 : Int32)), .val .null, .unset] [])
  have q104 := ((Fw97.ext E99).other W101 (Or.inr (slot_ne (Or.inr (hw _ (List.mem_of_getElem? (i := 20) rfl))) (Or.inr (hw _ (List.mem_of_getElem? (i := 21) rfl))) (by decide) (t := (.array .byte)) (t' := .byte) (by decide) (by decide))))
  have q105 := (((V95.other W97 (Ne.symm (sf95 _ q98).2)).ext E99).other W101 (Ne.symm (sf95 _ q98).2))
  exact OGo.retHV X101 hx hZ99 (own_hEL hw) hs0 e101 hS99 (Nat.le_trans hk99 (Nat.le_of_eq W101.size.symm)) H101 R101 hret hlk (hb hby d_jdk_42_method_149_26) (by decide) (by decide) ⟨rfl, N101, KK101, d95, _, ⟨((((E.ext E95).wr W97).ext E99).wr W101), Fw101, q104, q105⟩⟩
theorem opl_rm_new1e : plainFor (⟨"java/lang/String", "<init>", "([C)V"⟩ : MethodName) = true := plainFor_of_name (by first | (simp [plainName, overriddenIn]; done) | decide +kernel)
set_option maxRecDepth 65536 in
set_option maxHeartbeats 40000000 in
theorem rm_new1e (l : Launch) (Z : State) (a0 : Array Value) (hw : ∀ d ∈ tables_1, d.before a0 Z = true) (ws : List Jvm.Cond) (a ca : Addr) (kc : ClassId) (vs : List Value) (zc : Int32) (wf : Value) (n0 : Nat) (h0 : Heap) (SS : own_SS Z zc wf) (O : Old Z n0 h0) (E : Exa Z h0 a "java/lang/String") (Fc : Fld Z h0 a "java/lang/String" "coder" "B" (.int (0 : Int32))) (Fv : Fld Z h0 a "java/lang/String" "value" "[B" .null) (g_a : n0 ≤ a) (Vc : Arv Z h0 ca kc .char (0 : Int32) vs (.int (0 : Int32))) :
    ConH l Z own_EL (⟨"java/lang/String", "<init>", "([C)V"⟩ : MethodName) jdk_42_method_3_code 2 none ws ({ frames := 2, cells := 4, slots := 8, locals := 29 } : Room) #[(.ref a), (.ref ca)] h0 (fun v h L => v = none ∧ Fr n0 L ∧ Keep h0 h [a] ∧ ∃ r k', STI Z h a r k' []) := by
  refine ConH.intro opl_rm_new1e ?_
  intro p e s m below meth c s₁ hx hby hml hown hret hlk hZ hnm X0 e0 hs0 hS0 H0 R0
  have SS' := SS
  obtain ⟨hzc, SC, hwf, SF⟩ := SS
  have Z0 : n0 ≤ h0.size := O.1 ▸ O.2.1
  have N0 := Fr.nil n0
  refine OGo.cast (g' := (mkF m 0 #[.val (.ref a), .val (.ref ca)] [])) (by first | (simp [entryFrame, mkF, argsToLocals, Value.category]; done) | rfl) ?_
  show OGo p e below _ s₁ (mkF m 0 #[.val (.ref a), .val (.ref ca)] [])
  refine OGo.step (fun _ k => XS.aloadN X0.here hx rfl (hb hby d_jdk_42_method_3_0) rfl rfl k) ?_
  show OGo p e below _ s₁ (mkF m 1 #[.val (.ref a), .val (.ref ca)] [(.ref a)])
  refine OGo.step (fun _ k => XS.aloadN X0.here hx rfl (hb hby d_jdk_42_method_3_1) rfl rfl k) ?_
  show OGo p e below _ s₁ (mkF m 2 #[.val (.ref a), .val (.ref ca)] [(.ref ca), (.ref a)])
  refine OGo.step (fun _ k => XS.iconst X0.here hx rfl (hb hby d_jdk_42_method_3_2) k) ?_
  show OGo p e below _ s₁ (mkF m 3 #[.val (.ref a), .val (.ref ca)] [(.int (0 : Int32)), (.ref ca), (.ref a)])
  refine OGo.step (fun _ k => XS.aloadN X0.here hx rfl (hb hby d_jdk_42_method_3_3) rfl rfl k) ?_
  show OGo p e below _ s₁ (mkF m 4 #[.val (.ref a), .val (.ref ca)] [(.ref ca), (.int (0 : Int32)), (.ref ca), (.ref a)])
  refine OGo.step (fun _ k => alenV X0 hx hZ e0 Vc (g := (mkF m 4 #[.val (.ref a), .val (.ref ca)] [(.ref ca), (.int (0 : Int32)), (.ref ca), (.ref a)])) rfl rfl (hb hby d_jdk_42_method_3_4) _ k) ?_
  show OGo p e below _ s₁ (mkF m 5 #[.val (.ref a), .val (.ref ca)] [(.int (0 : Int32)), (.int (0 : Int32)), (.ref ca), (.ref a)])
  refine OGo.step (fun _ k => XS.aconstNull X0.here hx rfl (hb hby d_jdk_42_method_3_5) k) ?_
  show OGo p e below _ s₁ (mkF m 6 #[.val (.ref a), .val (.ref ca)] [.null, (.int (0 : Int32)), (.int (0 : Int32)), (.ref ca), (.ref a)])
  obtain ⟨v106, T106, L106, kk106, X106, hS106, hk106, hZ106, hown106, CR106, hQ106, st106⟩ := icallH X0 hx hZ rfl hown (own_hEL hw) hS0 (Nat.zero_le _) H0 (hw _ (List.mem_of_getElem? (i := 11) rfl)) (hw _ (List.mem_of_getElem? (i := 12) rfl)) (hw _ (List.mem_of_getElem? (i := 6) rfl)) (hw _ (List.mem_of_getElem? (i := 14) rfl)) (by decide) (W := 0) (rm_new4e l Z a0 hw [] a ca zc wf n0 h0 SS' O E Fc Fv g_a) e0 (by decide) (by decide) (by decide) (by decide) (g := (mkF m 6 #[.val (.ref a), .val (.ref ca)] [.null, (.int (0 : Int32)), (.int (0 : Int32)), (.ref ca), (.ref a)])) rfl (by rw [hml]; rfl) (a := a) (argsL := [(.ref ca), (.int (0 : Int32)), (.int (0 : Int32)), .null]) (rest := []) opd_19 rfl rfl rfl (by show 2 * 0 + _ ≤ _; exact Nat.le_of_eq rfl) (hb hby d_jdk_42_method_3_6)
  obtain ⟨rfl, N106, K106, r106, kr106, I106⟩ := hQ106
  have NN106 := Fr.app N0 N106
  have KK106 : Keep h0 T106.heap [a] := (Keep.refl h0 [a]).trans K106 (allS (Or.inl (List.mem_of_getElem? (i := 0) rfl)) all0)
  have H106 := CR106.1
  have R106 := CHr.trans R0 CR106
  refine OGo.step st106 ?_
  show OGo p e below _ T106 (mkF m 9 #[.val (.ref a), .val (.ref ca)] [])
  exact OGo.retHV X106 hx hZ106 (own_hEL hw) hs0 rfl hS106 hk106 H106 R106 hret hlk (hb hby d_jdk_42_method_3_9) (by decide) (by decide) ⟨rfl, NN106, KK106, r106, _, I106⟩
theorem own_16 : (16 : Int32).toNatClampNeg = 16 := by decide
theorem own_lt16 {n : Nat} (h : n < 16) : Int32.ofNat n < (16 : Int32) := (own_lt (by omega) (by decide)).mpr h
def own_mk (len : Nat) (c0 c1 : Int32) : List Int32 := if len = 0 then [] else if len = 1 then [c0] else [c0, c1]
def own_us (mz : Int32) (u v : List Value) : List Value := if mz = 0 then [(.int (91 : Int32))] ++ (u ++ [(.int (32 : Int32))] ++ v) ++ [(.int (93 : Int32))] else u ++ [(.int (32 : Int32))] ++ v
theorem own_ofNat0 {n : Nat} (h : n < 2147483648) (q : Int32.ofNat n = 0) : n = 0 := by
  have := congrArg Int32.toInt q
  rw [own_toInt h] at this
  have e : (0 : Int32).toInt = 0 := rfl
  omega
theorem own_narc {x : Int32} (h : ¬ x < 0 ∧ ¬ (255 : Int32) < x) : nar .char x = x := by
  obtain ⟨h0, h1⟩ := h
  rw [Int32.lt_iff_toInt_lt] at h0 h1
  have e0 : (0 : Int32).toInt = 0 := rfl
  have e1 : (255 : Int32).toInt = 255 := rfl
  have q := c_i2c x
  have r := rng32 (nar .char x)
  apply Int32.toInt_inj.mp
  show x.toUInt32.toUInt16.toUInt32.toInt32.toInt = x.toInt
  omega
theorem own_ok2 {x y : Int32} (h : ¬ x < 0 ∧ ¬ (255 : Int32) < x) (h' : ¬ y < 0 ∧ ¬ (255 : Int32) < y) : own_ok8 [x, y] := fun z hz => by
  rcases List.mem_cons.mp hz with rfl | hz
  · exact h
  · cases List.mem_singleton.mp hz; exact h'
theorem d_method_2_0 : decode method_2_code 0 = .ok (.iload_n 0, 1) := by decide +kernel
theorem d_method_2_1 : decode method_2_code 1 = .ok (.ifCond .ne 14, 3) := by decide +kernel
theorem d_method_2_4 : decode method_2_code 4 = .ok (.new 7, 3) := by decide +kernel
theorem d_method_2_7 : decode method_2_code 7 = .ok (.dup, 1) := by decide +kernel
theorem d_method_2_8 : decode method_2_code 8 = .ok (.iconst 0, 1) := by decide +kernel
theorem d_method_2_9 : decode method_2_code 9 = .ok (.newarray .char, 2) := by decide +kernel
theorem opd_23 : parseMethodDescriptor "([C)V" = some ⟨[(.array .char)], none⟩ := by decide +kernel
theorem d_method_2_11 : decode method_2_code 11 = .ok (.invokespecial 9, 3) := by decide +kernel
theorem d_method_2_14 : decode method_2_code 14 = .ok (.areturn, 1) := by decide +kernel
theorem d_method_2_15 : decode method_2_code 15 = .ok (.iload_n 0, 1) := by decide +kernel
theorem d_method_2_16 : decode method_2_code 16 = .ok (.iconst 1, 1) := by decide +kernel
theorem d_method_2_17 : decode method_2_code 17 = .ok (.if_icmp .ne 8, 3) := by decide +kernel
theorem d_method_2_20 : decode method_2_code 20 = .ok (.iload_n 1, 1) := by decide +kernel
theorem opd_24 : parseMethodDescriptor "(C)Ljava/lang/String;" = some ⟨[.char], some (.object "java/lang/String")⟩ := by decide +kernel
theorem d_method_2_21 : decode method_2_code 21 = .ok (.invokestatic 12, 3) := by decide +kernel
theorem d_method_2_24 : decode method_2_code 24 = .ok (.areturn, 1) := by decide +kernel
theorem d_method_2_25 : decode method_2_code 25 = .ok (.new 7, 3) := by decide +kernel
theorem d_method_2_28 : decode method_2_code 28 = .ok (.dup, 1) := by decide +kernel
theorem d_method_2_29 : decode method_2_code 29 = .ok (.iconst 2, 1) := by decide +kernel
theorem d_method_2_30 : decode method_2_code 30 = .ok (.newarray .char, 2) := by decide +kernel
theorem d_method_2_32 : decode method_2_code 32 = .ok (.dup, 1) := by decide +kernel
theorem d_method_2_33 : decode method_2_code 33 = .ok (.iconst 0, 1) := by decide +kernel
theorem d_method_2_34 : decode method_2_code 34 = .ok (.iload_n 1, 1) := by decide +kernel
theorem d_method_2_35 : decode method_2_code 35 = .ok (.castore, 1) := by decide +kernel
theorem d_method_2_36 : decode method_2_code 36 = .ok (.dup, 1) := by decide +kernel
theorem d_method_2_37 : decode method_2_code 37 = .ok (.iconst 1, 1) := by decide +kernel
theorem d_method_2_38 : decode method_2_code 38 = .ok (.iload_n 2, 1) := by decide +kernel
theorem d_method_2_39 : decode method_2_code 39 = .ok (.castore, 1) := by decide +kernel
theorem d_method_2_40 : decode method_2_code 40 = .ok (.invokespecial 9, 3) := by decide +kernel
theorem d_method_2_43 : decode method_2_code 43 = .ok (.areturn, 1) := by decide +kernel
theorem opl_rm_make : plainFor (⟨"com/example/fenced_rbac/fencedrbac/cli/OptionUsagePinLaw", "make", "(ICC)Ljava/lang/String;"⟩ : MethodName) = true := plainFor_of_name (by first | (simp [plainName, overriddenIn]; done) | decide +kernel)
set_option maxRecDepth 65536 in
set_option maxHeartbeats 40000000 in
theorem rm_make (l : Launch) (Z : State) (a0 : Array Value) (hw : ∀ d ∈ tables_1, d.before a0 Z = true) (ws : List Jvm.Cond) (n : Nat) (x0 x1 : Int32) (zc : Int32) (wf : Value) (n0 : Nat) (h0 : Heap) (SS : own_SS Z zc wf) (O : Old Z n0 h0) (hn : n ≤ 2) (hx0 : ¬ x0 < 0 ∧ ¬ (255 : Int32) < x0) (hx1 : ¬ x1 < 0 ∧ ¬ (255 : Int32) < x1) :
    ConH l Z own_EL (⟨"com/example/fenced_rbac/fencedrbac/cli/OptionUsagePinLaw", "make", "(ICC)Ljava/lang/String;"⟩ : MethodName) method_2_code 3 (some (.object "java/lang/String")) ws ({ frames := 4, cells := 6, slots := 12, locals := 66 } : Room) #[(.int (Int32.ofNat n)), (.int x0), (.int x1)] h0 (fun v h L => ∃ a r k', v = some (.ref a) ∧ h0.size ≤ a ∧ Fr n0 L ∧ Keep h0 h [] ∧ STI Z h a r k' (own_b8 (own_mk n x0 x1))) := by
  refine ConH.intro opl_rm_make ?_
  intro p e s m below meth c s₁ hx hby hml hown hret hlk hZ hnm X0 e0 hs0 hS0 H0 R0
  have SS' := SS
  obtain ⟨hzc, SC, hwf, SF⟩ := SS
  have Z0 : n0 ≤ h0.size := O.1 ▸ O.2.1
  have N0 := Fr.nil n0
  refine OGo.cast (g' := (mkF m 0 #[.val (.int (Int32.ofNat n)), .val (.int x0), .val (.int x1)] [])) (by first | (simp [entryFrame, mkF, argsToLocals, Value.category]; done) | rfl) ?_
  show OGo p e below _ s₁ (mkF m 0 #[.val (.int (Int32.ofNat n)), .val (.int x0), .val (.int x1)] [])
  refine OGo.step (fun _ k => XS.iloadN X0.here hx rfl (hb hby d_method_2_0) rfl k) ?_
  show OGo p e below _ s₁ (mkF m 1 #[.val (.int (Int32.ofNat n)), .val (.int x0), .val (.int x1)] [(.int (Int32.ofNat n))])
  by_cases q0 : n = 0
  · subst q0
    refine OGo.step (fun _ k => XS.ifNo X0.here hx rfl (hb hby d_method_2_1) rfl ((if0 _ _).trans (teq (rfl : (0 : Int32) = 0)).2) k) ?_
    show OGo p e below _ s₁ (mkF m 4 #[.val (.int (Int32.ofNat 0)), .val (.int x0), .val (.int x1)] [])
    obtain ⟨T107, h107, X107, e107, E107, A107, D107, -, st107⟩ := newO X0 hx hZ hown (hw _ (List.mem_of_getElem? (i := 4) rfl)) (hw _ (List.mem_of_getElem? (i := 5) rfl)) (hw _ (List.mem_of_getElem? (i := 6) rfl)) e0 (g := (mkF m 4 #[.val (.int (Int32.ofNat 0)), .val (.int x0), .val (.int x1)] [])) rfl (hb hby d_method_2_4) (by decide) (by decide)
    obtain ⟨b107, g107⟩ : ∃ z, z = h0.size := ⟨_, rfl⟩
    rw [← g107] at A107 D107 st107
    have sz_b107 : h0.size ≤ b107 := Nat.le_trans (Keep.refl h0 []).1 (Nat.le_of_eq g107.symm)
    have KK107 : Keep h0 h107 [] := (Keep.refl h0 []).ext E107
    have H107 := CHv.ext E107 H0
    have R107 := CHr.trans R0 (CHr.ext E107 H0)
    have F107_value : Fld Z h107 b107 "java/lang/String" "value" "[B" .null := D107 (Or.inr (hw _ (List.mem_of_getElem? (i := 20) rfl))) (ty := (.array .byte)) (by decide)
    have F107_coder : Fld Z h107 b107 "java/lang/String" "coder" "B" (.int (0 : Int32)) := D107 (Or.inr (hw _ (List.mem_of_getElem? (i := 21) rfl))) (ty := .byte) (by decide)
    refine OGo.step st107 ?_
    show OGo p e below _ T107 (mkF m 7 #[.val (.int (Int32.ofNat 0)), .val (.int x0), .val (.int x1)] [(.ref b107)])
    refine OGo.step (fun _ k => XS.dup X107.here hx rfl (hb hby d_method_2_7) rfl rfl k) ?_
    show OGo p e below _ T107 (mkF m 8 #[.val (.int (Int32.ofNat 0)), .val (.int x0), .val (.int x1)] [(.ref b107), (.ref b107)])
    refine OGo.step (fun _ k => XS.iconst X107.here hx rfl (hb hby d_method_2_8) k) ?_
    show OGo p e below _ T107 (mkF m 9 #[.val (.int (Int32.ofNat 0)), .val (.int x0), .val (.int x1)] [(.int (0 : Int32)), (.ref b107), (.ref b107)])
    obtain ⟨T108, h108, k108, X108, e108, E108, A108, st108⟩ := newP X107 hx hZ (hw _ (List.mem_of_getElem? (i := 7) rfl)) e107 (g := (mkF m 9 #[.val (.int (Int32.ofNat 0)), .val (.int x0), .val (.int x1)] [(.int (0 : Int32)), (.ref b107), (.ref b107)])) rfl (hb hby d_method_2_9) rfl (by decide) (cap := 0) (by decide) (by decide) (by decide) (by decide)
    obtain ⟨b108, g108⟩ : ∃ z, z = h107.size := ⟨_, rfl⟩
    rw [← g108] at A108 st108
    have sz_b108 : h0.size ≤ b108 := Nat.le_trans KK107.1 (Nat.le_of_eq g108.symm)
    have KK108 : Keep h0 h108 [] := KK107.ext E108
    have H108 := CHv.ext E108 H107
    have R108 := CHr.trans R107 (CHr.ext E108 H107)
    have V108 : Arv Z h108 b108 k108 .char (0 : Int32) [] (.int (0 : Int32)) := (Arv.new A108 (by decide)).pad (pad_rep [] (.int (0 : Int32)) 0)
    refine OGo.step st108 ?_
    show OGo p e below _ T108 (mkF m 11 #[.val (.int (Int32.ofNat 0)), .val (.int x0), .val (.int x1)] [(.ref b108), (.ref b107), (.ref b107)])
    obtain ⟨v109, T109, L109, kk109, X109, hS109, hk109, hZ109, hown109, CR109, hQ109, st109⟩ := icallH X108 hx hZ rfl hown (own_hEL hw) hS0 (Nat.le_trans (Nat.le_trans (Nat.zero_le _) E107.1) E108.1) H108 (hw _ (List.mem_of_getElem? (i := 8) rfl)) (hw _ (List.mem_of_getElem? (i := 9) rfl)) (hw _ (List.mem_of_getElem? (i := 6) rfl)) (hw _ (List.mem_of_getElem? (i := 10) rfl)) (by decide) (W := 1) (rm_new1e l Z a0 hw [] b107 b108 k108 [] zc wf n0 h108 SS' ((O.ext E107).ext E108) (A107.ext E108) (F107_coder.ext E108) (F107_value.ext E108) (Nat.le_trans Z0 sz_b107) V108) e108 (by decide) (by decide) (by decide) (by decide) (g := (mkF m 11 #[.val (.int (Int32.ofNat 0)), .val (.int x0), .val (.int x1)] [(.ref b108), (.ref b107), (.ref b107)])) rfl (by rw [hml]; rfl) (a := b107) (argsL := [(.ref b108)]) (rest := [(.ref b107)]) opd_23 rfl rfl rfl (by show 2 * 0 + _ ≤ _; exact Nat.le_of_eq rfl) (hb hby d_method_2_11)
    obtain ⟨rfl, N109, K109, r109, kr109, I109⟩ := hQ109
    have NN109 := Fr.app N0 N109
    have KK109 : Keep h0 T109.heap [] := KK108.trans K109 (allS (Or.inr sz_b107) all0)
    have H109 := CR109.1
    have R109 := CHr.trans R108 CR109
    refine OGo.step st109 ?_
    show OGo p e below _ T109 (mkF m 14 #[.val (.int (Int32.ofNat 0)), .val (.int x0), .val (.int x1)] [(.ref b107)])
    exact OGo.retH X109 hx hZ109 (own_hEL hw) hs0 rfl hS109 hk109 H109 R109 (t := (.object "java/lang/String")) hret hlk rfl (Or.inr (Or.inr (Or.inr (Or.inr ⟨rfl, rfl, rfl⟩)))) (hb hby d_method_2_14) (by decide) (by decide) ⟨b107, r109, _, rfl, sz_b107, NN109, KK109, I109⟩
  refine OGo.step (fun _ k => XS.ifYes X0.here hx rfl (pc0 := 1) (pc' := 15) rfl (hb hby d_method_2_1) rfl ((if0 _ _).trans (feq (fun q => q0 (own_ofNat0 (by omega) q))).2) (by decide) (by decide) k) ?_
  show OGo p e below _ s₁ (mkF m 15 #[.val (.int (Int32.ofNat n)), .val (.int x0), .val (.int x1)] [])
  refine OGo.step (fun _ k => XS.iloadN X0.here hx rfl (hb hby d_method_2_15) rfl k) ?_
  show OGo p e below _ s₁ (mkF m 16 #[.val (.int (Int32.ofNat n)), .val (.int x0), .val (.int x1)] [(.int (Int32.ofNat n))])
  refine OGo.step (fun _ k => XS.iconst X0.here hx rfl (hb hby d_method_2_16) k) ?_
  show OGo p e below _ s₁ (mkF m 17 #[.val (.int (Int32.ofNat n)), .val (.int x0), .val (.int x1)] [(.int (1 : Int32)), (.int (Int32.ofNat n))])
  by_cases q1 : n = 1
  · subst q1
    refine OGo.step (fun _ k => XS.icmpNo X0.here hx rfl (hb hby d_method_2_17) rfl (teq (rfl : Int32.ofNat 1 = (1 : Int32))).2 k) ?_
    show OGo p e below _ s₁ (mkF m 20 #[.val (.int (Int32.ofNat 1)), .val (.int x0), .val (.int x1)] [])
    refine OGo.step (fun _ k => XS.iloadN X0.here hx rfl (hb hby d_method_2_20) rfl k) ?_
    show OGo p e below _ s₁ (mkF m 21 #[.val (.int (Int32.ofNat 1)), .val (.int x0), .val (.int x1)] [(.int x0)])
    obtain ⟨v110, T110, L110, X110, hQ110, st110⟩ := scall X0 hx hZ hown (hw _ (List.mem_of_getElem? (i := 199) rfl)) (hw _ (List.mem_of_getElem? (i := 200) rfl)) (hw _ (List.mem_of_getElem? (i := 6) rfl)) (hw _ (List.mem_of_getElem? (i := 201) rfl)) (by decide) (W := 0) (rm_valueOf l Z a0 hw [] x0 zc wf n0 h0 SS' O hx0.2) e0 (by decide) (by decide) (by decide) (by decide) (g := (mkF m 21 #[.val (.int (Int32.ofNat 1)), .val (.int x0), .val (.int x1)] [(.int x0)])) rfl (by rw [hml]; rfl) (argsL := [(.int x0)]) (rest := []) opd_24 rfl rfl rfl (by show 2 * 0 + _ ≤ _; exact Nat.le_of_eq rfl) (hb hby d_method_2_21)
    obtain ⟨a110, r110, kr110, rfl, sa110, sr110, N110, K110, I110⟩ := hQ110
    have NN110 := Fr.app N0 N110
    have KK110 : Keep h0 T110.heap [] := (Keep.refl h0 []).trans K110 all0
    have H110 := CHv.keep K110 sf0 H0
    have R110 := CHr.trans R0 (CHr.keep K110 sf0 H0)
    refine OGo.step st110 ?_
    show OGo p e below _ T110 (mkF m 24 #[.val (.int (Int32.ofNat 1)), .val (.int x0), .val (.int x1)] [(.ref a110)])
    exact OGo.retH X110 hx hZ (own_hEL hw) hs0 rfl hS0 (Nat.le_trans (Nat.zero_le _) K110.1) H110 R110 (t := (.object "java/lang/String")) hret hlk rfl (Or.inr (Or.inr (Or.inr (Or.inr ⟨rfl, rfl, rfl⟩)))) (hb hby d_method_2_24) (by decide) (by decide) ⟨a110, r110, _, rfl, sa110, NN110, KK110, I110⟩
  obtain rfl : n = 2 := by omega
  refine OGo.step (fun _ k => XS.icmpYes X0.here hx rfl (pc0 := 17) (pc' := 25) rfl (hb hby d_method_2_17) rfl (feq (by decide : ¬ Int32.ofNat 2 = (1 : Int32))).2 (by decide) (by decide) k) ?_
  show OGo p e below _ s₁ (mkF m 25 #[.val (.int (Int32.ofNat 2)), .val (.int x0), .val (.int x1)] [])
  obtain ⟨T111, h111, X111, e111, E111, A111, D111, -, st111⟩ := newO X0 hx hZ hown (hw _ (List.mem_of_getElem? (i := 4) rfl)) (hw _ (List.mem_of_getElem? (i := 5) rfl)) (hw _ (List.mem_of_getElem? (i := 6) rfl)) e0 (g := (mkF m 25 #[.val (.int (Int32.ofNat 2)), .val (.int x0), .val (.int x1)] [])) rfl (hb hby d_method_2_25) (by decide) (by decide)
  obtain ⟨b111, g111⟩ : ∃ z, z = h0.size := ⟨_, rfl⟩
  rw [← g111] at A111 D111 st111
  have sz_b111 : h0.size ≤ b111 := Nat.le_trans (Keep.refl h0 []).1 (Nat.le_of_eq g111.symm)
  have KK111 : Keep h0 h111 [] := (Keep.refl h0 []).ext E111
  have H111 := CHv.ext E111 H0
  have R111 := CHr.trans R0 (CHr.ext E111 H0)
  have F111_value : Fld Z h111 b111 "java/lang/String" "value" "[B" .null := D111 (Or.inr (hw _ (List.mem_of_getElem? (i := 20) rfl))) (ty := (.array .byte)) (by decide)
  have F111_coder : Fld Z h111 b111 "java/lang/String" "coder" "B" (.int (0 : Int32)) := D111 (Or.inr (hw _ (List.mem_of_getElem? (i := 21) rfl))) (ty := .byte) (by decide)
  refine OGo.step st111 ?_
  show OGo p e below _ T111 (mkF m 28 #[.val (.int (Int32.ofNat 2)), .val (.int x0), .val (.int x1)] [(.ref b111)])
  refine OGo.step (fun _ k => XS.dup X111.here hx rfl (hb hby d_method_2_28) rfl rfl k) ?_
  show OGo p e below _ T111 (mkF m 29 #[.val (.int (Int32.ofNat 2)), .val (.int x0), .val (.int x1)] [(.ref b111), (.ref b111)])
  refine OGo.step (fun _ k => XS.iconst X111.here hx rfl (hb hby d_method_2_29) k) ?_
  show OGo p e below _ T111 (mkF m 30 #[.val (.int (Int32.ofNat 2)), .val (.int x0), .val (.int x1)] [(.int (2 : Int32)), (.ref b111), (.ref b111)])
  obtain ⟨T112, h112, k112, X112, e112, E112, A112, st112⟩ := newP X111 hx hZ (hw _ (List.mem_of_getElem? (i := 7) rfl)) e111 (g := (mkF m 30 #[.val (.int (Int32.ofNat 2)), .val (.int x0), .val (.int x1)] [(.int (2 : Int32)), (.ref b111), (.ref b111)])) rfl (hb hby d_method_2_30) rfl (by decide) (cap := 2) (by decide) (by decide) (by decide) (by decide)
  obtain ⟨b112, g112⟩ : ∃ z, z = h111.size := ⟨_, rfl⟩
  rw [← g112] at A112 st112
  have sz_b112 : h0.size ≤ b112 := Nat.le_trans KK111.1 (Nat.le_of_eq g112.symm)
  have KK112 : Keep h0 h112 [] := KK111.ext E112
  have H112 := CHv.ext E112 H111
  have R112 := CHr.trans R111 (CHr.ext E112 H111)
  have V112 : Arv Z h112 b112 k112 .char (2 : Int32) [(.int (0 : Int32)), (.int (0 : Int32))] (.int (0 : Int32)) := (Arv.new A112 (by decide)).pad (pad_rep [] (.int (0 : Int32)) 2)
  refine OGo.step st112 ?_
  show OGo p e below _ T112 (mkF m 32 #[.val (.int (Int32.ofNat 2)), .val (.int x0), .val (.int x1)] [(.ref b112), (.ref b111), (.ref b111)])
  refine OGo.step (fun _ k => XS.dup X112.here hx rfl (hb hby d_method_2_32) rfl rfl k) ?_
  show OGo p e below _ T112 (mkF m 33 #[.val (.int (Int32.ofNat 2)), .val (.int x0), .val (.int x1)] [(.ref b112), (.ref b112), (.ref b111), (.ref b111)])
  refine OGo.step (fun _ k => XS.iconst X112.here hx rfl (hb hby d_method_2_33) k) ?_
  show OGo p e below _ T112 (mkF m 34 #[.val (.int (Int32.ofNat 2)), .val (.int x0), .val (.int x1)] [(.int (0 : Int32)), (.ref b112), (.ref b112), (.ref b111), (.ref b111)])
  refine OGo.step (fun _ k => XS.iloadN X112.here hx rfl (hb hby d_method_2_34) rfl k) ?_
  show OGo p e below _ T112 (mkF m 35 #[.val (.int (Int32.ofNat 2)), .val (.int x0), .val (.int x1)] [(.int x0), (.int (0 : Int32)), (.ref b112), (.ref b112), (.ref b111), (.ref b111)])
  obtain ⟨T113, h113, X113, e113, W113, Vq113, st113⟩ := castoreV X112 hx hZ e112 V112 (j := (0 : Int32)) ⟨by decide, by decide⟩ (by decide) (g := (mkF m 35 #[.val (.int (Int32.ofNat 2)), .val (.int x0), .val (.int x1)] [(.int x0), (.int (0 : Int32)), (.ref b112), (.ref b112), (.ref b111), (.ref b111)])) rfl rfl (hb hby d_method_2_35)
  have q114 := (Safe.ext E112 H111 (Safe.new (Nat.le_of_eq g112.symm)))
  have N113 := Fr.snoc X113 N0 (Nat.le_trans Z0 sz_b112)
  have KK113 : Keep h0 h113 [] := KK112.wr W113 (Or.inr sz_b112)
  have H113 := CHv.wr W113 q114 H112
  have R113 := CHr.trans R112 (CHr.wr W113 q114 H112)
  have V113 : Arv Z h113 b112 k112 .char (2 : Int32) [(.int (nar .char x0)), (.int (0 : Int32))] (.int (0 : Int32)) := Vq113
  refine OGo.step st113 ?_
  show OGo p e below _ T113 (mkF m 36 #[.val (.int (Int32.ofNat 2)), .val (.int x0), .val (.int x1)] [(.ref b112), (.ref b111), (.ref b111)])
  refine OGo.step (fun _ k => XS.dup X113.here hx rfl (hb hby d_method_2_36) rfl rfl k) ?_
  show OGo p e below _ T113 (mkF m 37 #[.val (.int (Int32.ofNat 2)), .val (.int x0), .val (.int x1)] [(.ref b112), (.ref b112), (.ref b111), (.ref b111)])
  refine OGo.step (fun _ k => XS.iconst X113.here hx rfl (hb hby d_method_2_37) k) ?_
  show OGo p e below _ T113 (mkF m 38 #[.val (.int (Int32.ofNat 2)), .val (.int x0), .val (.int x1)] [(.int (1 : Int32)), (.ref b112), (.ref b112), (.ref b111), (.ref b111)])
  refine OGo.step (fun _ k => XS.iloadN X113.here hx rfl (hb hby d_method_2_38) rfl k) ?_
  show OGo p e below _ T113 (mkF m 39 #[.val (.int (Int32.ofNat 2)), .val (.int x0), .val (.int x1)] [(.int x1), (.int (1 : Int32)), (.ref b112), (.ref b112), (.ref b111), (.ref b111)])
  obtain ⟨T115, h115, X115, e115, W115, Vq115, st115⟩ := castoreV X113 hx hZ e113 V113 (j := (1 : Int32)) ⟨by decide, by decide⟩ (show (1 : Int32).toNatClampNeg < 2 by decide) (g := (mkF m 39 #[.val (.int (Int32.ofNat 2)), .val (.int x0), .val (.int x1)] [(.int x1), (.int (1 : Int32)), (.ref b112), (.ref b112), (.ref b111), (.ref b111)])) rfl rfl (hb hby d_method_2_39)
  have N115 := Fr.snoc X115 N113 (Nat.le_trans Z0 sz_b112)
  have KK115 : Keep h0 h115 [] := KK113.wr W115 (Or.inr sz_b112)
  have H115 := CHv.wr W115 (Safe.wr W113 q114 H112 q114) H113
  have R115 := CHr.trans R113 (CHr.wr W115 (Safe.wr W113 q114 H112 q114) H113)
  have V115 : Arv Z h115 b112 k112 .char (2 : Int32) [(.int (nar .char x0)), (.int (nar .char x1))] (.int (0 : Int32)) := Vq115
  refine OGo.step st115 ?_
  show OGo p e below _ T115 (mkF m 40 #[.val (.int (Int32.ofNat 2)), .val (.int x0), .val (.int x1)] [(.ref b112), (.ref b111), (.ref b111)])
  have Vc : Arv Z h115 b112 k112 .char (Int32.ofNat [x0, x1].length) ([x0, x1].map Value.int) (.int (0 : Int32)) := by have q := V115; rw [own_narc hx0, own_narc hx1] at q; exact q
  have q116 := ((((O.ext E111).ext E112).wr W113 (Nat.le_trans Z0 sz_b112)).wr W115 (Nat.le_trans Z0 sz_b112))
  have q117 := (((F111_coder.ext E112).other W113 (Or.inl (Nat.ne_of_lt (Nat.lt_of_lt_of_le F111_value.lt (Nat.le_of_eq g112.symm))))).other W115 (Or.inl (Nat.ne_of_lt (Nat.lt_of_lt_of_le F111_value.lt (Nat.le_of_eq g112.symm)))))
  have q118 := (((F111_value.ext E112).other W113 (Or.inl (Nat.ne_of_lt (Nat.lt_of_lt_of_le F111_value.lt (Nat.le_of_eq g112.symm))))).other W115 (Or.inl (Nat.ne_of_lt (Nat.lt_of_lt_of_le F111_value.lt (Nat.le_of_eq g112.symm)))))
  have q119 := (Safe.wr W115 (Safe.wr W113 q114 H112 q114) H113 (Safe.wr W113 q114 H112 (Safe.ext E112 H111 (Safe.ext E111 H0 (Safe.new (Nat.le_of_eq g111.symm))))))
  obtain ⟨v120, T120, L120, X120, hQ120, st120⟩ := icall X115 hx hZ rfl hown (hw _ (List.mem_of_getElem? (i := 8) rfl)) (hw _ (List.mem_of_getElem? (i := 9) rfl)) (hw _ (List.mem_of_getElem? (i := 6) rfl)) (hw _ (List.mem_of_getElem? (i := 10) rfl)) (by decide) (W := 1) (rm_new1 l Z a0 hw [] b111 b112 k112 [x0, x1] zc wf n0 h115 SS' q116 Vc (own_ok2 hx0 hx1) (show 2 < 2147483648 by decide) (show 2 ≤ 2 by decide) (((A111.ext E112).wr W113).wr W115) q117 q118 (Nat.le_trans Z0 sz_b111) (show ¬ Int32.ofNat 2 = 0 by decide) (Ne.symm (Nat.ne_of_lt (Nat.lt_of_lt_of_le F111_value.lt (Nat.le_of_eq g112.symm))))) e115 (by decide) (by decide) (by decide) (by decide) (g := (mkF m 40 #[.val (.int (Int32.ofNat 2)), .val (.int x0), .val (.int x1)] [(.ref b112), (.ref b111), (.ref b111)])) rfl (by rw [hml]; rfl) (a := b111) (argsL := [(.ref b112)]) (rest := [(.ref b111)]) opd_23 rfl rfl rfl (by show 2 * 0 + _ ≤ _; exact Nat.le_of_eq rfl) (hb hby d_method_2_40)
  obtain ⟨rfl, N120, K120, r120, kr120, sr120, I120⟩ := hQ120
  have NN120 := Fr.app N115 N120
  have KK120 : Keep h0 T120.heap [] := KK115.trans K120 (allS (Or.inr sz_b111) all0)
  have H120 := CHv.keep K120 (sfS q119 sf0) H115
  have R120 := CHr.trans R115 (CHr.keep K120 (sfS q119 sf0) H115)
  refine OGo.step st120 ?_
  show OGo p e below _ T120 (mkF m 43 #[.val (.int (Int32.ofNat 2)), .val (.int x0), .val (.int x1)] [(.ref b111)])
  exact OGo.retH X120 hx hZ (own_hEL hw) hs0 rfl hS0 (Nat.le_trans (Nat.le_trans (Nat.le_trans (Nat.le_trans (Nat.le_trans (Nat.zero_le _) E111.1) E112.1) (Nat.le_of_eq W113.size.symm)) (Nat.le_of_eq W115.size.symm)) K120.1) H120 R120 (t := (.object "java/lang/String")) hret hlk rfl (Or.inr (Or.inr (Or.inr (Or.inr ⟨rfl, rfl, rfl⟩)))) (hb hby d_method_2_43) (by decide) (by decide) ⟨b111, r120, _, rfl, sz_b111, NN120, KK120, I120⟩
theorem d_jdk_30_method_1_0 : decode jdk_30_method_1_code 0 = .ok (.aload_n 0, 1) := by decide +kernel
theorem d_jdk_30_method_1_1 : decode jdk_30_method_1_code 1 = .ok (.invokespecial 1, 3) := by decide +kernel
theorem d_jdk_30_method_1_4 : decode jdk_30_method_1_code 4 = .ok (.return_, 1) := by decide +kernel
theorem opl_rm_rec : plainFor (⟨"java/lang/Record", "<init>", "()V"⟩ : MethodName) = true := plainFor_of_name (by first | (simp [plainName, overriddenIn]; done) | decide +kernel)
set_option maxRecDepth 65536 in
set_option maxHeartbeats 40000000 in
theorem rm_rec (l : Launch) (Z : State) (a0 : Array Value) (hw : ∀ d ∈ tables_1, d.before a0 Z = true) (ws : List Jvm.Cond) (o : Addr) (h0 : Heap)  :
    Con l Z (⟨"java/lang/Record", "<init>", "()V"⟩ : MethodName) jdk_30_method_1_code 1 none ws ({ frames := 1, cells := 0, slots := 0, locals := 12 } : Room) #[(.ref o)] h0 (fun v h L => v = none ∧ L = [] ∧ h = h0) := by
  refine Con.intro opl_rm_rec ?_
  intro p e s m below meth c s₁ hx hby hml hown hret hlk hZ hnm X0 e0
  refine OGo.cast (g' := (mkF m 0 #[.val (.ref o)] [])) (by first | (simp [entryFrame, mkF, argsToLocals, Value.category]; done) | rfl) ?_
  show OGo p e below _ s₁ (mkF m 0 #[.val (.ref o)] [])
  refine OGo.step (fun _ k => XS.aloadN X0.here hx rfl (hb hby d_jdk_30_method_1_0) rfl rfl k) ?_
  show OGo p e below _ s₁ (mkF m 1 #[.val (.ref o)] [(.ref o)])
  obtain ⟨T121, X121, e121, st121⟩ := initO X0 hx hZ hown (hw _ (List.mem_of_getElem? (i := 37) rfl)) (hw _ (List.mem_of_getElem? (i := 16) rfl)) (hw _ (List.mem_of_getElem? (i := 17) rfl)) e0 (g := (mkF m 1 #[.val (.ref o)] [(.ref o)])) rfl (by rw [hml]; rfl) rfl (hb hby d_jdk_30_method_1_1) (by decide) (W := 0) (by show 2 * 0 + _ ≤ _; exact Nat.le_of_eq rfl) (by decide)
  refine OGo.step st121 ?_
  show OGo p e below _ T121 (mkF m 4 #[.val (.ref o)] [])
  exact OGo.retV X121 hx hret hlk (hb hby d_jdk_30_method_1_4) (by decide) (by decide) ⟨rfl, rfl, e121⟩
theorem d_prog_3_method_1_0 : decode prog_3_method_1_code 0 = .ok (.aload_n 0, 1) := by decide +kernel
theorem opd_25 : parseMethodDescriptor "()V" = some ⟨[], none⟩ := by decide +kernel
theorem d_prog_3_method_1_1 : decode prog_3_method_1_code 1 = .ok (.invokespecial 1, 3) := by decide +kernel
theorem d_prog_3_method_1_4 : decode prog_3_method_1_code 4 = .ok (.aload_n 0, 1) := by decide +kernel
theorem d_prog_3_method_1_5 : decode prog_3_method_1_code 5 = .ok (.aload_n 1, 1) := by decide +kernel
theorem d_prog_3_method_1_6 : decode prog_3_method_1_code 6 = .ok (.putfield 7, 3) := by decide +kernel
theorem d_prog_3_method_1_9 : decode prog_3_method_1_code 9 = .ok (.aload_n 0, 1) := by decide +kernel
theorem d_prog_3_method_1_10 : decode prog_3_method_1_code 10 = .ok (.aload_n 2, 1) := by decide +kernel
theorem d_prog_3_method_1_11 : decode prog_3_method_1_code 11 = .ok (.putfield 13, 3) := by decide +kernel
theorem d_prog_3_method_1_14 : decode prog_3_method_1_code 14 = .ok (.aload_n 0, 1) := by decide +kernel
theorem d_prog_3_method_1_15 : decode prog_3_method_1_code 15 = .ok (.iload_n 3, 1) := by decide +kernel
theorem d_prog_3_method_1_16 : decode prog_3_method_1_code 16 = .ok (.putfield 16, 3) := by decide +kernel
theorem d_prog_3_method_1_19 : decode prog_3_method_1_code 19 = .ok (.return_, 1) := by decide +kernel
theorem opl_rm_opt : plainFor (⟨"com/example/fenced_rbac/fencedrbac/cli/Options$Option", "<init>", "(Ljava/lang/String;Ljava/lang/String;Z)V"⟩ : MethodName) = true := plainFor_of_name (by first | (simp [plainName, overriddenIn]; done) | decide +kernel)
set_option maxRecDepth 65536 in
set_option maxHeartbeats 40000000 in
theorem rm_opt (l : Launch) (Z : State) (a0 : Array Value) (hw : ∀ d ∈ tables_1, d.before a0 Z = true) (ws : List Jvm.Cond) (o a1 a2 : Addr) (mz : Int32) (n0 : Nat) (h0 : Heap) (E : Exa Z h0 o "com/example/fenced_rbac/fencedrbac/cli/Options$Option") (Fn : Fld Z h0 o "com/example/fenced_rbac/fencedrbac/cli/Options$Option" "name" "Ljava/lang/String;" .null) (Fv : Fld Z h0 o "com/example/fenced_rbac/fencedrbac/cli/Options$Option" "value" "Ljava/lang/String;" .null) (Fm : Fld Z h0 o "com/example/fenced_rbac/fencedrbac/cli/Options$Option" "mandatory" "Z" (.int (0 : Int32))) (g_o : n0 ≤ o) (hm01 : mz = 0 ∨ mz = 1) :
    Con l Z (⟨"com/example/fenced_rbac/fencedrbac/cli/Options$Option", "<init>", "(Ljava/lang/String;Ljava/lang/String;Z)V"⟩ : MethodName) prog_3_method_1_code 4 none ws ({ frames := 2, cells := 0, slots := 0, locals := 24 } : Room) #[(.ref o), (.ref a1), (.ref a2), (.int mz)] h0 (fun v h L => v = none ∧ Fr n0 L ∧ Keep h0 h [o] ∧ Exa Z h o "com/example/fenced_rbac/fencedrbac/cli/Options$Option" ∧ Fld Z h o "com/example/fenced_rbac/fencedrbac/cli/Options$Option" "name" "Ljava/lang/String;" (.ref a1) ∧ Fld Z h o "com/example/fenced_rbac/fencedrbac/cli/Options$Option" "value" "Ljava/lang/String;" (.ref a2) ∧ Fld Z h o "com/example/fenced_rbac/fencedrbac/cli/Options$Option" "mandatory" "Z" (.int mz)) := by
  refine Con.intro opl_rm_opt ?_
  intro p e s m below meth c s₁ hx hby hml hown hret hlk hZ hnm X0 e0
  have N0 := Fr.nil n0
  have hmz : narrow .boolean (.int mz) = .int mz := by rcases hm01 with rfl | rfl <;> rfl
  refine OGo.cast (g' := (mkF m 0 #[.val (.ref o), .val (.ref a1), .val (.ref a2), .val (.int mz)] [])) (by first | (simp [entryFrame, mkF, argsToLocals, Value.category]; done) | rfl) ?_
  show OGo p e below _ s₁ (mkF m 0 #[.val (.ref o), .val (.ref a1), .val (.ref a2), .val (.int mz)] [])
  refine OGo.step (fun _ k => XS.aloadN X0.here hx rfl (hb hby d_prog_3_method_1_0) rfl rfl k) ?_
  show OGo p e below _ s₁ (mkF m 1 #[.val (.ref o), .val (.ref a1), .val (.ref a2), .val (.int mz)] [(.ref o)])
  obtain ⟨v122, T122, L122, X122, hQ122, st122⟩ := icall X0 hx hZ rfl hown (hw _ (List.mem_of_getElem? (i := 32) rfl)) (hw _ (List.mem_of_getElem? (i := 33) rfl)) (hw _ (List.mem_of_getElem? (i := 35) rfl)) (hw _ (List.mem_of_getElem? (i := 36) rfl)) (by decide) (W := 0) (rm_rec l Z a0 hw [] o h0 ) e0 (by decide) (by decide) (by decide) (by decide) (g := (mkF m 1 #[.val (.ref o), .val (.ref a1), .val (.ref a2), .val (.int mz)] [(.ref o)])) rfl (by rw [hml]; rfl) (a := o) (argsL := []) (rest := []) opd_25 rfl rfl rfl (by show 2 * 0 + _ ≤ _; exact Nat.le_of_eq rfl) (hb hby d_prog_3_method_1_1)
  obtain ⟨rfl, rfl, e122⟩ := hQ122
  rw [List.append_nil] at X122
  refine OGo.step st122 ?_
  show OGo p e below _ T122 (mkF m 4 #[.val (.ref o), .val (.ref a1), .val (.ref a2), .val (.int mz)] [])
  refine OGo.step (fun _ k => XS.aloadN X122.here hx rfl (hb hby d_prog_3_method_1_4) rfl rfl k) ?_
  show OGo p e below _ T122 (mkF m 5 #[.val (.ref o), .val (.ref a1), .val (.ref a2), .val (.int mz)] [(.ref o)])
  refine OGo.step (fun _ k => XS.aloadN X122.here hx rfl (hb hby d_prog_3_method_1_5) rfl rfl k) ?_
  show OGo p e below _ T122 (mkF m 6 #[.val (.ref o), .val (.ref a1), .val (.ref a2), .val (.int mz)] [(.ref a1), (.ref o)])
  obtain ⟨T123, h123, X123, e123, W123, st123⟩ := putF X122 hx hZ hown (host := "") (Or.inl (hw _ (List.mem_of_getElem? (i := 38) rfl))) Via.refl e122 Fn E (Or.inr ⟨(hw _ (List.mem_of_getElem? (i := 39) rfl)), rfl, hnm⟩) (hw _ (List.mem_of_getElem? (i := 27) rfl)) (ty := (.object "java/lang/String")) (by decide) rfl rfl (g := (mkF m 6 #[.val (.ref o), .val (.ref a1), .val (.ref a2), .val (.int mz)] [(.ref a1), (.ref o)])) rfl rfl (hb hby d_prog_3_method_1_6)
  have Fw123 := Fn.same W123
  have N123 := Fr.snoc X123 N0 g_o
  have KK123 : Keep h0 h123 [o] := (Keep.refl h0 [o]).wr W123 (Or.inl (List.mem_of_getElem? (i := 0) rfl))
  refine OGo.step st123 ?_
  show OGo p e below _ T123 (mkF m 9 #[.val (.ref o), .val (.ref a1), .val (.ref a2), .val (.int mz)] [])
  refine OGo.step (fun _ k => XS.aloadN X123.here hx rfl (hb hby d_prog_3_method_1_9) rfl rfl k) ?_
  show OGo p e below _ T123 (mkF m 10 #[.val (.ref o), .val (.ref a1), .val (.ref a2), .val (.int mz)] [(.ref o)])
  refine OGo.step (fun _ k => XS.aloadN X123.here hx rfl (hb hby d_prog_3_method_1_10) rfl rfl k) ?_
  show OGo p e below _ T123 (mkF m 11 #[.val (.ref o), .val (.ref a1), .val (.ref a2), .val (.int mz)] [(.ref a2), (.ref o)])
  have q125 := (Fv.other W123 (Or.inr (slot_ne (Or.inr (hw _ (List.mem_of_getElem? (i := 41) rfl))) (Or.inr (hw _ (List.mem_of_getElem? (i := 39) rfl))) (by decide) (t := (.object "java/lang/String")) (t' := (.object "java/lang/String")) (by decide) (by decide))))
  obtain ⟨T124, h124, X124, e124, W124, st124⟩ := putF X123 hx hZ hown (host := "") (Or.inl (hw _ (List.mem_of_getElem? (i := 40) rfl))) Via.refl e123 q125 (E.wr W123) (Or.inr ⟨(hw _ (List.mem_of_getElem? (i := 41) rfl)), rfl, hnm⟩) (hw _ (List.mem_of_getElem? (i := 27) rfl)) (ty := (.object "java/lang/String")) (by decide) rfl rfl (g := (mkF m 11 #[.val (.ref o), .val (.ref a1), .val (.ref a2), .val (.int mz)] [(.ref a2), (.ref o)])) rfl rfl (hb hby d_prog_3_method_1_11)
  have Fw124 := q125.same W124
  have N124 := Fr.snoc X124 N123 g_o
  have KK124 : Keep h0 h124 [o] := KK123.wr W124 (Or.inl (List.mem_of_getElem? (i := 0) rfl))
  refine OGo.step st124 ?_
  show OGo p e below _ T124 (mkF m 14 #[.val (.ref o), .val (.ref a1), .val (.ref a2), .val (.int mz)] [])
  refine OGo.step (fun _ k => XS.aloadN X124.here hx rfl (hb hby d_prog_3_method_1_14) rfl rfl k) ?_
  show OGo p e below _ T124 (mkF m 15 #[.val (.ref o), .val (.ref a1), .val (.ref a2), .val (.int mz)] [(.ref o)])
  refine OGo.step (fun _ k => XS.iloadN X124.here hx rfl (hb hby d_prog_3_method_1_15) rfl k) ?_
  show OGo p e below _ T124 (mkF m 16 #[.val (.ref o), .val (.ref a1), .val (.ref a2), .val (.int mz)] [(.int mz), (.ref o)])
  have q127 := ((Fm.other W123 (Or.inr (slot_ne (Or.inr (hw _ (List.mem_of_getElem? (i := 43) rfl))) (Or.inr (hw _ (List.mem_of_getElem? (i := 39) rfl))) (by decide) (t := .boolean) (t' := (.object "java/lang/String")) (by decide) (by decide)))).other W124 (Or.inr (slot_ne (Or.inr (hw _ (List.mem_of_getElem? (i := 43) rfl))) (Or.inr (hw _ (List.mem_of_getElem? (i := 41) rfl))) (by decide) (t := .boolean) (t' := (.object "java/lang/String")) (by decide) (by decide))))
  obtain ⟨T126, h126, X126, e126, W126, st126⟩ := putFN X124 hx hZ hown (hw _ (List.mem_of_getElem? (i := 42) rfl)) Via.refl e124 q127 ((E.wr W123).wr W124) (Or.inr ⟨(hw _ (List.mem_of_getElem? (i := 43) rfl)), rfl, hnm⟩) (hw _ (List.mem_of_getElem? (i := 27) rfl)) (ty := .boolean) (v' := (.int mz)) (by decide) hmz (by rcases hm01 with rfl | rfl <;> decide) (g := (mkF m 16 #[.val (.ref o), .val (.ref a1), .val (.ref a2), .val (.int mz)] [(.int mz), (.ref o)])) rfl rfl (hb hby d_prog_3_method_1_16)
  have Fw126 := q127.same W126
  have N126 := Fr.snoc X126 N124 g_o
  have KK126 : Keep h0 h126 [o] := KK124.wr W126 (Or.inl (List.mem_of_getElem? (i := 0) rfl))
  refine OGo.step st126 ?_
  show OGo p e below _ T126 (mkF m 19 #[.val (.ref o), .val (.ref a1), .val (.ref a2), .val (.int mz)] [])
  have q128 := ((Fw123.other W124 (Or.inr (slot_ne (Or.inr (hw _ (List.mem_of_getElem? (i := 39) rfl))) (Or.inr (hw _ (List.mem_of_getElem? (i := 41) rfl))) (by decide) (t := (.object "java/lang/String")) (t' := (.object "java/lang/String")) (by decide) (by decide)))).other W126 (Or.inr (slot_ne (Or.inr (hw _ (List.mem_of_getElem? (i := 39) rfl))) (Or.inr (hw _ (List.mem_of_getElem? (i := 43) rfl))) (by decide) (t := (.object "java/lang/String")) (t' := .boolean) (by decide) (by decide))))
  have q129 := (Fw124.other W126 (Or.inr (slot_ne (Or.inr (hw _ (List.mem_of_getElem? (i := 41) rfl))) (Or.inr (hw _ (List.mem_of_getElem? (i := 43) rfl))) (by decide) (t := (.object "java/lang/String")) (t' := .boolean) (by decide) (by decide))))
  exact OGo.retV X126 hx hret hlk (hb hby d_prog_3_method_1_19) (by decide) (by decide) (by rw [e126]; exact ⟨rfl, N126, KK126, (((E.wr W123).wr W124).wr W126), q128, q129, Fw126⟩)
theorem d_prog_3_method_4_0 : decode prog_3_method_4_code 0 = .ok (.new 23, 3) := by decide +kernel
theorem d_prog_3_method_4_3 : decode prog_3_method_4_code 3 = .ok (.dup, 1) := by decide +kernel
theorem d_prog_3_method_4_4 : decode prog_3_method_4_code 4 = .ok (.invokespecial 25, 3) := by decide +kernel
theorem d_prog_3_method_4_7 : decode prog_3_method_4_code 7 = .ok (.aload_n 0, 1) := by decide +kernel
theorem d_prog_3_method_4_8 : decode prog_3_method_4_code 8 = .ok (.getfield 7, 3) := by decide +kernel
theorem opd_26 : parseMethodDescriptor "(Ljava/lang/String;)Ljava/lang/StringBuilder;" = some ⟨[(.object "java/lang/String")], some (.object "java/lang/StringBuilder")⟩ := by decide +kernel
theorem d_prog_3_method_4_11 : decode prog_3_method_4_code 11 = .ok (.invokevirtual 26, 3) := by decide +kernel
theorem d_prog_3_method_4_14 : decode prog_3_method_4_code 14 = .ok (.ldc 30, 2) := by decide +kernel
theorem d_prog_3_method_4_16 : decode prog_3_method_4_code 16 = .ok (.invokevirtual 26, 3) := by decide +kernel
theorem d_prog_3_method_4_19 : decode prog_3_method_4_code 19 = .ok (.aload_n 0, 1) := by decide +kernel
theorem d_prog_3_method_4_20 : decode prog_3_method_4_code 20 = .ok (.getfield 13, 3) := by decide +kernel
theorem d_prog_3_method_4_23 : decode prog_3_method_4_code 23 = .ok (.invokevirtual 26, 3) := by decide +kernel
theorem opd_27 : parseMethodDescriptor "()Ljava/lang/String;" = some ⟨[], some (.object "java/lang/String")⟩ := by decide +kernel
theorem d_prog_3_method_4_26 : decode prog_3_method_4_code 26 = .ok (.invokevirtual 32, 3) := by decide +kernel
theorem d_prog_3_method_4_29 : decode prog_3_method_4_code 29 = .ok (.astore_n 1, 1) := by decide +kernel
theorem d_prog_3_method_4_30 : decode prog_3_method_4_code 30 = .ok (.aload_n 0, 1) := by decide +kernel
theorem d_prog_3_method_4_31 : decode prog_3_method_4_code 31 = .ok (.getfield 16, 3) := by decide +kernel
theorem d_prog_3_method_4_34 : decode prog_3_method_4_code 34 = .ok (.ifCond .eq 7, 3) := by decide +kernel
theorem d_prog_3_method_4_41 : decode prog_3_method_4_code 41 = .ok (.new 23, 3) := by decide +kernel
theorem d_prog_3_method_4_44 : decode prog_3_method_4_code 44 = .ok (.dup, 1) := by decide +kernel
theorem d_prog_3_method_4_45 : decode prog_3_method_4_code 45 = .ok (.invokespecial 25, 3) := by decide +kernel
theorem d_prog_3_method_4_48 : decode prog_3_method_4_code 48 = .ok (.ldc 36, 2) := by decide +kernel
theorem d_prog_3_method_4_50 : decode prog_3_method_4_code 50 = .ok (.invokevirtual 26, 3) := by decide +kernel
theorem d_prog_3_method_4_53 : decode prog_3_method_4_code 53 = .ok (.aload_n 1, 1) := by decide +kernel
theorem d_prog_3_method_4_54 : decode prog_3_method_4_code 54 = .ok (.invokevirtual 26, 3) := by decide +kernel
theorem d_prog_3_method_4_57 : decode prog_3_method_4_code 57 = .ok (.ldc 38, 2) := by decide +kernel
theorem d_prog_3_method_4_59 : decode prog_3_method_4_code 59 = .ok (.invokevirtual 26, 3) := by decide +kernel
theorem d_prog_3_method_4_62 : decode prog_3_method_4_code 62 = .ok (.invokevirtual 32, 3) := by decide +kernel
theorem d_prog_3_method_4_65 : decode prog_3_method_4_code 65 = .ok (.areturn, 1) := by decide +kernel
theorem d_prog_3_method_4_37 : decode prog_3_method_4_code 37 = .ok (.aload_n 1, 1) := by decide +kernel
theorem d_prog_3_method_4_38 : decode prog_3_method_4_code 38 = .ok (.goto 27, 3) := by decide +kernel
theorem opl_rm_usage : plainFor (⟨"com/example/fenced_rbac/fencedrbac/cli/Options$Option", "usage", "()Ljava/lang/String;"⟩ : MethodName) = true := plainFor_of_name (by first | (simp [plainName, overriddenIn]; done) | decide +kernel)
set_option maxRecDepth 65536 in
set_option maxHeartbeats 40000000 in
theorem rm_usage (l : Launch) (Z : State) (a0 : Array Value) (hw : ∀ d ∈ tables_1, d.before a0 Z = true) (ws : List Jvm.Cond) (o a1 e1 a2 e2 : Addr) (k1 k2 : ClassId) (us vs : List Value) (mz : Int32) (zc : Int32) (wf : Value) (n0 : Nat) (h0 : Heap) (SS : own_SS Z zc wf) (O : Old Z n0 h0) (I : STI Z h0 a1 e1 k1 us) (J : STI Z h0 a2 e2 k2 vs) (F1 : Fld Z h0 o "com/example/fenced_rbac/fencedrbac/cli/Options$Option" "name" "Ljava/lang/String;" (.ref a1)) (F2 : Fld Z h0 o "com/example/fenced_rbac/fencedrbac/cli/Options$Option" "value" "Ljava/lang/String;" (.ref a2)) (F3 : Fld Z h0 o "com/example/fenced_rbac/fencedrbac/cli/Options$Option" "mandatory" "Z" (.int mz)) (hu : us.length ≤ 2) (hv : vs.length ≤ 2) :
    ConH l Z own_EL (⟨"com/example/fenced_rbac/fencedrbac/cli/Options$Option", "usage", "()Ljava/lang/String;"⟩ : MethodName) prog_3_method_4_code 2 (some (.object "java/lang/String")) ws ({ frames := 6, cells := 14, slots := 88, locals := 102 } : Room) #[(.ref o)] h0 (fun v h L => ∃ a r k', v = some (.ref a) ∧ Fr n0 L ∧ Keep h0 h [] ∧ STI Z h a r k' (own_us mz us vs)) := by
  refine ConH.intro opl_rm_usage ?_
  intro p e s m below meth c s₁ hx hby hml hown hret hlk hZ hnm X0 e0 hs0 hS0 H0 R0
  have SS' := SS
  obtain ⟨hzc, SC, hwf, SF⟩ := SS
  have Z0 : n0 ≤ h0.size := O.1 ▸ O.2.1
  have N0 := Fr.nil n0
  obtain ⟨IE, IC, IF, IV⟩ := I
  obtain ⟨JE, JC, JF, JV⟩ := J
  refine OGo.cast (g' := (mkF m 0 #[.val (.ref o), .unset] [])) (by first | (simp [entryFrame, mkF, argsToLocals, Value.category]; done) | rfl) ?_
  show OGo p e below _ s₁ (mkF m 0 #[.val (.ref o), .unset] [])
  obtain ⟨T130, h130, X130, e130, E130, A130, D130, -, st130⟩ := newO X0 hx hZ hown (hw _ (List.mem_of_getElem? (i := 49) rfl)) (hw _ (List.mem_of_getElem? (i := 50) rfl)) (hw _ (List.mem_of_getElem? (i := 51) rfl)) e0 (g := (mkF m 0 #[.val (.ref o), .unset] [])) rfl (hb hby d_prog_3_method_4_0) (by decide) (by decide)
  obtain ⟨b130, g130⟩ : ∃ z, z = h0.size := ⟨_, rfl⟩
  rw [← g130] at A130 D130 st130
  have sz_b130 : h0.size ≤ b130 := Nat.le_trans (Keep.refl h0 []).1 (Nat.le_of_eq g130.symm)
  have KK130 : Keep h0 h130 [] := (Keep.refl h0 []).ext E130
  have H130 := CHv.ext E130 H0
  have R130 := CHr.trans R0 (CHr.ext E130 H0)
  have F130_value : Fld Z h130 b130 "java/lang/AbstractStringBuilder" "value" "[B" .null := D130 (Or.inl (hw _ (List.mem_of_getElem? (i := 64) rfl))) (ty := (.array .byte)) (by decide)
  have F130_coder : Fld Z h130 b130 "java/lang/AbstractStringBuilder" "coder" "B" (.int (0 : Int32)) := D130 (Or.inl (hw _ (List.mem_of_getElem? (i := 66) rfl))) (ty := .byte) (by decide)
  have F130_count : Fld Z h130 b130 "java/lang/AbstractStringBuilder" "count" "I" (.int (0 : Int32)) := D130 (Or.inl (hw _ (List.mem_of_getElem? (i := 89) rfl))) (ty := .int) (by decide)
  refine OGo.step st130 ?_
  show OGo p e below _ T130 (mkF m 3 #[.val (.ref o), .unset] [(.ref b130)])
  refine OGo.step (fun _ k => XS.dup X130.here hx rfl (hb hby d_prog_3_method_4_3) rfl rfl k) ?_
  show OGo p e below _ T130 (mkF m 4 #[.val (.ref o), .unset] [(.ref b130), (.ref b130)])
  have q131 := (Safe.ext E130 H0 (Safe.new (Nat.le_of_eq g130.symm)))
  obtain ⟨v132, T132, L132, X132, hQ132, st132⟩ := icall X130 hx hZ rfl hown (hw _ (List.mem_of_getElem? (i := 52) rfl)) (hw _ (List.mem_of_getElem? (i := 53) rfl)) (hw _ (List.mem_of_getElem? (i := 51) rfl)) (hw _ (List.mem_of_getElem? (i := 54) rfl)) (by decide) (W := 1) (rm_sbInit l Z a0 hw [] b130 zc wf n0 h130 SS' (O.ext E130) A130 F130_value F130_coder F130_count (Nat.le_trans Z0 sz_b130)) e130 (by decide) (by decide) (by decide) (by decide) (g := (mkF m 4 #[.val (.ref o), .unset] [(.ref b130), (.ref b130)])) rfl (by rw [hml]; rfl) (a := b130) (argsL := []) (rest := [(.ref b130)]) opd_25 rfl rfl rfl (by show 2 * 0 + _ ≤ _; exact Nat.le_of_eq rfl) (hb hby d_prog_3_method_4_4)
  obtain ⟨rfl, N132, K132, d132, k132, sd132, J132⟩ := hQ132
  have NN132 := Fr.app N0 N132
  have KK132 : Keep h0 T132.heap [] := KK130.trans K132 (allS (Or.inr sz_b130) all0)
  have H132 := CHv.keep K132 (sfS q131 sf0) H130
  have R132 := CHr.trans R130 (CHr.keep K132 (sfS q131 sf0) H130)
  have sz_d132 : h0.size ≤ d132 := Nat.le_trans KK130.1 sd132
  refine OGo.step st132 ?_
  show OGo p e below _ T132 (mkF m 7 #[.val (.ref o), .unset] [(.ref b130)])
  obtain ⟨JE132, JF132, JC132, JN132, JV132⟩ := J132
  refine OGo.step (fun _ k => XS.aloadN X132.here hx rfl (hb hby d_prog_3_method_4_7) rfl rfl k) ?_
  show OGo p e below _ T132 (mkF m 8 #[.val (.ref o), .unset] [(.ref o), (.ref b130)])
  have q134 := ((F1.ext E130).keep K132 (ninS (Nat.ne_of_lt (Nat.lt_of_lt_of_le F1.lt (Nat.le_of_eq g130.symm))) nin0))
  obtain ⟨T133, X133, e133, st133⟩ := getF X132 hx hZ hown (host := "") (Or.inl (hw _ (List.mem_of_getElem? (i := 38) rfl))) Via.refl rfl q134 (g := (mkF m 8 #[.val (.ref o), .unset] [(.ref o), (.ref b130)])) rfl rfl (hb hby d_prog_3_method_4_8)
  refine OGo.step st133 ?_
  show OGo p e below _ T133 (mkF m 11 #[.val (.ref o), .unset] [(.ref a1), (.ref b130)])
  have q135 := ((O.ext E130).keep K132 (allS (Nat.le_trans Z0 sz_b130) all0))
  have q136 := ((IC.ext E130).keep K132 (ninS (Nat.ne_of_lt (Nat.lt_of_lt_of_le IE.lt (Nat.le_of_eq g130.symm))) nin0))
  have q137 := ((IF.ext E130).keep K132 (ninS (Nat.ne_of_lt (Nat.lt_of_lt_of_le IE.lt (Nat.le_of_eq g130.symm))) nin0))
  have q138 := ((IV.ext E130).keep K132 (ninS (Nat.ne_of_lt (Nat.lt_of_lt_of_le IV.lt (Nat.le_of_eq g130.symm))) nin0))
  have q139 := (Safe.keep K132 (sfS q131 sf0) H130 q131)
  have q140 := (Safe.keep K132 (sfS q131 sf0) H130 (Safe.new sd132))
  obtain ⟨v141, T141, L141, X141, hQ141, st141⟩ := vcall X133 hx hZ hown (hw _ (List.mem_of_getElem? (i := 67) rfl)) (hw _ (List.mem_of_getElem? (i := 68) rfl)) (hw _ (List.mem_of_getElem? (i := 70) rfl)) rfl (hw _ (List.mem_of_getElem? (i := 70) rfl)) (hw _ (List.mem_of_getElem? (i := 69) rfl)) (hw _ (List.mem_of_getElem? (i := 51) rfl)) (hw _ (List.mem_of_getElem? (i := 71) rfl)) (by decide) (W := 0) (rm_sbApp l Z a0 hw [] b130 d132 k132 (16 : Int32) [] a1 e1 k1 us zc wf n0 T132.heap SS' q135 ⟨JE132, JF132, JC132, JN132, JV132⟩ ⟨((IE.ext E130).keep K132), q136, q137, q138⟩ (Nat.le_trans Z0 sz_b130) (Nat.le_trans Z0 sz_d132) (by rw [own_16]; (try simp only [List.length_append, List.length_nil, List.length_cons]); omega) (by (try simp only [List.length_append, List.length_nil, List.length_cons]); omega) (by (try simp only [List.length_append, List.length_nil, List.length_cons]); omega) (Nat.ne_of_lt (Nat.lt_of_lt_of_le (IV.ext E130).lt sd132)) (Nat.ne_of_lt (Nat.lt_of_lt_of_le IE.lt (Nat.le_of_eq g130.symm))) (by decide)) e133 (by decide) (by decide) (by decide) (by decide) (g := (mkF m 11 #[.val (.ref o), .unset] [(.ref a1), (.ref b130)])) rfl (by rw [hml]; rfl) JE132 (argsL := [(.ref a1)]) (rest := []) opd_26 rfl rfl rfl (by show 2 * 0 + _ ≤ _; exact Nat.le_of_eq rfl) (hb hby d_prog_3_method_4_11)
  obtain ⟨rfl, N141, K141, J141⟩ := hQ141
  have NN141 := Fr.app NN132 N141
  have KK141 : Keep h0 T141.heap [] := KK132.trans K141 (allS (Or.inr sz_b130) (allS (Or.inr sz_d132) all0))
  have H141 := CHv.keep K141 (sfS q139 (sfS q140 sf0)) H132
  have R141 := CHr.trans R132 (CHr.keep K141 (sfS q139 (sfS q140 sf0)) H132)
  refine OGo.step st141 ?_
  show OGo p e below _ T141 (mkF m 14 #[.val (.ref o), .unset] [(.ref b130)])
  obtain ⟨JE141, JF141, JC141, JN141, JV141⟩ := J141
  obtain ⟨a142, T142, h142, kk142, d142, kd142, X142, e142, E142, hS142, hk142, hZ142, hown142, A142, C142, F142, V142, lt142, ltd142, CR142, Li142, sf142, st142⟩ := ldcCH X141 hx hZ hown (hw _ (List.mem_of_getElem? (i := 115) rfl)) (own_wS hw) rfl hS0 (Nat.le_trans (Nat.le_trans (Nat.le_trans (Nat.zero_le _) E130.1) K132.1) K141.1) (own_hEL hw) (List.mem_of_getElem? (i := 0) rfl) H141 (vs := [(.int (32 : Int32))]) (z := (1 : Int32)) (by decide) (by decide) (by decide) (g := (mkF m 14 #[.val (.ref o), .unset] [(.ref b130)])) rfl (hb hby d_prog_3_method_4_14) (n := 4) (by decide) (by decide) (by decide) (by decide)
  have KK142 : Keep h0 h142 [] := KK141.ext E142
  have H142 := CR142.1
  have R142 := CHr.trans R141 CR142
  refine OGo.step st142 ?_
  show OGo p e below _ T142 (mkF m 16 #[.val (.ref o), .unset] [(.ref a142), (.ref b130)])
  have q143 := ((q135.keep K141 (allS (Nat.le_trans Z0 sz_b130) (allS (Nat.le_trans Z0 sz_d132) all0))).ext E142)
  have q144 := (CHr.safe CR142 JV141.lt (Safe.keep K141 (sfS q139 (sfS q140 sf0)) H132 q140))
  have q145 := (CHr.safe CR142 JF141.lt (Safe.keep K141 (sfS q139 (sfS q140 sf0)) H132 q139))
  obtain ⟨v146, T146, L146, X146, hQ146, st146⟩ := vcall X142 hx hZ142 hown142 (hw _ (List.mem_of_getElem? (i := 67) rfl)) (hw _ (List.mem_of_getElem? (i := 68) rfl)) (hw _ (List.mem_of_getElem? (i := 70) rfl)) rfl (hw _ (List.mem_of_getElem? (i := 70) rfl)) (hw _ (List.mem_of_getElem? (i := 69) rfl)) (hw _ (List.mem_of_getElem? (i := 51) rfl)) (hw _ (List.mem_of_getElem? (i := 71) rfl)) (by decide) (W := 0) (rm_sbApp l Z a0 hw [] b130 d132 k132 (16 : Int32) ([] ++ us) a142 d142 kd142 [(.int (32 : Int32))] zc wf n0 h142 SS' q143 ⟨(JE141.ext E142), (JF141.ext E142), (JC141.ext E142), (JN141.ext E142), (JV141.ext E142)⟩ ⟨A142, C142, F142, V142⟩ (Nat.le_trans Z0 sz_b130) (Nat.le_trans Z0 sz_d132) (by rw [own_16]; (try simp only [List.length_append, List.length_nil, List.length_cons]); omega) (by (try simp only [List.length_append, List.length_nil, List.length_cons]); omega) (by (try simp only [List.length_append, List.length_nil, List.length_cons]); omega) (Ne.symm (sf142 _ q144).2) (Ne.symm (sf142 _ q145).1) (by decide)) e142 (by decide) (by decide) (by decide) (by decide) (g := (mkF m 16 #[.val (.ref o), .unset] [(.ref a142), (.ref b130)])) rfl (by rw [hml]; rfl) (JE141.ext E142) (argsL := [(.ref a142)]) (rest := []) opd_26 rfl rfl rfl (by show 2 * 0 + _ ≤ _; exact Nat.le_of_eq rfl) (hb hby d_prog_3_method_4_16)
  obtain ⟨rfl, N146, K146, J146⟩ := hQ146
  have NN146 := Fr.app NN141 N146
  have KK146 : Keep h0 T146.heap [] := KK142.trans K146 (allS (Or.inr sz_b130) (allS (Or.inr sz_d132) all0))
  have H146 := CHv.keep K146 (sfS q145 (sfS q144 sf0)) H142
  have R146 := CHr.trans R142 (CHr.keep K146 (sfS q145 (sfS q144 sf0)) H142)
  refine OGo.step st146 ?_
  show OGo p e below _ T146 (mkF m 19 #[.val (.ref o), .unset] [(.ref b130)])
  obtain ⟨JE146, JF146, JC146, JN146, JV146⟩ := J146
  refine OGo.step (fun _ k => XS.aloadN X146.here hx rfl (hb hby d_prog_3_method_4_19) rfl rfl k) ?_
  show OGo p e below _ T146 (mkF m 20 #[.val (.ref o), .unset] [(.ref o), (.ref b130)])
  have q148 := (((((F2.ext E130).keep K132 (ninS (Nat.ne_of_lt (Nat.lt_of_lt_of_le F1.lt (Nat.le_of_eq g130.symm))) nin0)).keep K141 (ninS (Nat.ne_of_lt (Nat.lt_of_lt_of_le F1.lt (Nat.le_of_eq g130.symm))) (ninS (Nat.ne_of_lt (Nat.lt_of_lt_of_le (F1.ext E130).lt sd132)) nin0))).ext E142).keep K146 (ninS (Nat.ne_of_lt (Nat.lt_of_lt_of_le F1.lt (Nat.le_of_eq g130.symm))) (ninS (Nat.ne_of_lt (Nat.lt_of_lt_of_le (F1.ext E130).lt sd132)) nin0)))
  obtain ⟨T147, X147, e147, st147⟩ := getF X146 hx hZ142 hown142 (host := "") (Or.inl (hw _ (List.mem_of_getElem? (i := 40) rfl))) Via.refl rfl q148 (g := (mkF m 20 #[.val (.ref o), .unset] [(.ref o), (.ref b130)])) rfl rfl (hb hby d_prog_3_method_4_20)
  refine OGo.step st147 ?_
  show OGo p e below _ T147 (mkF m 23 #[.val (.ref o), .unset] [(.ref a2), (.ref b130)])
  have q149 := (q143.keep K146 (allS (Nat.le_trans Z0 sz_b130) (allS (Nat.le_trans Z0 sz_d132) all0)))
  have q150 := (((((JE.ext E130).keep K132).keep K141).ext E142).keep K146)
  have q151 := (((((JC.ext E130).keep K132 (ninS (Nat.ne_of_lt (Nat.lt_of_lt_of_le JE.lt (Nat.le_of_eq g130.symm))) nin0)).keep K141 (ninS (Nat.ne_of_lt (Nat.lt_of_lt_of_le JE.lt (Nat.le_of_eq g130.symm))) (ninS (Nat.ne_of_lt (Nat.lt_of_lt_of_le (JE.ext E130).lt sd132)) nin0))).ext E142).keep K146 (ninS (Nat.ne_of_lt (Nat.lt_of_lt_of_le JE.lt (Nat.le_of_eq g130.symm))) (ninS (Nat.ne_of_lt (Nat.lt_of_lt_of_le (JE.ext E130).lt sd132)) nin0)))
  have q152 := (((((JF.ext E130).keep K132 (ninS (Nat.ne_of_lt (Nat.lt_of_lt_of_le JE.lt (Nat.le_of_eq g130.symm))) nin0)).keep K141 (ninS (Nat.ne_of_lt (Nat.lt_of_lt_of_le JE.lt (Nat.le_of_eq g130.symm))) (ninS (Nat.ne_of_lt (Nat.lt_of_lt_of_le (JE.ext E130).lt sd132)) nin0))).ext E142).keep K146 (ninS (Nat.ne_of_lt (Nat.lt_of_lt_of_le JE.lt (Nat.le_of_eq g130.symm))) (ninS (Nat.ne_of_lt (Nat.lt_of_lt_of_le (JE.ext E130).lt sd132)) nin0)))
  have q153 := (((((JV.ext E130).keep K132 (ninS (Nat.ne_of_lt (Nat.lt_of_lt_of_le JV.lt (Nat.le_of_eq g130.symm))) nin0)).keep K141 (ninS (Nat.ne_of_lt (Nat.lt_of_lt_of_le JV.lt (Nat.le_of_eq g130.symm))) (ninS (Nat.ne_of_lt (Nat.lt_of_lt_of_le (JV.ext E130).lt sd132)) nin0))).ext E142).keep K146 (ninS (Nat.ne_of_lt (Nat.lt_of_lt_of_le JV.lt (Nat.le_of_eq g130.symm))) (ninS (Nat.ne_of_lt (Nat.lt_of_lt_of_le (JV.ext E130).lt sd132)) nin0)))
  have q154 := (Safe.keep K146 (sfS q145 (sfS q144 sf0)) H142 q145)
  have q155 := (Safe.keep K146 (sfS q145 (sfS q144 sf0)) H142 q144)
  obtain ⟨v156, T156, L156, X156, hQ156, st156⟩ := vcall X147 hx hZ142 hown142 (hw _ (List.mem_of_getElem? (i := 67) rfl)) (hw _ (List.mem_of_getElem? (i := 68) rfl)) (hw _ (List.mem_of_getElem? (i := 70) rfl)) rfl (hw _ (List.mem_of_getElem? (i := 70) rfl)) (hw _ (List.mem_of_getElem? (i := 69) rfl)) (hw _ (List.mem_of_getElem? (i := 51) rfl)) (hw _ (List.mem_of_getElem? (i := 71) rfl)) (by decide) (W := 0) (rm_sbApp l Z a0 hw [] b130 d132 k132 (16 : Int32) (([] ++ us) ++ [(.int (32 : Int32))]) a2 e2 k2 vs zc wf n0 T146.heap SS' q149 ⟨JE146, JF146, JC146, JN146, JV146⟩ ⟨q150, q151, q152, q153⟩ (Nat.le_trans Z0 sz_b130) (Nat.le_trans Z0 sz_d132) (by rw [own_16]; (try simp only [List.length_append, List.length_nil, List.length_cons]); omega) (by (try simp only [List.length_append, List.length_nil, List.length_cons]); omega) (by (try simp only [List.length_append, List.length_nil, List.length_cons]); omega) (Nat.ne_of_lt (Nat.lt_of_lt_of_le (JV.ext E130).lt sd132)) (Nat.ne_of_lt (Nat.lt_of_lt_of_le JE.lt (Nat.le_of_eq g130.symm))) (by decide)) e147 (by decide) (by decide) (by decide) (by decide) (g := (mkF m 23 #[.val (.ref o), .unset] [(.ref a2), (.ref b130)])) rfl (by rw [hml]; rfl) JE146 (argsL := [(.ref a2)]) (rest := []) opd_26 rfl rfl rfl (by show 2 * 0 + _ ≤ _; exact Nat.le_of_eq rfl) (hb hby d_prog_3_method_4_23)
  obtain ⟨rfl, N156, K156, J156⟩ := hQ156
  have NN156 := Fr.app NN146 N156
  have KK156 : Keep h0 T156.heap [] := KK146.trans K156 (allS (Or.inr sz_b130) (allS (Or.inr sz_d132) all0))
  have H156 := CHv.keep K156 (sfS q154 (sfS q155 sf0)) H146
  have R156 := CHr.trans R146 (CHr.keep K156 (sfS q154 (sfS q155 sf0)) H146)
  refine OGo.step st156 ?_
  show OGo p e below _ T156 (mkF m 26 #[.val (.ref o), .unset] [(.ref b130)])
  obtain ⟨JE156, JF156, JC156, JN156, JV156⟩ := J156
  have q157 := (q149.keep K156 (allS (Nat.le_trans Z0 sz_b130) (allS (Nat.le_trans Z0 sz_d132) all0)))
  obtain ⟨v158, T158, L158, X158, hQ158, st158⟩ := vcall X156 hx hZ142 hown142 (hw _ (List.mem_of_getElem? (i := 116) rfl)) (hw _ (List.mem_of_getElem? (i := 117) rfl)) (hw _ (List.mem_of_getElem? (i := 119) rfl)) rfl (hw _ (List.mem_of_getElem? (i := 119) rfl)) (hw _ (List.mem_of_getElem? (i := 118) rfl)) (hw _ (List.mem_of_getElem? (i := 51) rfl)) (hw _ (List.mem_of_getElem? (i := 120) rfl)) (by decide) (W := 0) (rm_toS l Z a0 hw [] b130 d132 k132 (16 : Int32) ((([] ++ us) ++ [(.int (32 : Int32))]) ++ vs) zc wf n0 T156.heap SS' q157 ⟨JE156, JF156, JC156, JN156, JV156⟩ (by (try simp only [List.length_append, List.length_nil, List.length_cons]); omega) (by (try simp only [List.length_append, List.length_nil, List.length_cons]); omega) (own_lt16 (by (try simp only [List.length_append, List.length_nil, List.length_cons]); omega)) (by rw [own_16]; (try simp only [List.length_append, List.length_nil, List.length_cons]); omega)) rfl (by decide) (by decide) (by decide) (by decide) (g := (mkF m 26 #[.val (.ref o), .unset] [(.ref b130)])) rfl (by rw [hml]; rfl) JE156 (argsL := []) (rest := []) opd_27 rfl rfl rfl (by show 2 * 0 + _ ≤ _; exact Nat.le_of_eq rfl) (hb hby d_prog_3_method_4_26)
  obtain ⟨a158, r158, kr158, rfl, sa158, sr158, N158, K158, I158⟩ := hQ158
  have NN158 := Fr.app NN156 N158
  have KK158 : Keep h0 T158.heap [] := KK156.trans K158 all0
  have H158 := CHv.keep K158 sf0 H156
  have R158 := CHr.trans R156 (CHr.keep K158 sf0 H156)
  have sz_a158 : h0.size ≤ a158 := Nat.le_trans KK156.1 sa158
  have sz_r158 : h0.size ≤ r158 := Nat.le_trans KK156.1 sr158
  refine OGo.step st158 ?_
  show OGo p e below _ T158 (mkF m 29 #[.val (.ref o), .unset] [(.ref a158)])
  obtain ⟨IE158, IC158, IF158, IV158⟩ := I158
  generalize hW : ((([] ++ us) ++ [(.int (32 : Int32))]) ++ vs) = W3 at IV158
  have hW3 : W3.length ≤ 5 := by rw [← hW]; (try simp only [List.length_append, List.length_nil, List.length_cons]); omega
  refine OGo.step (fun _ k => XS.astoreN X158.here hx rfl (hb hby d_prog_3_method_4_29) rfl rfl (l' := #[.val (.ref o), .val (.ref a158)]) rfl k) ?_
  show OGo p e below _ T158 (mkF m 30 #[.val (.ref o), .val (.ref a158)] [])
  refine OGo.step (fun _ k => XS.aloadN X158.here hx rfl (hb hby d_prog_3_method_4_30) rfl rfl k) ?_
  show OGo p e below _ T158 (mkF m 31 #[.val (.ref o), .val (.ref a158)] [(.ref o)])
  have q160 := (((((((F3.ext E130).keep K132 (ninS (Nat.ne_of_lt (Nat.lt_of_lt_of_le F1.lt (Nat.le_of_eq g130.symm))) nin0)).keep K141 (ninS (Nat.ne_of_lt (Nat.lt_of_lt_of_le F1.lt (Nat.le_of_eq g130.symm))) (ninS (Nat.ne_of_lt (Nat.lt_of_lt_of_le (F1.ext E130).lt sd132)) nin0))).ext E142).keep K146 (ninS (Nat.ne_of_lt (Nat.lt_of_lt_of_le F1.lt (Nat.le_of_eq g130.symm))) (ninS (Nat.ne_of_lt (Nat.lt_of_lt_of_le (F1.ext E130).lt sd132)) nin0))).keep K156 (ninS (Nat.ne_of_lt (Nat.lt_of_lt_of_le F1.lt (Nat.le_of_eq g130.symm))) (ninS (Nat.ne_of_lt (Nat.lt_of_lt_of_le (F1.ext E130).lt sd132)) nin0))).keep K158 nin0)
  obtain ⟨T159, X159, e159, st159⟩ := getF X158 hx hZ142 hown142 (host := "") (Or.inl (hw _ (List.mem_of_getElem? (i := 42) rfl))) Via.refl rfl q160 (g := (mkF m 31 #[.val (.ref o), .val (.ref a158)] [(.ref o)])) rfl rfl (hb hby d_prog_3_method_4_31)
  refine OGo.step st159 ?_
  show OGo p e below _ T159 (mkF m 34 #[.val (.ref o), .val (.ref a158)] [(.int mz)])
  by_cases qm : mz = 0
  · refine OGo.step (fun _ k => XS.ifYes X159.here hx rfl (pc0 := 34) (pc' := 41) rfl (hb hby d_prog_3_method_4_34) rfl ((if0 _ _).trans (teq qm).1) (by decide) (by decide) k) ?_
    show OGo p e below _ T159 (mkF m 41 #[.val (.ref o), .val (.ref a158)] [])
    obtain ⟨T161, h161, X161, e161, E161, A161, D161, -, st161⟩ := newO X159 hx hZ142 hown142 (hw _ (List.mem_of_getElem? (i := 49) rfl)) (hw _ (List.mem_of_getElem? (i := 50) rfl)) (hw _ (List.mem_of_getElem? (i := 51) rfl)) e159 (g := (mkF m 41 #[.val (.ref o), .val (.ref a158)] [])) rfl (hb hby d_prog_3_method_4_41) (by decide) (by decide)
    obtain ⟨b161, g161⟩ : ∃ z, z = T158.heap.size := ⟨_, rfl⟩
    rw [← g161] at A161 D161 st161
    have sz_b161 : h0.size ≤ b161 := Nat.le_trans KK158.1 (Nat.le_of_eq g161.symm)
    have KK161 : Keep h0 h161 [] := KK158.ext E161
    have H161 := CHv.ext E161 H158
    have R161 := CHr.trans R158 (CHr.ext E161 H158)
    have F161_value : Fld Z h161 b161 "java/lang/AbstractStringBuilder" "value" "[B" .null := D161 (Or.inl (hw _ (List.mem_of_getElem? (i := 64) rfl))) (ty := (.array .byte)) (by decide)
    have F161_coder : Fld Z h161 b161 "java/lang/AbstractStringBuilder" "coder" "B" (.int (0 : Int32)) := D161 (Or.inl (hw _ (List.mem_of_getElem? (i := 66) rfl))) (ty := .byte) (by decide)
    have F161_count : Fld Z h161 b161 "java/lang/AbstractStringBuilder" "count" "I" (.int (0 : Int32)) := D161 (Or.inl (hw _ (List.mem_of_getElem? (i := 89) rfl))) (ty := .int) (by decide)
    refine OGo.step st161 ?_
    show OGo p e below _ T161 (mkF m 44 #[.val (.ref o), .val (.ref a158)] [(.ref b161)])
    refine OGo.step (fun _ k => XS.dup X161.here hx rfl (hb hby d_prog_3_method_4_44) rfl rfl k) ?_
    show OGo p e below _ T161 (mkF m 45 #[.val (.ref o), .val (.ref a158)] [(.ref b161), (.ref b161)])
    have q162 := (Safe.ext E161 H158 (Safe.new (Nat.le_of_eq g161.symm)))
    obtain ⟨v163, T163, L163, X163, hQ163, st163⟩ := icall X161 hx hZ142 rfl hown142 (hw _ (List.mem_of_getElem? (i := 52) rfl)) (hw _ (List.mem_of_getElem? (i := 53) rfl)) (hw _ (List.mem_of_getElem? (i := 51) rfl)) (hw _ (List.mem_of_getElem? (i := 54) rfl)) (by decide) (W := 1) (rm_sbInit l Z a0 hw [] b161 zc wf n0 h161 SS' ((q157.keep K158 all0).ext E161) A161 F161_value F161_coder F161_count (Nat.le_trans Z0 sz_b161)) e161 (by decide) (by decide) (by decide) (by decide) (g := (mkF m 45 #[.val (.ref o), .val (.ref a158)] [(.ref b161), (.ref b161)])) rfl (by rw [hml]; rfl) (a := b161) (argsL := []) (rest := [(.ref b161)]) opd_25 rfl rfl rfl (by show 2 * 0 + _ ≤ _; exact Nat.le_of_eq rfl) (hb hby d_prog_3_method_4_45)
    obtain ⟨rfl, N163, K163, d163, k163, sd163, J163⟩ := hQ163
    have NN163 := Fr.app NN158 N163
    have KK163 : Keep h0 T163.heap [] := KK161.trans K163 (allS (Or.inr sz_b161) all0)
    have H163 := CHv.keep K163 (sfS q162 sf0) H161
    have R163 := CHr.trans R161 (CHr.keep K163 (sfS q162 sf0) H161)
    have sz_d163 : h0.size ≤ d163 := Nat.le_trans KK161.1 sd163
    refine OGo.step st163 ?_
    show OGo p e below _ T163 (mkF m 48 #[.val (.ref o), .val (.ref a158)] [(.ref b161)])
    obtain ⟨JE163, JF163, JC163, JN163, JV163⟩ := J163
    obtain ⟨a164, T164, h164, kk164, d164, kd164, X164, e164, E164, hS164, hk164, hZ164, hown164, A164, C164, F164, V164, lt164, ltd164, CR164, Li164, sf164, st164⟩ := ldcCH X163 hx hZ142 hown142 (hw _ (List.mem_of_getElem? (i := 161) rfl)) (own_wS hw) rfl hS142 (Nat.le_trans (Nat.le_trans (Nat.le_trans (Nat.le_trans (Nat.le_trans hk142 K146.1) K156.1) K158.1) E161.1) K163.1) (own_hEL hw) (List.mem_of_getElem? (i := 1) rfl) H163 (vs := [(.int (91 : Int32))]) (z := (1 : Int32)) (by decide) (by decide) (by decide) (g := (mkF m 48 #[.val (.ref o), .val (.ref a158)] [(.ref b161)])) rfl (hb hby d_prog_3_method_4_48) (n := 4) (by decide) (by decide) (by decide) (by decide)
    have KK164 : Keep h0 h164 [] := KK163.ext E164
    have H164 := CR164.1
    have R164 := CHr.trans R163 CR164
    refine OGo.step st164 ?_
    show OGo p e below _ T164 (mkF m 50 #[.val (.ref o), .val (.ref a158)] [(.ref a164), (.ref b161)])
    have q165 := ((((q157.keep K158 all0).ext E161).keep K163 (allS (Nat.le_trans Z0 sz_b161) all0)).ext E164)
    have q166 := (CHr.safe CR164 JV163.lt (Safe.keep K163 (sfS q162 sf0) H161 (Safe.new sd163)))
    have q167 := (CHr.safe CR164 JF163.lt (Safe.keep K163 (sfS q162 sf0) H161 q162))
    obtain ⟨v168, T168, L168, X168, hQ168, st168⟩ := vcall X164 hx hZ164 hown164 (hw _ (List.mem_of_getElem? (i := 67) rfl)) (hw _ (List.mem_of_getElem? (i := 68) rfl)) (hw _ (List.mem_of_getElem? (i := 70) rfl)) rfl (hw _ (List.mem_of_getElem? (i := 70) rfl)) (hw _ (List.mem_of_getElem? (i := 69) rfl)) (hw _ (List.mem_of_getElem? (i := 51) rfl)) (hw _ (List.mem_of_getElem? (i := 71) rfl)) (by decide) (W := 0) (rm_sbApp l Z a0 hw [] b161 d163 k163 (16 : Int32) [] a164 d164 kd164 [(.int (91 : Int32))] zc wf n0 h164 SS' q165 ⟨(JE163.ext E164), (JF163.ext E164), (JC163.ext E164), (JN163.ext E164), (JV163.ext E164)⟩ ⟨A164, C164, F164, V164⟩ (Nat.le_trans Z0 sz_b161) (Nat.le_trans Z0 sz_d163) (by rw [own_16]; (try simp only [List.length_append, List.length_nil, List.length_cons]); omega) (by (try simp only [List.length_append, List.length_nil, List.length_cons]); omega) (by (try simp only [List.length_append, List.length_nil, List.length_cons]); omega) (Ne.symm (sf164 _ q166).2) (Ne.symm (sf164 _ q167).1) (by decide)) e164 (by decide) (by decide) (by decide) (by decide) (g := (mkF m 50 #[.val (.ref o), .val (.ref a158)] [(.ref a164), (.ref b161)])) rfl (by rw [hml]; rfl) (JE163.ext E164) (argsL := [(.ref a164)]) (rest := []) opd_26 rfl rfl rfl (by show 2 * 0 + _ ≤ _; exact Nat.le_of_eq rfl) (hb hby d_prog_3_method_4_50)
    obtain ⟨rfl, N168, K168, J168⟩ := hQ168
    have NN168 := Fr.app NN163 N168
    have KK168 : Keep h0 T168.heap [] := KK164.trans K168 (allS (Or.inr sz_b161) (allS (Or.inr sz_d163) all0))
    have H168 := CHv.keep K168 (sfS q167 (sfS q166 sf0)) H164
    have R168 := CHr.trans R164 (CHr.keep K168 (sfS q167 (sfS q166 sf0)) H164)
    refine OGo.step st168 ?_
    show OGo p e below _ T168 (mkF m 53 #[.val (.ref o), .val (.ref a158)] [(.ref b161)])
    obtain ⟨JE168, JF168, JC168, JN168, JV168⟩ := J168
    refine OGo.step (fun _ k => XS.aloadN X168.here hx rfl (hb hby d_prog_3_method_4_53) rfl rfl k) ?_
    show OGo p e below _ T168 (mkF m 54 #[.val (.ref o), .val (.ref a158)] [(.ref a158), (.ref b161)])
    have q169 := (q165.keep K168 (allS (Nat.le_trans Z0 sz_b161) (allS (Nat.le_trans Z0 sz_d163) all0)))
    have q170 := ((((IE158.ext E161).keep K163).ext E164).keep K168)
    have q171 := ((((IC158.ext E161).keep K163 (ninS (Nat.ne_of_lt (Nat.lt_of_lt_of_le IE158.lt (Nat.le_of_eq g161.symm))) nin0)).ext E164).keep K168 (ninS (Nat.ne_of_lt (Nat.lt_of_lt_of_le IE158.lt (Nat.le_of_eq g161.symm))) (ninS (Nat.ne_of_lt (Nat.lt_of_lt_of_le (IE158.ext E161).lt sd163)) nin0)))
    have q172 := ((((IF158.ext E161).keep K163 (ninS (Nat.ne_of_lt (Nat.lt_of_lt_of_le IE158.lt (Nat.le_of_eq g161.symm))) nin0)).ext E164).keep K168 (ninS (Nat.ne_of_lt (Nat.lt_of_lt_of_le IE158.lt (Nat.le_of_eq g161.symm))) (ninS (Nat.ne_of_lt (Nat.lt_of_lt_of_le (IE158.ext E161).lt sd163)) nin0)))
    have q173 := ((((IV158.ext E161).keep K163 (ninS (Nat.ne_of_lt (Nat.lt_of_lt_of_le IV158.lt (Nat.le_of_eq g161.symm))) nin0)).ext E164).keep K168 (ninS (Nat.ne_of_lt (Nat.lt_of_lt_of_le IV158.lt (Nat.le_of_eq g161.symm))) (ninS (Nat.ne_of_lt (Nat.lt_of_lt_of_le (IV158.ext E161).lt sd163)) nin0)))
    have q174 := (Safe.keep K168 (sfS q167 (sfS q166 sf0)) H164 q167)
    have q175 := (Safe.keep K168 (sfS q167 (sfS q166 sf0)) H164 q166)
    obtain ⟨v176, T176, L176, X176, hQ176, st176⟩ := vcall X168 hx hZ164 hown164 (hw _ (List.mem_of_getElem? (i := 67) rfl)) (hw _ (List.mem_of_getElem? (i := 68) rfl)) (hw _ (List.mem_of_getElem? (i := 70) rfl)) rfl (hw _ (List.mem_of_getElem? (i := 70) rfl)) (hw _ (List.mem_of_getElem? (i := 69) rfl)) (hw _ (List.mem_of_getElem? (i := 51) rfl)) (hw _ (List.mem_of_getElem? (i := 71) rfl)) (by decide) (W := 0) (rm_sbApp l Z a0 hw [] b161 d163 k163 (16 : Int32) ([] ++ [(.int (91 : Int32))]) a158 r158 kr158 W3 zc wf n0 T168.heap SS' q169 ⟨JE168, JF168, JC168, JN168, JV168⟩ ⟨q170, q171, q172, q173⟩ (Nat.le_trans Z0 sz_b161) (Nat.le_trans Z0 sz_d163) (by rw [own_16]; (try simp only [List.length_append, List.length_nil, List.length_cons]); omega) (by (try simp only [List.length_append, List.length_nil, List.length_cons]); omega) (by (try simp only [List.length_append, List.length_nil, List.length_cons]); omega) (Nat.ne_of_lt (Nat.lt_of_lt_of_le (IV158.ext E161).lt sd163)) (Nat.ne_of_lt (Nat.lt_of_lt_of_le IE158.lt (Nat.le_of_eq g161.symm))) (by decide)) rfl (by decide) (by decide) (by decide) (by decide) (g := (mkF m 54 #[.val (.ref o), .val (.ref a158)] [(.ref a158), (.ref b161)])) rfl (by rw [hml]; rfl) JE168 (argsL := [(.ref a158)]) (rest := []) opd_26 rfl rfl rfl (by show 2 * 0 + _ ≤ _; exact Nat.le_of_eq rfl) (hb hby d_prog_3_method_4_54)
    obtain ⟨rfl, N176, K176, J176⟩ := hQ176
    have NN176 := Fr.app NN168 N176
    have KK176 : Keep h0 T176.heap [] := KK168.trans K176 (allS (Or.inr sz_b161) (allS (Or.inr sz_d163) all0))
    have H176 := CHv.keep K176 (sfS q174 (sfS q175 sf0)) H168
    have R176 := CHr.trans R168 (CHr.keep K176 (sfS q174 (sfS q175 sf0)) H168)
    refine OGo.step st176 ?_
    show OGo p e below _ T176 (mkF m 57 #[.val (.ref o), .val (.ref a158)] [(.ref b161)])
    obtain ⟨JE176, JF176, JC176, JN176, JV176⟩ := J176
    obtain ⟨a177, T177, h177, kk177, d177, kd177, X177, e177, E177, hS177, hk177, hZ177, hown177, A177, C177, F177, V177, lt177, ltd177, CR177, Li177, sf177, st177⟩ := ldcCH X176 hx hZ164 hown164 (hw _ (List.mem_of_getElem? (i := 162) rfl)) (own_wS hw) rfl hS164 (Nat.le_trans (Nat.le_trans hk164 K168.1) K176.1) (own_hEL hw) (List.mem_of_getElem? (i := 2) rfl) H176 (vs := [(.int (93 : Int32))]) (z := (1 : Int32)) (by decide) (by decide) (by decide) (g := (mkF m 57 #[.val (.ref o), .val (.ref a158)] [(.ref b161)])) rfl (hb hby d_prog_3_method_4_57) (n := 4) (by decide) (by decide) (by decide) (by decide)
    have KK177 : Keep h0 h177 [] := KK176.ext E177
    have H177 := CR177.1
    have R177 := CHr.trans R176 CR177
    refine OGo.step st177 ?_
    show OGo p e below _ T177 (mkF m 59 #[.val (.ref o), .val (.ref a158)] [(.ref a177), (.ref b161)])
    have q178 := ((q169.keep K176 (allS (Nat.le_trans Z0 sz_b161) (allS (Nat.le_trans Z0 sz_d163) all0))).ext E177)
    have q179 := (CHr.safe CR177 JV176.lt (Safe.keep K176 (sfS q174 (sfS q175 sf0)) H168 q175))
    have q180 := (CHr.safe CR177 JF176.lt (Safe.keep K176 (sfS q174 (sfS q175 sf0)) H168 q174))
    obtain ⟨v181, T181, L181, X181, hQ181, st181⟩ := vcall X177 hx hZ177 hown177 (hw _ (List.mem_of_getElem? (i := 67) rfl)) (hw _ (List.mem_of_getElem? (i := 68) rfl)) (hw _ (List.mem_of_getElem? (i := 70) rfl)) rfl (hw _ (List.mem_of_getElem? (i := 70) rfl)) (hw _ (List.mem_of_getElem? (i := 69) rfl)) (hw _ (List.mem_of_getElem? (i := 51) rfl)) (hw _ (List.mem_of_getElem? (i := 71) rfl)) (by decide) (W := 0) (rm_sbApp l Z a0 hw [] b161 d163 k163 (16 : Int32) (([] ++ [(.int (91 : Int32))]) ++ W3) a177 d177 kd177 [(.int (93 : Int32))] zc wf n0 h177 SS' q178 ⟨(JE176.ext E177), (JF176.ext E177), (JC176.ext E177), (JN176.ext E177), (JV176.ext E177)⟩ ⟨A177, C177, F177, V177⟩ (Nat.le_trans Z0 sz_b161) (Nat.le_trans Z0 sz_d163) (by rw [own_16]; (try simp only [List.length_append, List.length_nil, List.length_cons]); omega) (by (try simp only [List.length_append, List.length_nil, List.length_cons]); omega) (by (try simp only [List.length_append, List.length_nil, List.length_cons]); omega) (Ne.symm (sf177 _ q179).2) (Ne.symm (sf177 _ q180).1) (by decide)) e177 (by decide) (by decide) (by decide) (by decide) (g := (mkF m 59 #[.val (.ref o), .val (.ref a158)] [(.ref a177), (.ref b161)])) rfl (by rw [hml]; rfl) (JE176.ext E177) (argsL := [(.ref a177)]) (rest := []) opd_26 rfl rfl rfl (by show 2 * 0 + _ ≤ _; exact Nat.le_of_eq rfl) (hb hby d_prog_3_method_4_59)
    obtain ⟨rfl, N181, K181, J181⟩ := hQ181
    have NN181 := Fr.app NN176 N181
    have KK181 : Keep h0 T181.heap [] := KK177.trans K181 (allS (Or.inr sz_b161) (allS (Or.inr sz_d163) all0))
    have H181 := CHv.keep K181 (sfS q180 (sfS q179 sf0)) H177
    have R181 := CHr.trans R177 (CHr.keep K181 (sfS q180 (sfS q179 sf0)) H177)
    refine OGo.step st181 ?_
    show OGo p e below _ T181 (mkF m 62 #[.val (.ref o), .val (.ref a158)] [(.ref b161)])
    obtain ⟨JE181, JF181, JC181, JN181, JV181⟩ := J181
    have q182 := (q178.keep K181 (allS (Nat.le_trans Z0 sz_b161) (allS (Nat.le_trans Z0 sz_d163) all0)))
    obtain ⟨v183, T183, L183, X183, hQ183, st183⟩ := vcall X181 hx hZ177 hown177 (hw _ (List.mem_of_getElem? (i := 116) rfl)) (hw _ (List.mem_of_getElem? (i := 117) rfl)) (hw _ (List.mem_of_getElem? (i := 119) rfl)) rfl (hw _ (List.mem_of_getElem? (i := 119) rfl)) (hw _ (List.mem_of_getElem? (i := 118) rfl)) (hw _ (List.mem_of_getElem? (i := 51) rfl)) (hw _ (List.mem_of_getElem? (i := 120) rfl)) (by decide) (W := 0) (rm_toS l Z a0 hw [] b161 d163 k163 (16 : Int32) ((([] ++ [(.int (91 : Int32))]) ++ W3) ++ [(.int (93 : Int32))]) zc wf n0 T181.heap SS' q182 ⟨JE181, JF181, JC181, JN181, JV181⟩ (by (try simp only [List.length_append, List.length_nil, List.length_cons]); omega) (by (try simp only [List.length_append, List.length_nil, List.length_cons]); omega) (own_lt16 (by (try simp only [List.length_append, List.length_nil, List.length_cons]); omega)) (by rw [own_16]; (try simp only [List.length_append, List.length_nil, List.length_cons]); omega)) rfl (by decide) (by decide) (by decide) (by decide) (g := (mkF m 62 #[.val (.ref o), .val (.ref a158)] [(.ref b161)])) rfl (by rw [hml]; rfl) JE181 (argsL := []) (rest := []) opd_27 rfl rfl rfl (by show 2 * 0 + _ ≤ _; exact Nat.le_of_eq rfl) (hb hby d_prog_3_method_4_62)
    obtain ⟨a183, r183, kr183, rfl, sa183, sr183, N183, K183, I183⟩ := hQ183
    have NN183 := Fr.app NN181 N183
    have KK183 : Keep h0 T183.heap [] := KK181.trans K183 all0
    have H183 := CHv.keep K183 sf0 H181
    have R183 := CHr.trans R181 (CHr.keep K183 sf0 H181)
    have sz_a183 : h0.size ≤ a183 := Nat.le_trans KK181.1 sa183
    have sz_r183 : h0.size ≤ r183 := Nat.le_trans KK181.1 sr183
    refine OGo.step st183 ?_
    show OGo p e below _ T183 (mkF m 65 #[.val (.ref o), .val (.ref a158)] [(.ref a183)])
    obtain ⟨IE183, IC183, IF183, IV183⟩ := I183
    exact OGo.retH X183 hx hZ177 (own_hEL hw) hs0 rfl hS177 (Nat.le_trans (Nat.le_trans hk177 K181.1) K183.1) H183 R183 (t := (.object "java/lang/String")) hret hlk rfl (Or.inr (Or.inr (Or.inr (Or.inr ⟨rfl, rfl, rfl⟩)))) (hb hby d_prog_3_method_4_65) (by decide) (by decide) ⟨a183, r183, _, rfl, NN183, KK183, by rw [own_us, if_pos qm, show us ++ [(Value.int (32 : Int32))] ++ vs = W3 from hW]; exact ⟨IE183, IC183, IF183, IV183⟩⟩
  refine OGo.step (fun _ k => XS.ifNo X159.here hx rfl (hb hby d_prog_3_method_4_34) rfl ((if0 _ _).trans (feq qm).1) k) ?_
  show OGo p e below _ T159 (mkF m 37 #[.val (.ref o), .val (.ref a158)] [])
  refine OGo.step (fun _ k => XS.aloadN X159.here hx rfl (hb hby d_prog_3_method_4_37) rfl rfl k) ?_
  show OGo p e below _ T159 (mkF m 38 #[.val (.ref o), .val (.ref a158)] [(.ref a158)])
  refine OGo.step (fun _ k => XS.goto X159.here hx rfl (pc0 := 38) (pc' := 65) rfl (hb hby d_prog_3_method_4_38) (by decide) (by decide) k) ?_
  show OGo p e below _ T159 (mkF m 65 #[.val (.ref o), .val (.ref a158)] [(.ref a158)])
  exact OGo.retH X159 hx hZ142 (own_hEL hw) hs0 e159 hS142 (Nat.le_trans (Nat.le_trans (Nat.le_trans hk142 K146.1) K156.1) K158.1) H158 R158 (t := (.object "java/lang/String")) hret hlk rfl (Or.inr (Or.inr (Or.inr (Or.inr ⟨rfl, rfl, rfl⟩)))) (hb hby d_prog_3_method_4_65) (by decide) (by decide) ⟨a158, r158, _, rfl, NN158, KK158, by rw [own_us, if_neg qm, show us ++ [(Value.int (32 : Int32))] ++ vs = W3 from hW]; exact ⟨IE158, IC158, IF158, IV158⟩⟩
theorem d_method_3_0 : decode method_3_code 0 = .ok (.iload_n 1, 1) := by decide +kernel
theorem d_method_3_1 : decode method_3_code 1 = .ok (.ifCond .lt 24, 3) := by decide +kernel
theorem d_method_3_4 : decode method_3_code 4 = .ok (.iload_n 1, 1) := by decide +kernel
theorem d_method_3_5 : decode method_3_code 5 = .ok (.aload_n 0, 1) := by decide +kernel
theorem d_method_3_6 : decode method_3_code 6 = .ok (.invokevirtual 16, 3) := by decide +kernel
theorem d_method_3_9 : decode method_3_code 9 = .ok (.if_icmp .ge 16, 3) := by decide +kernel
theorem d_method_3_12 : decode method_3_code 12 = .ok (.aload_n 0, 1) := by decide +kernel
theorem d_method_3_13 : decode method_3_code 13 = .ok (.iload_n 1, 1) := by decide +kernel
theorem opd_28 : parseMethodDescriptor "(I)C" = some ⟨[.int], some .char⟩ := by decide +kernel
theorem d_method_3_14 : decode method_3_code 14 = .ok (.invokevirtual 20, 3) := by decide +kernel
theorem d_method_3_17 : decode method_3_code 17 = .ok (.iload_n 2, 1) := by decide +kernel
theorem d_method_3_18 : decode method_3_code 18 = .ok (.if_icmp .ne 7, 3) := by decide +kernel
theorem d_method_3_21 : decode method_3_code 21 = .ok (.iconst 1, 1) := by decide +kernel
theorem d_method_3_22 : decode method_3_code 22 = .ok (.goto 4, 3) := by decide +kernel
theorem d_method_3_26 : decode method_3_code 26 = .ok (.ireturn, 1) := by decide +kernel
theorem opl_rm_at : plainFor (⟨"com/example/fenced_rbac/fencedrbac/cli/OptionUsagePinLaw", "at", "(Ljava/lang/String;IC)Z"⟩ : MethodName) = true := plainFor_of_name (by first | (simp [plainName, overriddenIn]; done) | decide +kernel)
set_option maxRecDepth 65536 in
set_option maxHeartbeats 40000000 in
theorem rm_at (l : Launch) (Z : State) (a0 : Array Value) (hw : ∀ d ∈ tables_1, d.before a0 Z = true) (ws : List Jvm.Cond) (a d : Addr) (k : ClassId) (us : List Value) (i b x : Int32) (zc : Int32) (wf : Value) (n0 : Nat) (h0 : Heap) (SS : own_SS Z zc wf) (O : Old Z n0 h0) (I : STI Z h0 a d k us) (hi0 : ¬ i < 0) (hi1 : i < Int32.ofNat us.length) (hat : us.getD i.toNatClampNeg (.int (0 : Int32)) = .int b) (hbc : (b &&& 255) = x) :
    Con l Z (⟨"com/example/fenced_rbac/fencedrbac/cli/OptionUsagePinLaw", "at", "(Ljava/lang/String;IC)Z"⟩ : MethodName) method_3_code 3 (some .boolean) ws ({ frames := 4, cells := 0, slots := 0, locals := 53 } : Room) #[(.ref a), (.int i), (.int x)] h0 (fun v h L => v = some (.int (1 : Int32)) ∧ L = [] ∧ h = h0) := by
  refine Con.intro opl_rm_at ?_
  intro p e s m below meth c s₁ hx hby hml hown hret hlk hZ hnm X0 e0
  have SS' := SS
  obtain ⟨hzc, SC, hwf, SF⟩ := SS
  have Z0 : n0 ≤ h0.size := O.1 ▸ O.2.1
  have N0 := Fr.nil n0
  obtain ⟨IE, IC, IF, IV⟩ := I
  refine OGo.cast (g' := (mkF m 0 #[.val (.ref a), .val (.int i), .val (.int x)] [])) (by first | (simp [entryFrame, mkF, argsToLocals, Value.category]; done) | rfl) ?_
  show OGo p e below _ s₁ (mkF m 0 #[.val (.ref a), .val (.int i), .val (.int x)] [])
  refine OGo.step (fun _ k => XS.iloadN X0.here hx rfl (hb hby d_method_3_0) rfl k) ?_
  show OGo p e below _ s₁ (mkF m 1 #[.val (.ref a), .val (.int i), .val (.int x)] [(.int i)])
  refine OGo.step (fun _ k => XS.ifNo X0.here hx rfl (hb hby d_method_3_1) rfl ((if0 _ _).trans (flt hi0).1) k) ?_
  show OGo p e below _ s₁ (mkF m 4 #[.val (.ref a), .val (.int i), .val (.int x)] [])
  refine OGo.step (fun _ k => XS.iloadN X0.here hx rfl (hb hby d_method_3_4) rfl k) ?_
  show OGo p e below _ s₁ (mkF m 5 #[.val (.ref a), .val (.int i), .val (.int x)] [(.int i)])
  refine OGo.step (fun _ k => XS.aloadN X0.here hx rfl (hb hby d_method_3_5) rfl rfl k) ?_
  show OGo p e below _ s₁ (mkF m 6 #[.val (.ref a), .val (.int i), .val (.int x)] [(.ref a), (.int i)])
  obtain ⟨v184, T184, L184, X184, hQ184, st184⟩ := vcall X0 hx hZ hown (hw _ (List.mem_of_getElem? (i := 163) rfl)) (hw _ (List.mem_of_getElem? (i := 78) rfl)) (hw _ (List.mem_of_getElem? (i := 80) rfl)) rfl (hw _ (List.mem_of_getElem? (i := 80) rfl)) (hw _ (List.mem_of_getElem? (i := 79) rfl)) (hw _ (List.mem_of_getElem? (i := 6) rfl)) (hw _ (List.mem_of_getElem? (i := 81) rfl)) (by decide) (W := 1) (rm_length l Z a0 hw [] a d k us zc wf n0 h0 SS' O ⟨IE, IC, IF, IV⟩) e0 (by decide) (by decide) (by decide) (by decide) (g := (mkF m 6 #[.val (.ref a), .val (.int i), .val (.int x)] [(.ref a), (.int i)])) rfl (by rw [hml]; rfl) IE (argsL := []) (rest := [(.int i)]) opd_8 rfl rfl rfl (by show 2 * 0 + _ ≤ _; exact Nat.le_of_eq rfl) (hb hby d_method_3_6)
  obtain ⟨rfl, rfl, e184⟩ := hQ184
  rw [List.append_nil] at X184
  refine OGo.step st184 ?_
  show OGo p e below _ T184 (mkF m 9 #[.val (.ref a), .val (.int i), .val (.int x)] [(.int (Int32.ofNat us.length)), (.int i)])
  refine OGo.step (fun _ k => XS.icmpNo X184.here hx rfl (hb hby d_method_3_9) rfl (tlt hi1).2.1 k) ?_
  show OGo p e below _ T184 (mkF m 12 #[.val (.ref a), .val (.int i), .val (.int x)] [])
  refine OGo.step (fun _ k => XS.aloadN X184.here hx rfl (hb hby d_method_3_12) rfl rfl k) ?_
  show OGo p e below _ T184 (mkF m 13 #[.val (.ref a), .val (.int i), .val (.int x)] [(.ref a)])
  refine OGo.step (fun _ k => XS.iloadN X184.here hx rfl (hb hby d_method_3_13) rfl k) ?_
  show OGo p e below _ T184 (mkF m 14 #[.val (.ref a), .val (.int i), .val (.int x)] [(.int i), (.ref a)])
  obtain ⟨v185, T185, L185, X185, hQ185, st185⟩ := vcall X184 hx hZ hown (hw _ (List.mem_of_getElem? (i := 167) rfl)) (hw _ (List.mem_of_getElem? (i := 168) rfl)) (hw _ (List.mem_of_getElem? (i := 170) rfl)) rfl (hw _ (List.mem_of_getElem? (i := 170) rfl)) (hw _ (List.mem_of_getElem? (i := 169) rfl)) (hw _ (List.mem_of_getElem? (i := 6) rfl)) (hw _ (List.mem_of_getElem? (i := 171) rfl)) (by decide) (W := 0) (rm_charAt l Z a0 hw [] a d k us i b zc wf n0 h0 SS' O ⟨IE, IC, IF, IV⟩ hi0 hi1 hat) e184 (by decide) (by decide) (by decide) (by decide) (g := (mkF m 14 #[.val (.ref a), .val (.int i), .val (.int x)] [(.int i), (.ref a)])) rfl (by rw [hml]; rfl) IE (argsL := [(.int i)]) (rest := []) opd_28 rfl rfl rfl (by show 2 * 0 + _ ≤ _; exact Nat.le_of_eq rfl) (hb hby d_method_3_14)
  obtain ⟨rfl, rfl, e185⟩ := hQ185
  rw [List.append_nil] at X185
  refine OGo.step st185 ?_
  show OGo p e below _ T185 (mkF m 17 #[.val (.ref a), .val (.int i), .val (.int x)] [(.int (b &&& 255))])
  refine OGo.step (fun _ k => XS.iloadN X185.here hx rfl (hb hby d_method_3_17) rfl k) ?_
  show OGo p e below _ T185 (mkF m 18 #[.val (.ref a), .val (.int i), .val (.int x)] [(.int x), (.int (b &&& 255))])
  refine OGo.step (fun _ k => XS.icmpNo X185.here hx rfl (hb hby d_method_3_18) rfl (teq hbc).2 k) ?_
  show OGo p e below _ T185 (mkF m 21 #[.val (.ref a), .val (.int i), .val (.int x)] [])
  refine OGo.step (fun _ k => XS.iconst X185.here hx rfl (hb hby d_method_3_21) k) ?_
  show OGo p e below _ T185 (mkF m 22 #[.val (.ref a), .val (.int i), .val (.int x)] [(.int (1 : Int32))])
  refine OGo.step (fun _ k => XS.goto X185.here hx rfl (pc0 := 22) (pc' := 26) rfl (hb hby d_method_3_22) (by decide) (by decide) k) ?_
  show OGo p e below _ T185 (mkF m 26 #[.val (.ref a), .val (.int i), .val (.int x)] [(.int (1 : Int32))])
  exact OGo.ret X185 hx (t := .boolean) hret hlk rfl (Or.inl ⟨rfl, by simp, _, rfl⟩) (hb hby d_method_3_26) (by decide) (by decide) ⟨rfl, rfl, e185⟩
theorem own_and255 (x : Int32) : ¬ (x &&& 255) < 0 ∧ ¬ (255 : Int32) < (x &&& 255) := by
  have q := c_and x 255 (by decide)
  have e0 : (0 : Int32).toInt = 0 := rfl
  have e1 : (255 : Int32).toInt = 255 := rfl
  rw [Int32.lt_iff_toInt_lt, Int32.lt_iff_toInt_lt]
  omega
theorem own_mod3 (x : Int32) : ∃ k : Nat, k ≤ 2 ∧ (x &&& 32767) % 3 = Int32.ofNat k := by
  have q := c_and x 32767 (by decide)
  have r := (c_irem (x &&& 32767) 3 3 rfl).1 q.1
  refine ⟨((x &&& 32767).toInt % 3).toNat, by omega, ?_⟩
  apply Int32.toInt_inj.mp
  rw [r, own_toInt (by omega)]
  omega
theorem own_lo8 {x : Int32} (h : ¬ x < 0 ∧ ¬ (255 : Int32) < x) : (x.toInt8.toInt32 &&& 255) = x := by
  obtain ⟨h0, h1⟩ := h
  rw [Int32.lt_iff_toInt_lt] at h0 h1
  have e0 : (0 : Int32).toInt = 0 := rfl
  have e1 : (255 : Int32).toInt = 255 := rfl
  have q := c_i2b x
  have r := c_mask x.toInt8.toInt32 255 8 (by decide) (by decide)
  apply Int32.toInt_inj.mp
  rw [r]
  show x.toInt8.toInt32.toInt % 256 = x.toInt
  omega
theorem own_addn (a b : Nat) : Int32.ofNat a + Int32.ofNat b = Int32.ofNat (a + b) := by rw [Int32.ofNat_add]
theorem own_addk (a : Nat) : Int32.ofNat a + (2 : Int32) = Int32.ofNat (a + 2) := by rw [Int32.ofNat_add]; rfl
theorem own_sub1 {n : Nat} (h : 1 ≤ n) : Int32.ofNat n - (1 : Int32) = Int32.ofNat (n - 1) := by
  obtain ⟨k, rfl⟩ : ∃ k, n = k + 1 := ⟨n - 1, by omega⟩
  rw [← own_inc, Nat.add_sub_cancel]
  have c := c_isub (Int32.ofNat k + 1) 1
  have c2 := c_iadd (Int32.ofNat k) 1
  have e1 : (1 : Int32).toInt = 1 := rfl
  have r1 := rng32 (Int32.ofNat k + 1 - 1)
  have r2 := rng32 (Int32.ofNat k)
  exact Int32.toInt_inj.mp (by omega)
theorem own_facts {ln lv oo : Nat} {x0 x1 y0 y1 mz : Int32} (hl : ln ≤ 2) (hv : lv ≤ 2) (ho : (mz = 0 ∧ oo = 1) ∨ (¬ mz = 0 ∧ oo = 0)) :
    (own_us mz (own_b8 (own_mk ln x0 x1)) (own_b8 (own_mk lv y0 y1))).length = oo + ln + 1 + lv + oo ∧
    (mz = 0 → (own_us mz (own_b8 (own_mk ln x0 x1)) (own_b8 (own_mk lv y0 y1))).getD 0 (.int (0 : Int32)) = .int (91 : Int32) ∧ (own_us mz (own_b8 (own_mk ln x0 x1)) (own_b8 (own_mk lv y0 y1))).getD (oo + ln + 1 + lv + oo - 1) (.int (0 : Int32)) = .int (93 : Int32)) ∧
    (1 ≤ ln → (own_us mz (own_b8 (own_mk ln x0 x1)) (own_b8 (own_mk lv y0 y1))).getD oo (.int (0 : Int32)) = .int x0.toInt8.toInt32) ∧
    (2 ≤ ln → (own_us mz (own_b8 (own_mk ln x0 x1)) (own_b8 (own_mk lv y0 y1))).getD (oo + 1) (.int (0 : Int32)) = .int x1.toInt8.toInt32) ∧
    (own_us mz (own_b8 (own_mk ln x0 x1)) (own_b8 (own_mk lv y0 y1))).getD (oo + ln) (.int (0 : Int32)) = .int (32 : Int32) ∧
    (1 ≤ lv → (own_us mz (own_b8 (own_mk ln x0 x1)) (own_b8 (own_mk lv y0 y1))).getD (oo + ln + 1) (.int (0 : Int32)) = .int y0.toInt8.toInt32) ∧
    (2 ≤ lv → (own_us mz (own_b8 (own_mk ln x0 x1)) (own_b8 (own_mk lv y0 y1))).getD (oo + ln + 2) (.int (0 : Int32)) = .int y1.toInt8.toInt32) := by
  have h1 : ln = 0 ∨ ln = 1 ∨ ln = 2 := by omega
  have h2 : lv = 0 ∨ lv = 1 ∨ lv = 2 := by omega
  rcases ho with ⟨hm, rfl⟩ | ⟨hm, rfl⟩ <;> rcases h1 with rfl | rfl | rfl <;> rcases h2 with rfl | rfl | rfl <;> simp [own_us, own_b8, own_mk, hm]
theorem own_mklen {n : Nat} (x y : Int32) (h : n ≤ 2) : (own_b8 (own_mk n x y)).length ≤ 2 := by
  have h1 : n = 0 ∨ n = 1 ∨ n = 2 := by omega
  rcases h1 with rfl | rfl | rfl <;> simp [own_b8, own_mk]
def own_Q (n0 : Nat) : Option Value → Heap → List Loc → Prop := fun v _ L => v = some (.int 1) ∧ Fr n0 L
theorem opd_29 : parseMethodDescriptor "(ICC)Ljava/lang/String;" = some ⟨[.int, .char, .char], some (.object "java/lang/String")⟩ := by decide +kernel
theorem opd_30 : parseMethodDescriptor "(Ljava/lang/String;Ljava/lang/String;Z)V" = some ⟨[(.object "java/lang/String"), (.object "java/lang/String"), .boolean], none⟩ := by decide +kernel
theorem opd_31 : parseMethodDescriptor "(Ljava/lang/String;IC)Z" = some ⟨[(.object "java/lang/String"), .int, .char], some .boolean⟩ := by decide +kernel
theorem opl_rm_law : plainFor x = true := plainFor_of_name (by first | (simp [plainName, overriddenIn]; done) | decide +kernel)
set_option maxRecDepth 65536 in
set_option maxHeartbeats 40000000 in
theorem rm_law (l : Launch) (Z : State) (a0 : Array Value) (hw : ∀ d ∈ tables_1, d.before a0 Z = true) (ws : List Jvm.Cond) (n v flags : Int32) (zc : Int32) (wf : Value) (n0 : Nat) (h0 : Heap) (SS : own_SS Z zc wf) (O : Old Z n0 h0) :
    ConH l Z own_EL x code maxLocals ret ws room_1 #[(.int n), (.int v), (.int flags)] h0 (own_Q n0) := by
  refine ConH.intro opl_rm_law ?_
  intro p e s m below meth c s₁ hx hby hml hown hret hlk hZ hnm X0 e0 hs0 hS0 H0 R0
  have SS' := SS
  obtain ⟨hzc, SC, hwf, SF⟩ := SS
  have Z0 : n0 ≤ h0.size := O.1 ▸ O.2.1
  have N0 := Fr.nil n0
  refine OGo.cast (g' := (mkF m 0 #[.val (.int n), .val (.int v), .val (.int flags), .unset, .unset, .unset, .unset, .unset, .unset, .unset, .unset, .unset, .unset, .unset, .unset] [])) (by first | (simp [entryFrame, mkF, argsToLocals, Value.category, maxLocals]; done) | rfl) ?_
  show OGo p e below _ s₁ (mkF m 0 #[.val (.int n), .val (.int v), .val (.int flags), .unset, .unset, .unset, .unset, .unset, .unset, .unset, .unset, .unset, .unset, .unset, .unset] [])
  refine OGo.step (fun _ k => XS.iloadN X0.here hx rfl (hb hby at_0) rfl k) ?_
  show OGo p e below _ s₁ (mkF m 1 #[.val (.int n), .val (.int v), .val (.int flags), .unset, .unset, .unset, .unset, .unset, .unset, .unset, .unset, .unset, .unset, .unset, .unset] [(.int n)])
  refine OGo.step (fun _ k => XS.sipush X0.here hx rfl (hb hby at_1) k) ?_
  show OGo p e below _ s₁ (mkF m 4 #[.val (.int n), .val (.int v), .val (.int flags), .unset, .unset, .unset, .unset, .unset, .unset, .unset, .unset, .unset, .unset, .unset, .unset] [(.int (255 : Int32)), (.int n)])
  refine OGo.step (fun _ k => XS.iand X0.here hx rfl (hb hby at_4) rfl k) ?_
  show OGo p e below _ s₁ (mkF m 5 #[.val (.int n), .val (.int v), .val (.int flags), .unset, .unset, .unset, .unset, .unset, .unset, .unset, .unset, .unset, .unset, .unset, .unset] [(.int (n &&& (255 : Int32)))])
  refine OGo.step (fun _ k => XS.i2c X0.here hx rfl (hb hby at_5) rfl k) ?_
  show OGo p e below _ s₁ (mkF m 6 #[.val (.int n), .val (.int v), .val (.int flags), .unset, .unset, .unset, .unset, .unset, .unset, .unset, .unset, .unset, .unset, .unset, .unset] [(.int ((n &&& (255 : Int32)).toUInt32.toUInt16.toUInt32.toInt32))])
  rw [i2c_mask]
  show OGo p e below _ s₁ (mkF m 6 #[.val (.int n), .val (.int v), .val (.int flags), .unset, .unset, .unset, .unset, .unset, .unset, .unset, .unset, .unset, .unset, .unset, .unset] [(.int (n &&& (255 : Int32)))])
  obtain ⟨x0, ex0⟩ : ∃ z, (n &&& (255 : Int32)) = z := ⟨_, rfl⟩
  have hx0 := own_and255 n
  rw [ex0] at hx0
  rw [ex0]
  show OGo p e below _ s₁ (mkF m 6 #[.val (.int n), .val (.int v), .val (.int flags), .unset, .unset, .unset, .unset, .unset, .unset, .unset, .unset, .unset, .unset, .unset, .unset] [(.int x0)])
  refine OGo.step (fun _ k => XS.istoreN X0.here hx rfl (hb hby at_6) rfl (l' := #[.val (.int n), .val (.int v), .val (.int flags), .val (.int x0), .unset, .unset, .unset, .unset, .unset, .unset, .unset, .unset, .unset, .unset, .unset]) rfl k) ?_
  show OGo p e below _ s₁ (mkF m 7 #[.val (.int n), .val (.int v), .val (.int flags), .val (.int x0), .unset, .unset, .unset, .unset, .unset, .unset, .unset, .unset, .unset, .unset, .unset] [])
  refine OGo.step (fun _ k => XS.iloadN X0.here hx rfl (hb hby at_7) rfl k) ?_
  show OGo p e below _ s₁ (mkF m 8 #[.val (.int n), .val (.int v), .val (.int flags), .val (.int x0), .unset, .unset, .unset, .unset, .unset, .unset, .unset, .unset, .unset, .unset, .unset] [(.int n)])
  refine OGo.step (fun _ k => XS.bipush X0.here hx rfl (hb hby at_8) k) ?_
  show OGo p e below _ s₁ (mkF m 10 #[.val (.int n), .val (.int v), .val (.int flags), .val (.int x0), .unset, .unset, .unset, .unset, .unset, .unset, .unset, .unset, .unset, .unset, .unset] [(.int (8 : Int32)), (.int n)])
  refine OGo.step (fun _ k => XS.iushr X0.here hx rfl (hb hby at_10) rfl k) ?_
  show OGo p e below _ s₁ (mkF m 11 #[.val (.int n), .val (.int v), .val (.int flags), .val (.int x0), .unset, .unset, .unset, .unset, .unset, .unset, .unset, .unset, .unset, .unset, .unset] [(.int ((n.toUInt32 >>> ((8 : Int32) &&& 31).toUInt32).toInt32))])
  refine OGo.step (fun _ k => XS.sipush X0.here hx rfl (hb hby at_11) k) ?_
  show OGo p e below _ s₁ (mkF m 14 #[.val (.int n), .val (.int v), .val (.int flags), .val (.int x0), .unset, .unset, .unset, .unset, .unset, .unset, .unset, .unset, .unset, .unset, .unset] [(.int (255 : Int32)), (.int ((n.toUInt32 >>> ((8 : Int32) &&& 31).toUInt32).toInt32))])
  refine OGo.step (fun _ k => XS.iand X0.here hx rfl (hb hby at_14) rfl k) ?_
  show OGo p e below _ s₁ (mkF m 15 #[.val (.int n), .val (.int v), .val (.int flags), .val (.int x0), .unset, .unset, .unset, .unset, .unset, .unset, .unset, .unset, .unset, .unset, .unset] [(.int (((n.toUInt32 >>> ((8 : Int32) &&& 31).toUInt32).toInt32) &&& (255 : Int32)))])
  refine OGo.step (fun _ k => XS.i2c X0.here hx rfl (hb hby at_15) rfl k) ?_
  show OGo p e below _ s₁ (mkF m 16 #[.val (.int n), .val (.int v), .val (.int flags), .val (.int x0), .unset, .unset, .unset, .unset, .unset, .unset, .unset, .unset, .unset, .unset, .unset] [(.int ((((n.toUInt32 >>> ((8 : Int32) &&& 31).toUInt32).toInt32) &&& (255 : Int32)).toUInt32.toUInt16.toUInt32.toInt32))])
  rw [i2c_mask]
  show OGo p e below _ s₁ (mkF m 16 #[.val (.int n), .val (.int v), .val (.int flags), .val (.int x0), .unset, .unset, .unset, .unset, .unset, .unset, .unset, .unset, .unset, .unset, .unset] [(.int (((n.toUInt32 >>> ((8 : Int32) &&& 31).toUInt32).toInt32) &&& (255 : Int32)))])
  obtain ⟨x1, ex1⟩ : ∃ z, (((n.toUInt32 >>> ((8 : Int32) &&& 31).toUInt32).toInt32) &&& (255 : Int32)) = z := ⟨_, rfl⟩
  have hx1 := own_and255 ((n.toUInt32 >>> ((8 : Int32) &&& 31).toUInt32).toInt32)
  rw [ex1] at hx1
  rw [ex1]
  show OGo p e below _ s₁ (mkF m 16 #[.val (.int n), .val (.int v), .val (.int flags), .val (.int x0), .unset, .unset, .unset, .unset, .unset, .unset, .unset, .unset, .unset, .unset, .unset] [(.int x1)])
  refine OGo.step (fun _ k => XS.istore X0.here hx rfl (hb hby at_16) rfl (l' := #[.val (.int n), .val (.int v), .val (.int flags), .val (.int x0), .val (.int x1), .unset, .unset, .unset, .unset, .unset, .unset, .unset, .unset, .unset, .unset]) rfl k) ?_
  show OGo p e below _ s₁ (mkF m 18 #[.val (.int n), .val (.int v), .val (.int flags), .val (.int x0), .val (.int x1), .unset, .unset, .unset, .unset, .unset, .unset, .unset, .unset, .unset, .unset] [])
  refine OGo.step (fun _ k => XS.iloadN X0.here hx rfl (hb hby at_18) rfl k) ?_
  show OGo p e below _ s₁ (mkF m 19 #[.val (.int n), .val (.int v), .val (.int flags), .val (.int x0), .val (.int x1), .unset, .unset, .unset, .unset, .unset, .unset, .unset, .unset, .unset, .unset] [(.int n)])
  refine OGo.step (fun _ k => XS.bipush X0.here hx rfl (hb hby at_19) k) ?_
  show OGo p e below _ s₁ (mkF m 21 #[.val (.int n), .val (.int v), .val (.int flags), .val (.int x0), .val (.int x1), .unset, .unset, .unset, .unset, .unset, .unset, .unset, .unset, .unset, .unset] [(.int (16 : Int32)), (.int n)])
  refine OGo.step (fun _ k => XS.iushr X0.here hx rfl (hb hby at_21) rfl k) ?_
  show OGo p e below _ s₁ (mkF m 22 #[.val (.int n), .val (.int v), .val (.int flags), .val (.int x0), .val (.int x1), .unset, .unset, .unset, .unset, .unset, .unset, .unset, .unset, .unset, .unset] [(.int ((n.toUInt32 >>> ((16 : Int32) &&& 31).toUInt32).toInt32))])
  refine OGo.step (fun _ k => XS.sipush X0.here hx rfl (hb hby at_22) k) ?_
  show OGo p e below _ s₁ (mkF m 25 #[.val (.int n), .val (.int v), .val (.int flags), .val (.int x0), .val (.int x1), .unset, .unset, .unset, .unset, .unset, .unset, .unset, .unset, .unset, .unset] [(.int (32767 : Int32)), (.int ((n.toUInt32 >>> ((16 : Int32) &&& 31).toUInt32).toInt32))])
  refine OGo.step (fun _ k => XS.iand X0.here hx rfl (hb hby at_25) rfl k) ?_
  show OGo p e below _ s₁ (mkF m 26 #[.val (.int n), .val (.int v), .val (.int flags), .val (.int x0), .val (.int x1), .unset, .unset, .unset, .unset, .unset, .unset, .unset, .unset, .unset, .unset] [(.int (((n.toUInt32 >>> ((16 : Int32) &&& 31).toUInt32).toInt32) &&& (32767 : Int32)))])
  refine OGo.step (fun _ k => XS.iconst X0.here hx rfl (hb hby at_26) k) ?_
  show OGo p e below _ s₁ (mkF m 27 #[.val (.int n), .val (.int v), .val (.int flags), .val (.int x0), .val (.int x1), .unset, .unset, .unset, .unset, .unset, .unset, .unset, .unset, .unset, .unset] [(.int (3 : Int32)), (.int (((n.toUInt32 >>> ((16 : Int32) &&& 31).toUInt32).toInt32) &&& (32767 : Int32)))])
  refine OGo.step (fun _ k => iremM X0 hx rfl (hb hby at_27) rfl (by decide) k) ?_
  show OGo p e below _ s₁ (mkF m 28 #[.val (.int n), .val (.int v), .val (.int flags), .val (.int x0), .val (.int x1), .unset, .unset, .unset, .unset, .unset, .unset, .unset, .unset, .unset, .unset] [(.int ((((n.toUInt32 >>> ((16 : Int32) &&& 31).toUInt32).toInt32) &&& (32767 : Int32)) % (3 : Int32)))])
  obtain ⟨ln, bln, eln⟩ := own_mod3 ((n.toUInt32 >>> ((16 : Int32) &&& 31).toUInt32).toInt32)
  rw [eln]
  show OGo p e below _ s₁ (mkF m 28 #[.val (.int n), .val (.int v), .val (.int flags), .val (.int x0), .val (.int x1), .unset, .unset, .unset, .unset, .unset, .unset, .unset, .unset, .unset, .unset] [(.int (Int32.ofNat ln))])
  refine OGo.step (fun _ k => XS.istore X0.here hx rfl (hb hby at_28) rfl (l' := #[.val (.int n), .val (.int v), .val (.int flags), .val (.int x0), .val (.int x1), .val (.int (Int32.ofNat ln)), .unset, .unset, .unset, .unset, .unset, .unset, .unset, .unset, .unset]) rfl k) ?_
  show OGo p e below _ s₁ (mkF m 30 #[.val (.int n), .val (.int v), .val (.int flags), .val (.int x0), .val (.int x1), .val (.int (Int32.ofNat ln)), .unset, .unset, .unset, .unset, .unset, .unset, .unset, .unset, .unset] [])
  refine OGo.step (fun _ k => XS.iloadN X0.here hx rfl (hb hby at_30) rfl k) ?_
  show OGo p e below _ s₁ (mkF m 31 #[.val (.int n), .val (.int v), .val (.int flags), .val (.int x0), .val (.int x1), .val (.int (Int32.ofNat ln)), .unset, .unset, .unset, .unset, .unset, .unset, .unset, .unset, .unset] [(.int v)])
  refine OGo.step (fun _ k => XS.sipush X0.here hx rfl (hb hby at_31) k) ?_
  show OGo p e below _ s₁ (mkF m 34 #[.val (.int n), .val (.int v), .val (.int flags), .val (.int x0), .val (.int x1), .val (.int (Int32.ofNat ln)), .unset, .unset, .unset, .unset, .unset, .unset, .unset, .unset, .unset] [(.int (255 : Int32)), (.int v)])
  refine OGo.step (fun _ k => XS.iand X0.here hx rfl (hb hby at_34) rfl k) ?_
  show OGo p e below _ s₁ (mkF m 35 #[.val (.int n), .val (.int v), .val (.int flags), .val (.int x0), .val (.int x1), .val (.int (Int32.ofNat ln)), .unset, .unset, .unset, .unset, .unset, .unset, .unset, .unset, .unset] [(.int (v &&& (255 : Int32)))])
  refine OGo.step (fun _ k => XS.i2c X0.here hx rfl (hb hby at_35) rfl k) ?_
  show OGo p e below _ s₁ (mkF m 36 #[.val (.int n), .val (.int v), .val (.int flags), .val (.int x0), .val (.int x1), .val (.int (Int32.ofNat ln)), .unset, .unset, .unset, .unset, .unset, .unset, .unset, .unset, .unset] [(.int ((v &&& (255 : Int32)).toUInt32.toUInt16.toUInt32.toInt32))])
  rw [i2c_mask]
  show OGo p e below _ s₁ (mkF m 36 #[.val (.int n), .val (.int v), .val (.int flags), .val (.int x0), .val (.int x1), .val (.int (Int32.ofNat ln)), .unset, .unset, .unset, .unset, .unset, .unset, .unset, .unset, .unset] [(.int (v &&& (255 : Int32)))])
  obtain ⟨y0, ey0⟩ : ∃ z, (v &&& (255 : Int32)) = z := ⟨_, rfl⟩
  have hy0 := own_and255 v
  rw [ey0] at hy0
  rw [ey0]
  show OGo p e below _ s₁ (mkF m 36 #[.val (.int n), .val (.int v), .val (.int flags), .val (.int x0), .val (.int x1), .val (.int (Int32.ofNat ln)), .unset, .unset, .unset, .unset, .unset, .unset, .unset, .unset, .unset] [(.int y0)])
  refine OGo.step (fun _ k => XS.istore X0.here hx rfl (hb hby at_36) rfl (l' := #[.val (.int n), .val (.int v), .val (.int flags), .val (.int x0), .val (.int x1), .val (.int (Int32.ofNat ln)), .val (.int y0), .unset, .unset, .unset, .unset, .unset, .unset, .unset, .unset]) rfl k) ?_
  show OGo p e below _ s₁ (mkF m 38 #[.val (.int n), .val (.int v), .val (.int flags), .val (.int x0), .val (.int x1), .val (.int (Int32.ofNat ln)), .val (.int y0), .unset, .unset, .unset, .unset, .unset, .unset, .unset, .unset] [])
  refine OGo.step (fun _ k => XS.iloadN X0.here hx rfl (hb hby at_38) rfl k) ?_
  show OGo p e below _ s₁ (mkF m 39 #[.val (.int n), .val (.int v), .val (.int flags), .val (.int x0), .val (.int x1), .val (.int (Int32.ofNat ln)), .val (.int y0), .unset, .unset, .unset, .unset, .unset, .unset, .unset, .unset] [(.int v)])
  refine OGo.step (fun _ k => XS.bipush X0.here hx rfl (hb hby at_39) k) ?_
  show OGo p e below _ s₁ (mkF m 41 #[.val (.int n), .val (.int v), .val (.int flags), .val (.int x0), .val (.int x1), .val (.int (Int32.ofNat ln)), .val (.int y0), .unset, .unset, .unset, .unset, .unset, .unset, .unset, .unset] [(.int (8 : Int32)), (.int v)])
  refine OGo.step (fun _ k => XS.iushr X0.here hx rfl (hb hby at_41) rfl k) ?_
  show OGo p e below _ s₁ (mkF m 42 #[.val (.int n), .val (.int v), .val (.int flags), .val (.int x0), .val (.int x1), .val (.int (Int32.ofNat ln)), .val (.int y0), .unset, .unset, .unset, .unset, .unset, .unset, .unset, .unset] [(.int ((v.toUInt32 >>> ((8 : Int32) &&& 31).toUInt32).toInt32))])
  refine OGo.step (fun _ k => XS.sipush X0.here hx rfl (hb hby at_42) k) ?_
  show OGo p e below _ s₁ (mkF m 45 #[.val (.int n), .val (.int v), .val (.int flags), .val (.int x0), .val (.int x1), .val (.int (Int32.ofNat ln)), .val (.int y0), .unset, .unset, .unset, .unset, .unset, .unset, .unset, .unset] [(.int (255 : Int32)), (.int ((v.toUInt32 >>> ((8 : Int32) &&& 31).toUInt32).toInt32))])
  refine OGo.step (fun _ k => XS.iand X0.here hx rfl (hb hby at_45) rfl k) ?_
  show OGo p e below _ s₁ (mkF m 46 #[.val (.int n), .val (.int v), .val (.int flags), .val (.int x0), .val (.int x1), .val (.int (Int32.ofNat ln)), .val (.int y0), .unset, .unset, .unset, .unset, .unset, .unset, .unset, .unset] [(.int (((v.toUInt32 >>> ((8 : Int32) &&& 31).toUInt32).toInt32) &&& (255 : Int32)))])
  refine OGo.step (fun _ k => XS.i2c X0.here hx rfl (hb hby at_46) rfl k) ?_
  show OGo p e below _ s₁ (mkF m 47 #[.val (.int n), .val (.int v), .val (.int flags), .val (.int x0), .val (.int x1), .val (.int (Int32.ofNat ln)), .val (.int y0), .unset, .unset, .unset, .unset, .unset, .unset, .unset, .unset] [(.int ((((v.toUInt32 >>> ((8 : Int32) &&& 31).toUInt32).toInt32) &&& (255 : Int32)).toUInt32.toUInt16.toUInt32.toInt32))])
  rw [i2c_mask]
  show OGo p e below _ s₁ (mkF m 47 #[.val (.int n), .val (.int v), .val (.int flags), .val (.int x0), .val (.int x1), .val (.int (Int32.ofNat ln)), .val (.int y0), .unset, .unset, .unset, .unset, .unset, .unset, .unset, .unset] [(.int (((v.toUInt32 >>> ((8 : Int32) &&& 31).toUInt32).toInt32) &&& (255 : Int32)))])
  obtain ⟨y1, ey1⟩ : ∃ z, (((v.toUInt32 >>> ((8 : Int32) &&& 31).toUInt32).toInt32) &&& (255 : Int32)) = z := ⟨_, rfl⟩
  have hy1 := own_and255 ((v.toUInt32 >>> ((8 : Int32) &&& 31).toUInt32).toInt32)
  rw [ey1] at hy1
  rw [ey1]
  show OGo p e below _ s₁ (mkF m 47 #[.val (.int n), .val (.int v), .val (.int flags), .val (.int x0), .val (.int x1), .val (.int (Int32.ofNat ln)), .val (.int y0), .unset, .unset, .unset, .unset, .unset, .unset, .unset, .unset] [(.int y1)])
  refine OGo.step (fun _ k => XS.istore X0.here hx rfl (hb hby at_47) rfl (l' := #[.val (.int n), .val (.int v), .val (.int flags), .val (.int x0), .val (.int x1), .val (.int (Int32.ofNat ln)), .val (.int y0), .val (.int y1), .unset, .unset, .unset, .unset, .unset, .unset, .unset]) rfl k) ?_
  show OGo p e below _ s₁ (mkF m 49 #[.val (.int n), .val (.int v), .val (.int flags), .val (.int x0), .val (.int x1), .val (.int (Int32.ofNat ln)), .val (.int y0), .val (.int y1), .unset, .unset, .unset, .unset, .unset, .unset, .unset] [])
  refine OGo.step (fun _ k => XS.iloadN X0.here hx rfl (hb hby at_49) rfl k) ?_
  show OGo p e below _ s₁ (mkF m 50 #[.val (.int n), .val (.int v), .val (.int flags), .val (.int x0), .val (.int x1), .val (.int (Int32.ofNat ln)), .val (.int y0), .val (.int y1), .unset, .unset, .unset, .unset, .unset, .unset, .unset] [(.int v)])
  refine OGo.step (fun _ k => XS.bipush X0.here hx rfl (hb hby at_50) k) ?_
  show OGo p e below _ s₁ (mkF m 52 #[.val (.int n), .val (.int v), .val (.int flags), .val (.int x0), .val (.int x1), .val (.int (Int32.ofNat ln)), .val (.int y0), .val (.int y1), .unset, .unset, .unset, .unset, .unset, .unset, .unset] [(.int (16 : Int32)), (.int v)])
  refine OGo.step (fun _ k => XS.iushr X0.here hx rfl (hb hby at_52) rfl k) ?_
  show OGo p e below _ s₁ (mkF m 53 #[.val (.int n), .val (.int v), .val (.int flags), .val (.int x0), .val (.int x1), .val (.int (Int32.ofNat ln)), .val (.int y0), .val (.int y1), .unset, .unset, .unset, .unset, .unset, .unset, .unset] [(.int ((v.toUInt32 >>> ((16 : Int32) &&& 31).toUInt32).toInt32))])
  refine OGo.step (fun _ k => XS.sipush X0.here hx rfl (hb hby at_53) k) ?_
  show OGo p e below _ s₁ (mkF m 56 #[.val (.int n), .val (.int v), .val (.int flags), .val (.int x0), .val (.int x1), .val (.int (Int32.ofNat ln)), .val (.int y0), .val (.int y1), .unset, .unset, .unset, .unset, .unset, .unset, .unset] [(.int (32767 : Int32)), (.int ((v.toUInt32 >>> ((16 : Int32) &&& 31).toUInt32).toInt32))])
  refine OGo.step (fun _ k => XS.iand X0.here hx rfl (hb hby at_56) rfl k) ?_
  show OGo p e below _ s₁ (mkF m 57 #[.val (.int n), .val (.int v), .val (.int flags), .val (.int x0), .val (.int x1), .val (.int (Int32.ofNat ln)), .val (.int y0), .val (.int y1), .unset, .unset, .unset, .unset, .unset, .unset, .unset] [(.int (((v.toUInt32 >>> ((16 : Int32) &&& 31).toUInt32).toInt32) &&& (32767 : Int32)))])
  refine OGo.step (fun _ k => XS.iconst X0.here hx rfl (hb hby at_57) k) ?_
  show OGo p e below _ s₁ (mkF m 58 #[.val (.int n), .val (.int v), .val (.int flags), .val (.int x0), .val (.int x1), .val (.int (Int32.ofNat ln)), .val (.int y0), .val (.int y1), .unset, .unset, .unset, .unset, .unset, .unset, .unset] [(.int (3 : Int32)), (.int (((v.toUInt32 >>> ((16 : Int32) &&& 31).toUInt32).toInt32) &&& (32767 : Int32)))])
  refine OGo.step (fun _ k => iremM X0 hx rfl (hb hby at_58) rfl (by decide) k) ?_
  show OGo p e below _ s₁ (mkF m 59 #[.val (.int n), .val (.int v), .val (.int flags), .val (.int x0), .val (.int x1), .val (.int (Int32.ofNat ln)), .val (.int y0), .val (.int y1), .unset, .unset, .unset, .unset, .unset, .unset, .unset] [(.int ((((v.toUInt32 >>> ((16 : Int32) &&& 31).toUInt32).toInt32) &&& (32767 : Int32)) % (3 : Int32)))])
  obtain ⟨lv, blv, elv⟩ := own_mod3 ((v.toUInt32 >>> ((16 : Int32) &&& 31).toUInt32).toInt32)
  rw [elv]
  show OGo p e below _ s₁ (mkF m 59 #[.val (.int n), .val (.int v), .val (.int flags), .val (.int x0), .val (.int x1), .val (.int (Int32.ofNat ln)), .val (.int y0), .val (.int y1), .unset, .unset, .unset, .unset, .unset, .unset, .unset] [(.int (Int32.ofNat lv))])
  refine OGo.step (fun _ k => XS.istore X0.here hx rfl (hb hby at_59) rfl (l' := #[.val (.int n), .val (.int v), .val (.int flags), .val (.int x0), .val (.int x1), .val (.int (Int32.ofNat ln)), .val (.int y0), .val (.int y1), .val (.int (Int32.ofNat lv)), .unset, .unset, .unset, .unset, .unset, .unset]) rfl k) ?_
  show OGo p e below _ s₁ (mkF m 61 #[.val (.int n), .val (.int v), .val (.int flags), .val (.int x0), .val (.int x1), .val (.int (Int32.ofNat ln)), .val (.int y0), .val (.int y1), .val (.int (Int32.ofNat lv)), .unset, .unset, .unset, .unset, .unset, .unset] [])
  refine OGo.step (fun _ k => XS.iloadN X0.here hx rfl (hb hby at_61) rfl k) ?_
  show OGo p e below _ s₁ (mkF m 62 #[.val (.int n), .val (.int v), .val (.int flags), .val (.int x0), .val (.int x1), .val (.int (Int32.ofNat ln)), .val (.int y0), .val (.int y1), .val (.int (Int32.ofNat lv)), .unset, .unset, .unset, .unset, .unset, .unset] [(.int flags)])
  refine OGo.step (fun _ k => XS.iconst X0.here hx rfl (hb hby at_62) k) ?_
  show OGo p e below _ s₁ (mkF m 63 #[.val (.int n), .val (.int v), .val (.int flags), .val (.int x0), .val (.int x1), .val (.int (Int32.ofNat ln)), .val (.int y0), .val (.int y1), .val (.int (Int32.ofNat lv)), .unset, .unset, .unset, .unset, .unset, .unset] [(.int (1 : Int32)), (.int flags)])
  refine OGo.step (fun _ k => XS.iand X0.here hx rfl (hb hby at_63) rfl k) ?_
  show OGo p e below _ s₁ (mkF m 64 #[.val (.int n), .val (.int v), .val (.int flags), .val (.int x0), .val (.int x1), .val (.int (Int32.ofNat ln)), .val (.int y0), .val (.int y1), .val (.int (Int32.ofNat lv)), .unset, .unset, .unset, .unset, .unset, .unset] [(.int (flags &&& (1 : Int32)))])
  have K72 : ∀ (mz : Int32) (_ : mz = 0 ∨ mz = 1), OGo p e below (EndH Z own_EL s room_1 (own_Q n0)) s₁ (mkF m 72 #[.val (.int n), .val (.int v), .val (.int flags), .val (.int x0), .val (.int x1), .val (.int (Int32.ofNat ln)), .val (.int y0), .val (.int y1), .val (.int (Int32.ofNat lv)), .unset, .unset, .unset, .unset, .unset, .unset] [(.int mz)]) := by
    intro mz hm01
    show OGo p e below _ s₁ (mkF m 72 #[.val (.int n), .val (.int v), .val (.int flags), .val (.int x0), .val (.int x1), .val (.int (Int32.ofNat ln)), .val (.int y0), .val (.int y1), .val (.int (Int32.ofNat lv)), .unset, .unset, .unset, .unset, .unset, .unset] [(.int mz)])
    refine OGo.step (fun _ k => XS.istore X0.here hx rfl (hb hby at_72) rfl (l' := #[.val (.int n), .val (.int v), .val (.int flags), .val (.int x0), .val (.int x1), .val (.int (Int32.ofNat ln)), .val (.int y0), .val (.int y1), .val (.int (Int32.ofNat lv)), .val (.int mz), .unset, .unset, .unset, .unset, .unset]) rfl k) ?_
    show OGo p e below _ s₁ (mkF m 74 #[.val (.int n), .val (.int v), .val (.int flags), .val (.int x0), .val (.int x1), .val (.int (Int32.ofNat ln)), .val (.int y0), .val (.int y1), .val (.int (Int32.ofNat lv)), .val (.int mz), .unset, .unset, .unset, .unset, .unset] [])
    refine OGo.step (fun _ k => XS.iload X0.here hx rfl (hb hby at_74) rfl k) ?_
    show OGo p e below _ s₁ (mkF m 76 #[.val (.int n), .val (.int v), .val (.int flags), .val (.int x0), .val (.int x1), .val (.int (Int32.ofNat ln)), .val (.int y0), .val (.int y1), .val (.int (Int32.ofNat lv)), .val (.int mz), .unset, .unset, .unset, .unset, .unset] [(.int (Int32.ofNat ln))])
    refine OGo.step (fun _ k => XS.iloadN X0.here hx rfl (hb hby at_76) rfl k) ?_
    show OGo p e below _ s₁ (mkF m 77 #[.val (.int n), .val (.int v), .val (.int flags), .val (.int x0), .val (.int x1), .val (.int (Int32.ofNat ln)), .val (.int y0), .val (.int y1), .val (.int (Int32.ofNat lv)), .val (.int mz), .unset, .unset, .unset, .unset, .unset] [(.int x0), (.int (Int32.ofNat ln))])
    refine OGo.step (fun _ k => XS.iload X0.here hx rfl (hb hby at_77) rfl k) ?_
    show OGo p e below _ s₁ (mkF m 79 #[.val (.int n), .val (.int v), .val (.int flags), .val (.int x0), .val (.int x1), .val (.int (Int32.ofNat ln)), .val (.int y0), .val (.int y1), .val (.int (Int32.ofNat lv)), .val (.int mz), .unset, .unset, .unset, .unset, .unset] [(.int x1), (.int x0), (.int (Int32.ofNat ln))])
    obtain ⟨v186, T186, L186, kk186, X186, hS186, hk186, hZ186, hown186, CR186, hQ186, st186⟩ := scallH X0 hx hZ hown (own_hEL hw) hS0 (Nat.zero_le _) H0 (hw _ (List.mem_of_getElem? (i := 0) rfl)) (hw _ (List.mem_of_getElem? (i := 1) rfl)) (hw _ (List.mem_of_getElem? (i := 2) rfl)) (hw _ (List.mem_of_getElem? (i := 3) rfl)) (by decide) (W := 0) (rm_make l Z a0 hw [] ln x0 x1 zc wf n0 h0 SS' O bln hx0 hx1) e0 (by decide) (by decide) (by decide) (by decide) (g := (mkF m 79 #[.val (.int n), .val (.int v), .val (.int flags), .val (.int x0), .val (.int x1), .val (.int (Int32.ofNat ln)), .val (.int y0), .val (.int y1), .val (.int (Int32.ofNat lv)), .val (.int mz), .unset, .unset, .unset, .unset, .unset] [(.int x1), (.int x0), (.int (Int32.ofNat ln))])) rfl (by rw [hml]; rfl) (argsL := [(.int (Int32.ofNat ln)), (.int x0), (.int x1)]) (rest := []) opd_29 rfl rfl rfl (by show 2 * 0 + _ ≤ _; exact Nat.le_of_eq rfl) (hb hby at_79)
    obtain ⟨a186, r186, kr186, rfl, sa186, N186, K186, I186⟩ := hQ186
    have NN186 := Fr.app N0 N186
    have KK186 : Keep h0 T186.heap [] := (Keep.refl h0 []).trans K186 all0
    have H186 := CR186.1
    have R186 := CHr.trans R0 CR186
    have sz_a186 : h0.size ≤ a186 := Nat.le_trans (Keep.refl h0 []).1 sa186
    refine OGo.step st186 ?_
    show OGo p e below _ T186 (mkF m 82 #[.val (.int n), .val (.int v), .val (.int flags), .val (.int x0), .val (.int x1), .val (.int (Int32.ofNat ln)), .val (.int y0), .val (.int y1), .val (.int (Int32.ofNat lv)), .val (.int mz), .unset, .unset, .unset, .unset, .unset] [(.ref a186)])
    obtain ⟨IE186, IC186, IF186, IV186⟩ := I186
    refine OGo.step (fun _ k => XS.astore X186.here hx rfl (hb hby at_82) rfl rfl (l' := #[.val (.int n), .val (.int v), .val (.int flags), .val (.int x0), .val (.int x1), .val (.int (Int32.ofNat ln)), .val (.int y0), .val (.int y1), .val (.int (Int32.ofNat lv)), .val (.int mz), .val (.ref a186), .unset, .unset, .unset, .unset]) rfl k) ?_
    show OGo p e below _ T186 (mkF m 84 #[.val (.int n), .val (.int v), .val (.int flags), .val (.int x0), .val (.int x1), .val (.int (Int32.ofNat ln)), .val (.int y0), .val (.int y1), .val (.int (Int32.ofNat lv)), .val (.int mz), .val (.ref a186), .unset, .unset, .unset, .unset] [])
    refine OGo.step (fun _ k => XS.iload X186.here hx rfl (hb hby at_84) rfl k) ?_
    show OGo p e below _ T186 (mkF m 86 #[.val (.int n), .val (.int v), .val (.int flags), .val (.int x0), .val (.int x1), .val (.int (Int32.ofNat ln)), .val (.int y0), .val (.int y1), .val (.int (Int32.ofNat lv)), .val (.int mz), .val (.ref a186), .unset, .unset, .unset, .unset] [(.int (Int32.ofNat lv))])
    refine OGo.step (fun _ k => XS.iload X186.here hx rfl (hb hby at_86) rfl k) ?_
    show OGo p e below _ T186 (mkF m 88 #[.val (.int n), .val (.int v), .val (.int flags), .val (.int x0), .val (.int x1), .val (.int (Int32.ofNat ln)), .val (.int y0), .val (.int y1), .val (.int (Int32.ofNat lv)), .val (.int mz), .val (.ref a186), .unset, .unset, .unset, .unset] [(.int y0), (.int (Int32.ofNat lv))])
    refine OGo.step (fun _ k => XS.iload X186.here hx rfl (hb hby at_88) rfl k) ?_
    show OGo p e below _ T186 (mkF m 90 #[.val (.int n), .val (.int v), .val (.int flags), .val (.int x0), .val (.int x1), .val (.int (Int32.ofNat ln)), .val (.int y0), .val (.int y1), .val (.int (Int32.ofNat lv)), .val (.int mz), .val (.ref a186), .unset, .unset, .unset, .unset] [(.int y1), (.int y0), (.int (Int32.ofNat lv))])
    obtain ⟨v187, T187, L187, kk187, X187, hS187, hk187, hZ187, hown187, CR187, hQ187, st187⟩ := scallH X186 hx hZ186 hown186 (own_hEL hw) hS186 hk186 H186 (hw _ (List.mem_of_getElem? (i := 0) rfl)) (hw _ (List.mem_of_getElem? (i := 1) rfl)) (hw _ (List.mem_of_getElem? (i := 2) rfl)) (hw _ (List.mem_of_getElem? (i := 3) rfl)) (by decide) (W := 0) (rm_make l Z a0 hw [] lv y0 y1 zc wf n0 T186.heap SS' (O.keep K186 all0) blv hy0 hy1) rfl (by decide) (by decide) (by decide) (by decide) (g := (mkF m 90 #[.val (.int n), .val (.int v), .val (.int flags), .val (.int x0), .val (.int x1), .val (.int (Int32.ofNat ln)), .val (.int y0), .val (.int y1), .val (.int (Int32.ofNat lv)), .val (.int mz), .val (.ref a186), .unset, .unset, .unset, .unset] [(.int y1), (.int y0), (.int (Int32.ofNat lv))])) rfl (by rw [hml]; rfl) (argsL := [(.int (Int32.ofNat lv)), (.int y0), (.int y1)]) (rest := []) opd_29 rfl rfl rfl (by show 2 * 0 + _ ≤ _; exact Nat.le_of_eq rfl) (hb hby at_90)
    obtain ⟨a187, r187, kr187, rfl, sa187, N187, K187, I187⟩ := hQ187
    have NN187 := Fr.app NN186 N187
    have KK187 : Keep h0 T187.heap [] := KK186.trans K187 all0
    have H187 := CR187.1
    have R187 := CHr.trans R186 CR187
    have sz_a187 : h0.size ≤ a187 := Nat.le_trans KK186.1 sa187
    refine OGo.step st187 ?_
    show OGo p e below _ T187 (mkF m 93 #[.val (.int n), .val (.int v), .val (.int flags), .val (.int x0), .val (.int x1), .val (.int (Int32.ofNat ln)), .val (.int y0), .val (.int y1), .val (.int (Int32.ofNat lv)), .val (.int mz), .val (.ref a186), .unset, .unset, .unset, .unset] [(.ref a187)])
    obtain ⟨IE187, IC187, IF187, IV187⟩ := I187
    refine OGo.step (fun _ k => XS.astore X187.here hx rfl (hb hby at_93) rfl rfl (l' := #[.val (.int n), .val (.int v), .val (.int flags), .val (.int x0), .val (.int x1), .val (.int (Int32.ofNat ln)), .val (.int y0), .val (.int y1), .val (.int (Int32.ofNat lv)), .val (.int mz), .val (.ref a186), .val (.ref a187), .unset, .unset, .unset]) rfl k) ?_
    show OGo p e below _ T187 (mkF m 95 #[.val (.int n), .val (.int v), .val (.int flags), .val (.int x0), .val (.int x1), .val (.int (Int32.ofNat ln)), .val (.int y0), .val (.int y1), .val (.int (Int32.ofNat lv)), .val (.int mz), .val (.ref a186), .val (.ref a187), .unset, .unset, .unset] [])
    obtain ⟨T188, h188, X188, e188, E188, A188, D188, -, st188⟩ := newO X187 hx hZ187 hown187 (hw _ (List.mem_of_getElem? (i := 26) rfl)) (hw _ (List.mem_of_getElem? (i := 27) rfl)) (hw _ (List.mem_of_getElem? (i := 28) rfl)) rfl (g := (mkF m 95 #[.val (.int n), .val (.int v), .val (.int flags), .val (.int x0), .val (.int x1), .val (.int (Int32.ofNat ln)), .val (.int y0), .val (.int y1), .val (.int (Int32.ofNat lv)), .val (.int mz), .val (.ref a186), .val (.ref a187), .unset, .unset, .unset] [])) rfl (hb hby at_95) (by decide) (by decide)
    obtain ⟨b188, g188⟩ : ∃ z, z = T187.heap.size := ⟨_, rfl⟩
    rw [← g188] at A188 D188 st188
    have sz_b188 : h0.size ≤ b188 := Nat.le_trans KK187.1 (Nat.le_of_eq g188.symm)
    have KK188 : Keep h0 h188 [] := KK187.ext E188
    have H188 := CHv.ext E188 H187
    have R188 := CHr.trans R187 (CHr.ext E188 H187)
    have F188_name : Fld Z h188 b188 "com/example/fenced_rbac/fencedrbac/cli/Options$Option" "name" "Ljava/lang/String;" .null := D188 (Or.inr (hw _ (List.mem_of_getElem? (i := 39) rfl))) (ty := (.object "java/lang/String")) (by decide)
    have F188_value : Fld Z h188 b188 "com/example/fenced_rbac/fencedrbac/cli/Options$Option" "value" "Ljava/lang/String;" .null := D188 (Or.inr (hw _ (List.mem_of_getElem? (i := 41) rfl))) (ty := (.object "java/lang/String")) (by decide)
    have F188_mandatory : Fld Z h188 b188 "com/example/fenced_rbac/fencedrbac/cli/Options$Option" "mandatory" "Z" (.int (0 : Int32)) := D188 (Or.inr (hw _ (List.mem_of_getElem? (i := 43) rfl))) (ty := .boolean) (by decide)
    refine OGo.step st188 ?_
    show OGo p e below _ T188 (mkF m 98 #[.val (.int n), .val (.int v), .val (.int flags), .val (.int x0), .val (.int x1), .val (.int (Int32.ofNat ln)), .val (.int y0), .val (.int y1), .val (.int (Int32.ofNat lv)), .val (.int mz), .val (.ref a186), .val (.ref a187), .unset, .unset, .unset] [(.ref b188)])
    refine OGo.step (fun _ k => XS.dup X188.here hx rfl (hb hby at_98) rfl rfl k) ?_
    show OGo p e below _ T188 (mkF m 99 #[.val (.int n), .val (.int v), .val (.int flags), .val (.int x0), .val (.int x1), .val (.int (Int32.ofNat ln)), .val (.int y0), .val (.int y1), .val (.int (Int32.ofNat lv)), .val (.int mz), .val (.ref a186), .val (.ref a187), .unset, .unset, .unset] [(.ref b188), (.ref b188)])
    refine OGo.step (fun _ k => XS.aload X188.here hx rfl (hb hby at_99) rfl rfl k) ?_
    show OGo p e below _ T188 (mkF m 101 #[.val (.int n), .val (.int v), .val (.int flags), .val (.int x0), .val (.int x1), .val (.int (Int32.ofNat ln)), .val (.int y0), .val (.int y1), .val (.int (Int32.ofNat lv)), .val (.int mz), .val (.ref a186), .val (.ref a187), .unset, .unset, .unset] [(.ref a186), (.ref b188), (.ref b188)])
    refine OGo.step (fun _ k => XS.aload X188.here hx rfl (hb hby at_101) rfl rfl k) ?_
    show OGo p e below _ T188 (mkF m 103 #[.val (.int n), .val (.int v), .val (.int flags), .val (.int x0), .val (.int x1), .val (.int (Int32.ofNat ln)), .val (.int y0), .val (.int y1), .val (.int (Int32.ofNat lv)), .val (.int mz), .val (.ref a186), .val (.ref a187), .unset, .unset, .unset] [(.ref a187), (.ref a186), (.ref b188), (.ref b188)])
    refine OGo.step (fun _ k => XS.iload X188.here hx rfl (hb hby at_103) rfl k) ?_
    show OGo p e below _ T188 (mkF m 105 #[.val (.int n), .val (.int v), .val (.int flags), .val (.int x0), .val (.int x1), .val (.int (Int32.ofNat ln)), .val (.int y0), .val (.int y1), .val (.int (Int32.ofNat lv)), .val (.int mz), .val (.ref a186), .val (.ref a187), .unset, .unset, .unset] [(.int mz), (.ref a187), (.ref a186), (.ref b188), (.ref b188)])
    have q189 := (Safe.ext E188 H187 (Safe.new (Nat.le_of_eq g188.symm)))
    obtain ⟨v190, T190, L190, X190, hQ190, st190⟩ := icall X188 hx hZ187 rfl hown187 (hw _ (List.mem_of_getElem? (i := 29) rfl)) (hw _ (List.mem_of_getElem? (i := 30) rfl)) (hw _ (List.mem_of_getElem? (i := 28) rfl)) (hw _ (List.mem_of_getElem? (i := 31) rfl)) (by decide) (W := 1) (rm_opt l Z a0 hw [] b188 a186 a187 mz n0 h188 A188 F188_name F188_value F188_mandatory (Nat.le_trans Z0 sz_b188) hm01) e188 (by decide) (by decide) (by decide) (by decide) (g := (mkF m 105 #[.val (.int n), .val (.int v), .val (.int flags), .val (.int x0), .val (.int x1), .val (.int (Int32.ofNat ln)), .val (.int y0), .val (.int y1), .val (.int (Int32.ofNat lv)), .val (.int mz), .val (.ref a186), .val (.ref a187), .unset, .unset, .unset] [(.int mz), (.ref a187), (.ref a186), (.ref b188), (.ref b188)])) rfl (by rw [hml]; rfl) (a := b188) (argsL := [(.ref a186), (.ref a187), (.int mz)]) (rest := [(.ref b188)]) opd_30 rfl rfl rfl (by show 2 * 0 + _ ≤ _; exact Nat.le_of_eq rfl) (hb hby at_105)
    obtain ⟨rfl, N190, K190, OE190, ON190, OV190, OM190⟩ := hQ190
    have NN190 := Fr.app NN187 N190
    have KK190 : Keep h0 T190.heap [] := KK188.trans K190 (allS (Or.inr sz_b188) all0)
    have H190 := CHv.keep K190 (sfS q189 sf0) H188
    have R190 := CHr.trans R188 (CHr.keep K190 (sfS q189 sf0) H188)
    refine OGo.step st190 ?_
    show OGo p e below _ T190 (mkF m 108 #[.val (.int n), .val (.int v), .val (.int flags), .val (.int x0), .val (.int x1), .val (.int (Int32.ofNat ln)), .val (.int y0), .val (.int y1), .val (.int (Int32.ofNat lv)), .val (.int mz), .val (.ref a186), .val (.ref a187), .unset, .unset, .unset] [(.ref b188)])
    refine OGo.step (fun _ k => XS.astore X190.here hx rfl (hb hby at_108) rfl rfl (l' := #[.val (.int n), .val (.int v), .val (.int flags), .val (.int x0), .val (.int x1), .val (.int (Int32.ofNat ln)), .val (.int y0), .val (.int y1), .val (.int (Int32.ofNat lv)), .val (.int mz), .val (.ref a186), .val (.ref a187), .val (.ref b188), .unset, .unset]) rfl k) ?_
    show OGo p e below _ T190 (mkF m 110 #[.val (.int n), .val (.int v), .val (.int flags), .val (.int x0), .val (.int x1), .val (.int (Int32.ofNat ln)), .val (.int y0), .val (.int y1), .val (.int (Int32.ofNat lv)), .val (.int mz), .val (.ref a186), .val (.ref a187), .val (.ref b188), .unset, .unset] [])
    refine OGo.step (fun _ k => XS.aload X190.here hx rfl (hb hby at_110) rfl rfl k) ?_
    show OGo p e below _ T190 (mkF m 112 #[.val (.int n), .val (.int v), .val (.int flags), .val (.int x0), .val (.int x1), .val (.int (Int32.ofNat ln)), .val (.int y0), .val (.int y1), .val (.int (Int32.ofNat lv)), .val (.int mz), .val (.ref a186), .val (.ref a187), .val (.ref b188), .unset, .unset] [(.ref b188)])
    have q191 := ((((O.keep K186 all0).keep K187 all0).ext E188).keep K190 (allS (Nat.le_trans Z0 sz_b188) all0))
    have q192 := (((IC186.keep K187 nin0).ext E188).keep K190 (ninS (Nat.ne_of_lt (Nat.lt_of_lt_of_le (IE186.keep K187).lt (Nat.le_of_eq g188.symm))) nin0))
    have q193 := (((IF186.keep K187 nin0).ext E188).keep K190 (ninS (Nat.ne_of_lt (Nat.lt_of_lt_of_le (IE186.keep K187).lt (Nat.le_of_eq g188.symm))) nin0))
    have q194 := (((IV186.keep K187 nin0).ext E188).keep K190 (ninS (Nat.ne_of_lt (Nat.lt_of_lt_of_le (IV186.keep K187 nin0).lt (Nat.le_of_eq g188.symm))) nin0))
    have q195 := ((IC187.ext E188).keep K190 (ninS (Nat.ne_of_lt (Nat.lt_of_lt_of_le IE187.lt (Nat.le_of_eq g188.symm))) nin0))
    have q196 := ((IF187.ext E188).keep K190 (ninS (Nat.ne_of_lt (Nat.lt_of_lt_of_le IE187.lt (Nat.le_of_eq g188.symm))) nin0))
    have q197 := ((IV187.ext E188).keep K190 (ninS (Nat.ne_of_lt (Nat.lt_of_lt_of_le IV187.lt (Nat.le_of_eq g188.symm))) nin0))
    obtain ⟨v198, T198, L198, kk198, X198, hS198, hk198, hZ198, hown198, CR198, hQ198, st198⟩ := vcallH X190 hx hZ187 hown187 (own_hEL hw) hS187 (Nat.le_trans (Nat.le_trans hk187 E188.1) K190.1) H190 (hw _ (List.mem_of_getElem? (i := 44) rfl)) (hw _ (List.mem_of_getElem? (i := 45) rfl)) (hw _ (List.mem_of_getElem? (i := 47) rfl)) rfl (hw _ (List.mem_of_getElem? (i := 47) rfl)) (hw _ (List.mem_of_getElem? (i := 46) rfl)) (hw _ (List.mem_of_getElem? (i := 28) rfl)) (hw _ (List.mem_of_getElem? (i := 48) rfl)) (by decide) (W := 0) (rm_usage l Z a0 hw [] b188 a186 r186 a187 r187 kr186 kr187 (own_b8 (own_mk ln x0 x1)) (own_b8 (own_mk lv y0 y1)) mz zc wf n0 T190.heap SS' q191 ⟨(((IE186.keep K187).ext E188).keep K190), q192, q193, q194⟩ ⟨((IE187.ext E188).keep K190), q195, q196, q197⟩ ON190 OV190 OM190 (own_mklen _ _ bln) (own_mklen _ _ blv)) rfl (by decide) (by decide) (by decide) (by decide) (g := (mkF m 112 #[.val (.int n), .val (.int v), .val (.int flags), .val (.int x0), .val (.int x1), .val (.int (Int32.ofNat ln)), .val (.int y0), .val (.int y1), .val (.int (Int32.ofNat lv)), .val (.int mz), .val (.ref a186), .val (.ref a187), .val (.ref b188), .unset, .unset] [(.ref b188)])) rfl (by rw [hml]; rfl) OE190 (argsL := []) (rest := []) opd_27 rfl rfl rfl (by show 2 * 0 + _ ≤ _; exact Nat.le_of_eq rfl) (hb hby at_112)
    obtain ⟨a198, r198, kr198, rfl, N198, K198, I198⟩ := hQ198
    have NN198 := Fr.app NN190 N198
    have KK198 : Keep h0 T198.heap [] := KK190.trans K198 all0
    have H198 := CR198.1
    have R198 := CHr.trans R190 CR198
    refine OGo.step st198 ?_
    show OGo p e below _ T198 (mkF m 115 #[.val (.int n), .val (.int v), .val (.int flags), .val (.int x0), .val (.int x1), .val (.int (Int32.ofNat ln)), .val (.int y0), .val (.int y1), .val (.int (Int32.ofNat lv)), .val (.int mz), .val (.ref a186), .val (.ref a187), .val (.ref b188), .unset, .unset] [(.ref a198)])
    refine OGo.step (fun _ k => XS.astore X198.here hx rfl (hb hby at_115) rfl rfl (l' := #[.val (.int n), .val (.int v), .val (.int flags), .val (.int x0), .val (.int x1), .val (.int (Int32.ofNat ln)), .val (.int y0), .val (.int y1), .val (.int (Int32.ofNat lv)), .val (.int mz), .val (.ref a186), .val (.ref a187), .val (.ref b188), .val (.ref a198), .unset]) rfl k) ?_
    show OGo p e below _ T198 (mkF m 117 #[.val (.int n), .val (.int v), .val (.int flags), .val (.int x0), .val (.int x1), .val (.int (Int32.ofNat ln)), .val (.int y0), .val (.int y1), .val (.int (Int32.ofNat lv)), .val (.int mz), .val (.ref a186), .val (.ref a187), .val (.ref b188), .val (.ref a198), .unset] [])
    refine OGo.step (fun _ k => XS.aload X198.here hx rfl (hb hby at_117) rfl rfl k) ?_
    show OGo p e below _ T198 (mkF m 119 #[.val (.int n), .val (.int v), .val (.int flags), .val (.int x0), .val (.int x1), .val (.int (Int32.ofNat ln)), .val (.int y0), .val (.int y1), .val (.int (Int32.ofNat lv)), .val (.int mz), .val (.ref a186), .val (.ref a187), .val (.ref b188), .val (.ref a198), .unset] [(.ref a198)])
    refine OGo.step (fun _ k => XS.ifnonnullYes X198.here hx rfl (pc0 := 119) (pc' := 124) rfl (hb hby at_119) rfl (by decide) (by decide) k) ?_
    show OGo p e below _ T198 (mkF m 124 #[.val (.int n), .val (.int v), .val (.int flags), .val (.int x0), .val (.int x1), .val (.int (Int32.ofNat ln)), .val (.int y0), .val (.int y1), .val (.int (Int32.ofNat lv)), .val (.int mz), .val (.ref a186), .val (.ref a187), .val (.ref b188), .val (.ref a198), .unset] [])
    refine OGo.step (fun _ k => XS.iload X198.here hx rfl (hb hby at_124) rfl k) ?_
    show OGo p e below _ T198 (mkF m 126 #[.val (.int n), .val (.int v), .val (.int flags), .val (.int x0), .val (.int x1), .val (.int (Int32.ofNat ln)), .val (.int y0), .val (.int y1), .val (.int (Int32.ofNat lv)), .val (.int mz), .val (.ref a186), .val (.ref a187), .val (.ref b188), .val (.ref a198), .unset] [(.int mz)])
    have K134 : ∀ (oo : Nat) (_ : (mz = 0 ∧ oo = 1) ∨ (¬ mz = 0 ∧ oo = 0)), OGo p e below (EndH Z own_EL s room_1 (own_Q n0)) T198 (mkF m 134 #[.val (.int n), .val (.int v), .val (.int flags), .val (.int x0), .val (.int x1), .val (.int (Int32.ofNat ln)), .val (.int y0), .val (.int y1), .val (.int (Int32.ofNat lv)), .val (.int mz), .val (.ref a186), .val (.ref a187), .val (.ref b188), .val (.ref a198), .unset] [(.int (Int32.ofNat oo))]) := by
      intro oo ho
      obtain ⟨P0, P1, P2, P3, P4, P5, P6⟩ := own_facts (x0 := x0) (x1 := x1) (y0 := y0) (y1 := y1) bln blv ho
      generalize own_us mz (own_b8 (own_mk ln x0 x1)) (own_b8 (own_mk lv y0 y1)) = us at *
      have hoo : oo ≤ 1 := by omega
      show OGo p e below _ T198 (mkF m 134 #[.val (.int n), .val (.int v), .val (.int flags), .val (.int x0), .val (.int x1), .val (.int (Int32.ofNat ln)), .val (.int y0), .val (.int y1), .val (.int (Int32.ofNat lv)), .val (.int mz), .val (.ref a186), .val (.ref a187), .val (.ref b188), .val (.ref a198), .unset] [(.int (Int32.ofNat oo))])
      refine OGo.step (fun _ k => XS.istore X198.here hx rfl (hb hby at_134) rfl (l' := #[.val (.int n), .val (.int v), .val (.int flags), .val (.int x0), .val (.int x1), .val (.int (Int32.ofNat ln)), .val (.int y0), .val (.int y1), .val (.int (Int32.ofNat lv)), .val (.int mz), .val (.ref a186), .val (.ref a187), .val (.ref b188), .val (.ref a198), .val (.int (Int32.ofNat oo))]) rfl k) ?_
      show OGo p e below _ T198 (mkF m 136 #[.val (.int n), .val (.int v), .val (.int flags), .val (.int x0), .val (.int x1), .val (.int (Int32.ofNat ln)), .val (.int y0), .val (.int y1), .val (.int (Int32.ofNat lv)), .val (.int mz), .val (.ref a186), .val (.ref a187), .val (.ref b188), .val (.ref a198), .val (.int (Int32.ofNat oo))] [])
      refine OGo.step (fun _ k => XS.aload X198.here hx rfl (hb hby at_136) rfl rfl k) ?_
      show OGo p e below _ T198 (mkF m 138 #[.val (.int n), .val (.int v), .val (.int flags), .val (.int x0), .val (.int x1), .val (.int (Int32.ofNat ln)), .val (.int y0), .val (.int y1), .val (.int (Int32.ofNat lv)), .val (.int mz), .val (.ref a186), .val (.ref a187), .val (.ref b188), .val (.ref a198), .val (.int (Int32.ofNat oo))] [(.ref a198)])
      obtain ⟨v199, T199, L199, X199, hQ199, st199⟩ := vcall X198 hx hZ198 hown198 (hw _ (List.mem_of_getElem? (i := 163) rfl)) (hw _ (List.mem_of_getElem? (i := 78) rfl)) (hw _ (List.mem_of_getElem? (i := 80) rfl)) rfl (hw _ (List.mem_of_getElem? (i := 80) rfl)) (hw _ (List.mem_of_getElem? (i := 79) rfl)) (hw _ (List.mem_of_getElem? (i := 6) rfl)) (hw _ (List.mem_of_getElem? (i := 81) rfl)) (by decide) (W := 0) (rm_length l Z a0 hw [] a198 r198 kr198 us zc wf n0 T198.heap SS' (q191.keep K198 all0) I198) rfl (by decide) (by decide) (by decide) (by decide) (g := (mkF m 138 #[.val (.int n), .val (.int v), .val (.int flags), .val (.int x0), .val (.int x1), .val (.int (Int32.ofNat ln)), .val (.int y0), .val (.int y1), .val (.int (Int32.ofNat lv)), .val (.int mz), .val (.ref a186), .val (.ref a187), .val (.ref b188), .val (.ref a198), .val (.int (Int32.ofNat oo))] [(.ref a198)])) rfl (by rw [hml]; rfl) I198.1 (argsL := []) (rest := []) opd_8 rfl rfl rfl (by show 2 * 0 + _ ≤ _; exact Nat.le_of_eq rfl) (hb hby at_138)
      obtain ⟨rfl, rfl, e199⟩ := hQ199
      rw [List.append_nil] at X199
      refine OGo.step st199 ?_
      show OGo p e below _ T199 (mkF m 141 #[.val (.int n), .val (.int v), .val (.int flags), .val (.int x0), .val (.int x1), .val (.int (Int32.ofNat ln)), .val (.int y0), .val (.int y1), .val (.int (Int32.ofNat lv)), .val (.int mz), .val (.ref a186), .val (.ref a187), .val (.ref b188), .val (.ref a198), .val (.int (Int32.ofNat oo))] [(.int (Int32.ofNat us.length))])
      refine OGo.step (fun _ k => XS.iload X199.here hx rfl (hb hby at_141) rfl k) ?_
      show OGo p e below _ T199 (mkF m 143 #[.val (.int n), .val (.int v), .val (.int flags), .val (.int x0), .val (.int x1), .val (.int (Int32.ofNat ln)), .val (.int y0), .val (.int y1), .val (.int (Int32.ofNat lv)), .val (.int mz), .val (.ref a186), .val (.ref a187), .val (.ref b188), .val (.ref a198), .val (.int (Int32.ofNat oo))] [(.int (Int32.ofNat oo)), (.int (Int32.ofNat us.length))])
      refine OGo.step (fun _ k => XS.iload X199.here hx rfl (hb hby at_143) rfl k) ?_
      show OGo p e below _ T199 (mkF m 145 #[.val (.int n), .val (.int v), .val (.int flags), .val (.int x0), .val (.int x1), .val (.int (Int32.ofNat ln)), .val (.int y0), .val (.int y1), .val (.int (Int32.ofNat lv)), .val (.int mz), .val (.ref a186), .val (.ref a187), .val (.ref b188), .val (.ref a198), .val (.int (Int32.ofNat oo))] [(.int (Int32.ofNat ln)), (.int (Int32.ofNat oo)), (.int (Int32.ofNat us.length))])
      refine OGo.step (fun _ k => XS.iadd X199.here hx rfl (hb hby at_145) rfl k) ?_
      show OGo p e below _ T199 (mkF m 146 #[.val (.int n), .val (.int v), .val (.int flags), .val (.int x0), .val (.int x1), .val (.int (Int32.ofNat ln)), .val (.int y0), .val (.int y1), .val (.int (Int32.ofNat lv)), .val (.int mz), .val (.ref a186), .val (.ref a187), .val (.ref b188), .val (.ref a198), .val (.int (Int32.ofNat oo))] [(.int ((Int32.ofNat oo) + (Int32.ofNat ln))), (.int (Int32.ofNat us.length))])
      rw [own_addn]
      show OGo p e below _ T199 (mkF m 146 #[.val (.int n), .val (.int v), .val (.int flags), .val (.int x0), .val (.int x1), .val (.int (Int32.ofNat ln)), .val (.int y0), .val (.int y1), .val (.int (Int32.ofNat lv)), .val (.int mz), .val (.ref a186), .val (.ref a187), .val (.ref b188), .val (.ref a198), .val (.int (Int32.ofNat oo))] [(.int (Int32.ofNat (oo + ln))), (.int (Int32.ofNat us.length))])
      refine OGo.step (fun _ k => XS.iconst X199.here hx rfl (hb hby at_146) k) ?_
      show OGo p e below _ T199 (mkF m 147 #[.val (.int n), .val (.int v), .val (.int flags), .val (.int x0), .val (.int x1), .val (.int (Int32.ofNat ln)), .val (.int y0), .val (.int y1), .val (.int (Int32.ofNat lv)), .val (.int mz), .val (.ref a186), .val (.ref a187), .val (.ref b188), .val (.ref a198), .val (.int (Int32.ofNat oo))] [(.int (1 : Int32)), (.int (Int32.ofNat (oo + ln))), (.int (Int32.ofNat us.length))])
      refine OGo.step (fun _ k => XS.iadd X199.here hx rfl (hb hby at_147) rfl k) ?_
      show OGo p e below _ T199 (mkF m 148 #[.val (.int n), .val (.int v), .val (.int flags), .val (.int x0), .val (.int x1), .val (.int (Int32.ofNat ln)), .val (.int y0), .val (.int y1), .val (.int (Int32.ofNat lv)), .val (.int mz), .val (.ref a186), .val (.ref a187), .val (.ref b188), .val (.ref a198), .val (.int (Int32.ofNat oo))] [(.int ((Int32.ofNat (oo + ln)) + (1 : Int32))), (.int (Int32.ofNat us.length))])
      rw [own_inc]
      show OGo p e below _ T199 (mkF m 148 #[.val (.int n), .val (.int v), .val (.int flags), .val (.int x0), .val (.int x1), .val (.int (Int32.ofNat ln)), .val (.int y0), .val (.int y1), .val (.int (Int32.ofNat lv)), .val (.int mz), .val (.ref a186), .val (.ref a187), .val (.ref b188), .val (.ref a198), .val (.int (Int32.ofNat oo))] [(.int (Int32.ofNat (oo + ln + 1))), (.int (Int32.ofNat us.length))])
      refine OGo.step (fun _ k => XS.iload X199.here hx rfl (hb hby at_148) rfl k) ?_
      show OGo p e below _ T199 (mkF m 150 #[.val (.int n), .val (.int v), .val (.int flags), .val (.int x0), .val (.int x1), .val (.int (Int32.ofNat ln)), .val (.int y0), .val (.int y1), .val (.int (Int32.ofNat lv)), .val (.int mz), .val (.ref a186), .val (.ref a187), .val (.ref b188), .val (.ref a198), .val (.int (Int32.ofNat oo))] [(.int (Int32.ofNat lv)), (.int (Int32.ofNat (oo + ln + 1))), (.int (Int32.ofNat us.length))])
      refine OGo.step (fun _ k => XS.iadd X199.here hx rfl (hb hby at_150) rfl k) ?_
      show OGo p e below _ T199 (mkF m 151 #[.val (.int n), .val (.int v), .val (.int flags), .val (.int x0), .val (.int x1), .val (.int (Int32.ofNat ln)), .val (.int y0), .val (.int y1), .val (.int (Int32.ofNat lv)), .val (.int mz), .val (.ref a186), .val (.ref a187), .val (.ref b188), .val (.ref a198), .val (.int (Int32.ofNat oo))] [(.int ((Int32.ofNat (oo + ln + 1)) + (Int32.ofNat lv))), (.int (Int32.ofNat us.length))])
      rw [own_addn]
      show OGo p e below _ T199 (mkF m 151 #[.val (.int n), .val (.int v), .val (.int flags), .val (.int x0), .val (.int x1), .val (.int (Int32.ofNat ln)), .val (.int y0), .val (.int y1), .val (.int (Int32.ofNat lv)), .val (.int mz), .val (.ref a186), .val (.ref a187), .val (.ref b188), .val (.ref a198), .val (.int (Int32.ofNat oo))] [(.int (Int32.ofNat (oo + ln + 1 + lv))), (.int (Int32.ofNat us.length))])
      refine OGo.step (fun _ k => XS.iload X199.here hx rfl (hb hby at_151) rfl k) ?_
      show OGo p e below _ T199 (mkF m 153 #[.val (.int n), .val (.int v), .val (.int flags), .val (.int x0), .val (.int x1), .val (.int (Int32.ofNat ln)), .val (.int y0), .val (.int y1), .val (.int (Int32.ofNat lv)), .val (.int mz), .val (.ref a186), .val (.ref a187), .val (.ref b188), .val (.ref a198), .val (.int (Int32.ofNat oo))] [(.int (Int32.ofNat oo)), (.int (Int32.ofNat (oo + ln + 1 + lv))), (.int (Int32.ofNat us.length))])
      refine OGo.step (fun _ k => XS.iadd X199.here hx rfl (hb hby at_153) rfl k) ?_
      show OGo p e below _ T199 (mkF m 154 #[.val (.int n), .val (.int v), .val (.int flags), .val (.int x0), .val (.int x1), .val (.int (Int32.ofNat ln)), .val (.int y0), .val (.int y1), .val (.int (Int32.ofNat lv)), .val (.int mz), .val (.ref a186), .val (.ref a187), .val (.ref b188), .val (.ref a198), .val (.int (Int32.ofNat oo))] [(.int ((Int32.ofNat (oo + ln + 1 + lv)) + (Int32.ofNat oo))), (.int (Int32.ofNat us.length))])
      rw [own_addn]
      show OGo p e below _ T199 (mkF m 154 #[.val (.int n), .val (.int v), .val (.int flags), .val (.int x0), .val (.int x1), .val (.int (Int32.ofNat ln)), .val (.int y0), .val (.int y1), .val (.int (Int32.ofNat lv)), .val (.int mz), .val (.ref a186), .val (.ref a187), .val (.ref b188), .val (.ref a198), .val (.int (Int32.ofNat oo))] [(.int (Int32.ofNat (oo + ln + 1 + lv + oo))), (.int (Int32.ofNat us.length))])
      refine OGo.step (fun _ k => XS.icmpYes X199.here hx rfl (pc0 := 154) (pc' := 159) rfl (hb hby at_154) rfl (teq (by rw [P0])).1 (by decide) (by decide) k) ?_
      show OGo p e below _ T199 (mkF m 159 #[.val (.int n), .val (.int v), .val (.int flags), .val (.int x0), .val (.int x1), .val (.int (Int32.ofNat ln)), .val (.int y0), .val (.int y1), .val (.int (Int32.ofNat lv)), .val (.int mz), .val (.ref a186), .val (.ref a187), .val (.ref b188), .val (.ref a198), .val (.int (Int32.ofNat oo))] [])
      refine OGo.step (fun _ k => XS.iload X199.here hx rfl (hb hby at_159) rfl k) ?_
      show OGo p e below _ T199 (mkF m 161 #[.val (.int n), .val (.int v), .val (.int flags), .val (.int x0), .val (.int x1), .val (.int (Int32.ofNat ln)), .val (.int y0), .val (.int y1), .val (.int (Int32.ofNat lv)), .val (.int mz), .val (.ref a186), .val (.ref a187), .val (.ref b188), .val (.ref a198), .val (.int (Int32.ofNat oo))] [(.int mz)])
      have K302 : ∀ (T : State) (locs : List Loc), Stand p l e room_1 (s.setVm T198.vm) m #[(.int n), (.int v), (.int flags)] below meth c T locs 27 115 → Fr n0 locs → T.heap = T198.heap → OGo p e below (EndH Z own_EL s room_1 (own_Q n0)) T (mkF m 302 #[.val (.int n), .val (.int v), .val (.int flags), .val (.int x0), .val (.int x1), .val (.int (Int32.ofNat ln)), .val (.int y0), .val (.int y1), .val (.int (Int32.ofNat lv)), .val (.int mz), .val (.ref a186), .val (.ref a187), .val (.ref b188), .val (.ref a198), .val (.int (Int32.ofNat oo))] []) := by
        intro T locs X N eT
        show OGo p e below _ T (mkF m 302 #[.val (.int n), .val (.int v), .val (.int flags), .val (.int x0), .val (.int x1), .val (.int (Int32.ofNat ln)), .val (.int y0), .val (.int y1), .val (.int (Int32.ofNat lv)), .val (.int mz), .val (.ref a186), .val (.ref a187), .val (.ref b188), .val (.ref a198), .val (.int (Int32.ofNat oo))] [])
        refine OGo.step (fun _ k => XS.iconst X.here hx rfl (hb hby at_302) k) ?_
        show OGo p e below _ T (mkF m 303 #[.val (.int n), .val (.int v), .val (.int flags), .val (.int x0), .val (.int x1), .val (.int (Int32.ofNat ln)), .val (.int y0), .val (.int y1), .val (.int (Int32.ofNat lv)), .val (.int mz), .val (.ref a186), .val (.ref a187), .val (.ref b188), .val (.ref a198), .val (.int (Int32.ofNat oo))] [(.int (1 : Int32))])
        exact OGo.retH X hx hZ198 (own_hEL hw) hs0 eT hS198 hk198 H198 R198 (t := .boolean) hret hlk rfl (Or.inl ⟨rfl, by simp, _, rfl⟩) (hb hby at_303) (by decide) (by decide) ⟨rfl, N⟩
      have K277 : ∀ (T : State) (locs : List Loc), Stand p l e room_1 (s.setVm T198.vm) m #[(.int n), (.int v), (.int flags)] below meth c T locs 27 115 → Fr n0 locs → T.heap = T198.heap → OGo p e below (EndH Z own_EL s room_1 (own_Q n0)) T (mkF m 277 #[.val (.int n), .val (.int v), .val (.int flags), .val (.int x0), .val (.int x1), .val (.int (Int32.ofNat ln)), .val (.int y0), .val (.int y1), .val (.int (Int32.ofNat lv)), .val (.int mz), .val (.ref a186), .val (.ref a187), .val (.ref b188), .val (.ref a198), .val (.int (Int32.ofNat oo))] []) := by
        intro T locs X N eT
        show OGo p e below _ T (mkF m 277 #[.val (.int n), .val (.int v), .val (.int flags), .val (.int x0), .val (.int x1), .val (.int (Int32.ofNat ln)), .val (.int y0), .val (.int y1), .val (.int (Int32.ofNat lv)), .val (.int mz), .val (.ref a186), .val (.ref a187), .val (.ref b188), .val (.ref a198), .val (.int (Int32.ofNat oo))] [])
        refine OGo.step (fun _ k => XS.iload X.here hx rfl (hb hby at_277) rfl k) ?_
        show OGo p e below _ T (mkF m 279 #[.val (.int n), .val (.int v), .val (.int flags), .val (.int x0), .val (.int x1), .val (.int (Int32.ofNat ln)), .val (.int y0), .val (.int y1), .val (.int (Int32.ofNat lv)), .val (.int mz), .val (.ref a186), .val (.ref a187), .val (.ref b188), .val (.ref a198), .val (.int (Int32.ofNat oo))] [(.int (Int32.ofNat lv))])
        refine OGo.step (fun _ k => XS.iconst X.here hx rfl (hb hby at_279) k) ?_
        show OGo p e below _ T (mkF m 280 #[.val (.int n), .val (.int v), .val (.int flags), .val (.int x0), .val (.int x1), .val (.int (Int32.ofNat ln)), .val (.int y0), .val (.int y1), .val (.int (Int32.ofNat lv)), .val (.int mz), .val (.ref a186), .val (.ref a187), .val (.ref b188), .val (.ref a198), .val (.int (Int32.ofNat oo))] [(.int (2 : Int32)), (.int (Int32.ofNat lv))])
        by_cases c1 : lv < 2
        · refine OGo.step (fun _ k => XS.icmpYes X.here hx rfl (pc0 := 280) (pc' := 302) rfl (hb hby at_280) rfl (tlt ((own_lt (by omega) (by decide)).mpr c1)).1 (by decide) (by decide) k) ?_
          show OGo p e below _ T (mkF m 302 #[.val (.int n), .val (.int v), .val (.int flags), .val (.int x0), .val (.int x1), .val (.int (Int32.ofNat ln)), .val (.int y0), .val (.int y1), .val (.int (Int32.ofNat lv)), .val (.int mz), .val (.ref a186), .val (.ref a187), .val (.ref b188), .val (.ref a198), .val (.int (Int32.ofNat oo))] [])
          exact K302 _ _ X N eT
        refine OGo.step (fun _ k => XS.icmpNo X.here hx rfl (hb hby at_280) rfl (flt (fun q => c1 ((own_lt (by omega) (by decide)).mp q))).1 k) ?_
        show OGo p e below _ T (mkF m 283 #[.val (.int n), .val (.int v), .val (.int flags), .val (.int x0), .val (.int x1), .val (.int (Int32.ofNat ln)), .val (.int y0), .val (.int y1), .val (.int (Int32.ofNat lv)), .val (.int mz), .val (.ref a186), .val (.ref a187), .val (.ref b188), .val (.ref a198), .val (.int (Int32.ofNat oo))] [])
        refine OGo.step (fun _ k => XS.aload X.here hx rfl (hb hby at_283) rfl rfl k) ?_
        show OGo p e below _ T (mkF m 285 #[.val (.int n), .val (.int v), .val (.int flags), .val (.int x0), .val (.int x1), .val (.int (Int32.ofNat ln)), .val (.int y0), .val (.int y1), .val (.int (Int32.ofNat lv)), .val (.int mz), .val (.ref a186), .val (.ref a187), .val (.ref b188), .val (.ref a198), .val (.int (Int32.ofNat oo))] [(.ref a198)])
        refine OGo.step (fun _ k => XS.iload X.here hx rfl (hb hby at_285) rfl k) ?_
        show OGo p e below _ T (mkF m 287 #[.val (.int n), .val (.int v), .val (.int flags), .val (.int x0), .val (.int x1), .val (.int (Int32.ofNat ln)), .val (.int y0), .val (.int y1), .val (.int (Int32.ofNat lv)), .val (.int mz), .val (.ref a186), .val (.ref a187), .val (.ref b188), .val (.ref a198), .val (.int (Int32.ofNat oo))] [(.int (Int32.ofNat oo)), (.ref a198)])
        refine OGo.step (fun _ k => XS.iload X.here hx rfl (hb hby at_287) rfl k) ?_
        show OGo p e below _ T (mkF m 289 #[.val (.int n), .val (.int v), .val (.int flags), .val (.int x0), .val (.int x1), .val (.int (Int32.ofNat ln)), .val (.int y0), .val (.int y1), .val (.int (Int32.ofNat lv)), .val (.int mz), .val (.ref a186), .val (.ref a187), .val (.ref b188), .val (.ref a198), .val (.int (Int32.ofNat oo))] [(.int (Int32.ofNat ln)), (.int (Int32.ofNat oo)), (.ref a198)])
        refine OGo.step (fun _ k => XS.iadd X.here hx rfl (hb hby at_289) rfl k) ?_
        show OGo p e below _ T (mkF m 290 #[.val (.int n), .val (.int v), .val (.int flags), .val (.int x0), .val (.int x1), .val (.int (Int32.ofNat ln)), .val (.int y0), .val (.int y1), .val (.int (Int32.ofNat lv)), .val (.int mz), .val (.ref a186), .val (.ref a187), .val (.ref b188), .val (.ref a198), .val (.int (Int32.ofNat oo))] [(.int ((Int32.ofNat oo) + (Int32.ofNat ln))), (.ref a198)])
        rw [own_addn]
        show OGo p e below _ T (mkF m 290 #[.val (.int n), .val (.int v), .val (.int flags), .val (.int x0), .val (.int x1), .val (.int (Int32.ofNat ln)), .val (.int y0), .val (.int y1), .val (.int (Int32.ofNat lv)), .val (.int mz), .val (.ref a186), .val (.ref a187), .val (.ref b188), .val (.ref a198), .val (.int (Int32.ofNat oo))] [(.int (Int32.ofNat (oo + ln))), (.ref a198)])
        refine OGo.step (fun _ k => XS.iconst X.here hx rfl (hb hby at_290) k) ?_
        show OGo p e below _ T (mkF m 291 #[.val (.int n), .val (.int v), .val (.int flags), .val (.int x0), .val (.int x1), .val (.int (Int32.ofNat ln)), .val (.int y0), .val (.int y1), .val (.int (Int32.ofNat lv)), .val (.int mz), .val (.ref a186), .val (.ref a187), .val (.ref b188), .val (.ref a198), .val (.int (Int32.ofNat oo))] [(.int (2 : Int32)), (.int (Int32.ofNat (oo + ln))), (.ref a198)])
        refine OGo.step (fun _ k => XS.iadd X.here hx rfl (hb hby at_291) rfl k) ?_
        show OGo p e below _ T (mkF m 292 #[.val (.int n), .val (.int v), .val (.int flags), .val (.int x0), .val (.int x1), .val (.int (Int32.ofNat ln)), .val (.int y0), .val (.int y1), .val (.int (Int32.ofNat lv)), .val (.int mz), .val (.ref a186), .val (.ref a187), .val (.ref b188), .val (.ref a198), .val (.int (Int32.ofNat oo))] [(.int ((Int32.ofNat (oo + ln)) + (2 : Int32))), (.ref a198)])
        rw [own_addk]
        show OGo p e below _ T (mkF m 292 #[.val (.int n), .val (.int v), .val (.int flags), .val (.int x0), .val (.int x1), .val (.int (Int32.ofNat ln)), .val (.int y0), .val (.int y1), .val (.int (Int32.ofNat lv)), .val (.int mz), .val (.ref a186), .val (.ref a187), .val (.ref b188), .val (.ref a198), .val (.int (Int32.ofNat oo))] [(.int (Int32.ofNat (oo + ln + 2))), (.ref a198)])
        refine OGo.step (fun _ k => XS.iload X.here hx rfl (hb hby at_292) rfl k) ?_
        show OGo p e below _ T (mkF m 294 #[.val (.int n), .val (.int v), .val (.int flags), .val (.int x0), .val (.int x1), .val (.int (Int32.ofNat ln)), .val (.int y0), .val (.int y1), .val (.int (Int32.ofNat lv)), .val (.int mz), .val (.ref a186), .val (.ref a187), .val (.ref b188), .val (.ref a198), .val (.int (Int32.ofNat oo))] [(.int y1), (.int (Int32.ofNat (oo + ln + 2))), (.ref a198)])
        obtain ⟨v200, T200, L200, X200, hQ200, st200⟩ := scall X hx hZ198 hown198 (hw _ (List.mem_of_getElem? (i := 164) rfl)) (hw _ (List.mem_of_getElem? (i := 165) rfl)) (hw _ (List.mem_of_getElem? (i := 2) rfl)) (hw _ (List.mem_of_getElem? (i := 166) rfl)) (by decide) (W := 0) (rm_at l Z a0 hw [] a198 r198 kr198 us (Int32.ofNat (oo + ln + 2)) y1.toInt8.toInt32 y1 zc wf n0 T198.heap SS' (q191.keep K198 all0) I198 (own_nn (by omega)) ((own_lt (by omega) (by omega)).mpr (by omega)) (by rw [own_cl (by omega)]; exact (P6 (by omega))) (own_lo8 hy1)) eT (by decide) (by decide) (by decide) (by decide) (g := (mkF m 294 #[.val (.int n), .val (.int v), .val (.int flags), .val (.int x0), .val (.int x1), .val (.int (Int32.ofNat ln)), .val (.int y0), .val (.int y1), .val (.int (Int32.ofNat lv)), .val (.int mz), .val (.ref a186), .val (.ref a187), .val (.ref b188), .val (.ref a198), .val (.int (Int32.ofNat oo))] [(.int y1), (.int (Int32.ofNat (oo + ln + 2))), (.ref a198)])) rfl (by rw [hml]; rfl) (argsL := [(.ref a198), (.int (Int32.ofNat (oo + ln + 2))), (.int y1)]) (rest := []) opd_31 rfl rfl rfl (by show 2 * 0 + _ ≤ _; exact Nat.le_of_eq rfl) (hb hby at_294)
        obtain ⟨rfl, rfl, e200⟩ := hQ200
        rw [List.append_nil] at X200
        refine OGo.step st200 ?_
        show OGo p e below _ T200 (mkF m 297 #[.val (.int n), .val (.int v), .val (.int flags), .val (.int x0), .val (.int x1), .val (.int (Int32.ofNat ln)), .val (.int y0), .val (.int y1), .val (.int (Int32.ofNat lv)), .val (.int mz), .val (.ref a186), .val (.ref a187), .val (.ref b188), .val (.ref a198), .val (.int (Int32.ofNat oo))] [(.int (1 : Int32))])
        refine OGo.step (fun _ k => XS.ifYes X200.here hx rfl (pc0 := 297) (pc' := 302) rfl (hb hby at_297) rfl ((if0 _ _).trans (feq (by decide : ¬ (1 : Int32) = 0)).2) (by decide) (by decide) k) ?_
        show OGo p e below _ T200 (mkF m 302 #[.val (.int n), .val (.int v), .val (.int flags), .val (.int x0), .val (.int x1), .val (.int (Int32.ofNat ln)), .val (.int y0), .val (.int y1), .val (.int (Int32.ofNat lv)), .val (.int mz), .val (.ref a186), .val (.ref a187), .val (.ref b188), .val (.ref a198), .val (.int (Int32.ofNat oo))] [])
        exact K302 _ _ X200 N e200
      have K252 : ∀ (T : State) (locs : List Loc), Stand p l e room_1 (s.setVm T198.vm) m #[(.int n), (.int v), (.int flags)] below meth c T locs 27 115 → Fr n0 locs → T.heap = T198.heap → OGo p e below (EndH Z own_EL s room_1 (own_Q n0)) T (mkF m 252 #[.val (.int n), .val (.int v), .val (.int flags), .val (.int x0), .val (.int x1), .val (.int (Int32.ofNat ln)), .val (.int y0), .val (.int y1), .val (.int (Int32.ofNat lv)), .val (.int mz), .val (.ref a186), .val (.ref a187), .val (.ref b188), .val (.ref a198), .val (.int (Int32.ofNat oo))] []) := by
        intro T locs X N eT
        show OGo p e below _ T (mkF m 252 #[.val (.int n), .val (.int v), .val (.int flags), .val (.int x0), .val (.int x1), .val (.int (Int32.ofNat ln)), .val (.int y0), .val (.int y1), .val (.int (Int32.ofNat lv)), .val (.int mz), .val (.ref a186), .val (.ref a187), .val (.ref b188), .val (.ref a198), .val (.int (Int32.ofNat oo))] [])
        refine OGo.step (fun _ k => XS.iload X.here hx rfl (hb hby at_252) rfl k) ?_
        show OGo p e below _ T (mkF m 254 #[.val (.int n), .val (.int v), .val (.int flags), .val (.int x0), .val (.int x1), .val (.int (Int32.ofNat ln)), .val (.int y0), .val (.int y1), .val (.int (Int32.ofNat lv)), .val (.int mz), .val (.ref a186), .val (.ref a187), .val (.ref b188), .val (.ref a198), .val (.int (Int32.ofNat oo))] [(.int (Int32.ofNat lv))])
        refine OGo.step (fun _ k => XS.iconst X.here hx rfl (hb hby at_254) k) ?_
        show OGo p e below _ T (mkF m 255 #[.val (.int n), .val (.int v), .val (.int flags), .val (.int x0), .val (.int x1), .val (.int (Int32.ofNat ln)), .val (.int y0), .val (.int y1), .val (.int (Int32.ofNat lv)), .val (.int mz), .val (.ref a186), .val (.ref a187), .val (.ref b188), .val (.ref a198), .val (.int (Int32.ofNat oo))] [(.int (1 : Int32)), (.int (Int32.ofNat lv))])
        by_cases c1 : lv < 1
        · refine OGo.step (fun _ k => XS.icmpYes X.here hx rfl (pc0 := 255) (pc' := 277) rfl (hb hby at_255) rfl (tlt ((own_lt (by omega) (by decide)).mpr c1)).1 (by decide) (by decide) k) ?_
          show OGo p e below _ T (mkF m 277 #[.val (.int n), .val (.int v), .val (.int flags), .val (.int x0), .val (.int x1), .val (.int (Int32.ofNat ln)), .val (.int y0), .val (.int y1), .val (.int (Int32.ofNat lv)), .val (.int mz), .val (.ref a186), .val (.ref a187), .val (.ref b188), .val (.ref a198), .val (.int (Int32.ofNat oo))] [])
          exact K277 _ _ X N eT
        refine OGo.step (fun _ k => XS.icmpNo X.here hx rfl (hb hby at_255) rfl (flt (fun q => c1 ((own_lt (by omega) (by decide)).mp q))).1 k) ?_
        show OGo p e below _ T (mkF m 258 #[.val (.int n), .val (.int v), .val (.int flags), .val (.int x0), .val (.int x1), .val (.int (Int32.ofNat ln)), .val (.int y0), .val (.int y1), .val (.int (Int32.ofNat lv)), .val (.int mz), .val (.ref a186), .val (.ref a187), .val (.ref b188), .val (.ref a198), .val (.int (Int32.ofNat oo))] [])
        refine OGo.step (fun _ k => XS.aload X.here hx rfl (hb hby at_258) rfl rfl k) ?_
        show OGo p e below _ T (mkF m 260 #[.val (.int n), .val (.int v), .val (.int flags), .val (.int x0), .val (.int x1), .val (.int (Int32.ofNat ln)), .val (.int y0), .val (.int y1), .val (.int (Int32.ofNat lv)), .val (.int mz), .val (.ref a186), .val (.ref a187), .val (.ref b188), .val (.ref a198), .val (.int (Int32.ofNat oo))] [(.ref a198)])
        refine OGo.step (fun _ k => XS.iload X.here hx rfl (hb hby at_260) rfl k) ?_
        show OGo p e below _ T (mkF m 262 #[.val (.int n), .val (.int v), .val (.int flags), .val (.int x0), .val (.int x1), .val (.int (Int32.ofNat ln)), .val (.int y0), .val (.int y1), .val (.int (Int32.ofNat lv)), .val (.int mz), .val (.ref a186), .val (.ref a187), .val (.ref b188), .val (.ref a198), .val (.int (Int32.ofNat oo))] [(.int (Int32.ofNat oo)), (.ref a198)])
        refine OGo.step (fun _ k => XS.iload X.here hx rfl (hb hby at_262) rfl k) ?_
        show OGo p e below _ T (mkF m 264 #[.val (.int n), .val (.int v), .val (.int flags), .val (.int x0), .val (.int x1), .val (.int (Int32.ofNat ln)), .val (.int y0), .val (.int y1), .val (.int (Int32.ofNat lv)), .val (.int mz), .val (.ref a186), .val (.ref a187), .val (.ref b188), .val (.ref a198), .val (.int (Int32.ofNat oo))] [(.int (Int32.ofNat ln)), (.int (Int32.ofNat oo)), (.ref a198)])
        refine OGo.step (fun _ k => XS.iadd X.here hx rfl (hb hby at_264) rfl k) ?_
        show OGo p e below _ T (mkF m 265 #[.val (.int n), .val (.int v), .val (.int flags), .val (.int x0), .val (.int x1), .val (.int (Int32.ofNat ln)), .val (.int y0), .val (.int y1), .val (.int (Int32.ofNat lv)), .val (.int mz), .val (.ref a186), .val (.ref a187), .val (.ref b188), .val (.ref a198), .val (.int (Int32.ofNat oo))] [(.int ((Int32.ofNat oo) + (Int32.ofNat ln))), (.ref a198)])
        rw [own_addn]
        show OGo p e below _ T (mkF m 265 #[.val (.int n), .val (.int v), .val (.int flags), .val (.int x0), .val (.int x1), .val (.int (Int32.ofNat ln)), .val (.int y0), .val (.int y1), .val (.int (Int32.ofNat lv)), .val (.int mz), .val (.ref a186), .val (.ref a187), .val (.ref b188), .val (.ref a198), .val (.int (Int32.ofNat oo))] [(.int (Int32.ofNat (oo + ln))), (.ref a198)])
        refine OGo.step (fun _ k => XS.iconst X.here hx rfl (hb hby at_265) k) ?_
        show OGo p e below _ T (mkF m 266 #[.val (.int n), .val (.int v), .val (.int flags), .val (.int x0), .val (.int x1), .val (.int (Int32.ofNat ln)), .val (.int y0), .val (.int y1), .val (.int (Int32.ofNat lv)), .val (.int mz), .val (.ref a186), .val (.ref a187), .val (.ref b188), .val (.ref a198), .val (.int (Int32.ofNat oo))] [(.int (1 : Int32)), (.int (Int32.ofNat (oo + ln))), (.ref a198)])
        refine OGo.step (fun _ k => XS.iadd X.here hx rfl (hb hby at_266) rfl k) ?_
        show OGo p e below _ T (mkF m 267 #[.val (.int n), .val (.int v), .val (.int flags), .val (.int x0), .val (.int x1), .val (.int (Int32.ofNat ln)), .val (.int y0), .val (.int y1), .val (.int (Int32.ofNat lv)), .val (.int mz), .val (.ref a186), .val (.ref a187), .val (.ref b188), .val (.ref a198), .val (.int (Int32.ofNat oo))] [(.int ((Int32.ofNat (oo + ln)) + (1 : Int32))), (.ref a198)])
        rw [own_inc]
        show OGo p e below _ T (mkF m 267 #[.val (.int n), .val (.int v), .val (.int flags), .val (.int x0), .val (.int x1), .val (.int (Int32.ofNat ln)), .val (.int y0), .val (.int y1), .val (.int (Int32.ofNat lv)), .val (.int mz), .val (.ref a186), .val (.ref a187), .val (.ref b188), .val (.ref a198), .val (.int (Int32.ofNat oo))] [(.int (Int32.ofNat (oo + ln + 1))), (.ref a198)])
        refine OGo.step (fun _ k => XS.iload X.here hx rfl (hb hby at_267) rfl k) ?_
        show OGo p e below _ T (mkF m 269 #[.val (.int n), .val (.int v), .val (.int flags), .val (.int x0), .val (.int x1), .val (.int (Int32.ofNat ln)), .val (.int y0), .val (.int y1), .val (.int (Int32.ofNat lv)), .val (.int mz), .val (.ref a186), .val (.ref a187), .val (.ref b188), .val (.ref a198), .val (.int (Int32.ofNat oo))] [(.int y0), (.int (Int32.ofNat (oo + ln + 1))), (.ref a198)])
        obtain ⟨v201, T201, L201, X201, hQ201, st201⟩ := scall X hx hZ198 hown198 (hw _ (List.mem_of_getElem? (i := 164) rfl)) (hw _ (List.mem_of_getElem? (i := 165) rfl)) (hw _ (List.mem_of_getElem? (i := 2) rfl)) (hw _ (List.mem_of_getElem? (i := 166) rfl)) (by decide) (W := 0) (rm_at l Z a0 hw [] a198 r198 kr198 us (Int32.ofNat (oo + ln + 1)) y0.toInt8.toInt32 y0 zc wf n0 T198.heap SS' (q191.keep K198 all0) I198 (own_nn (by omega)) ((own_lt (by omega) (by omega)).mpr (by omega)) (by rw [own_cl (by omega)]; exact (P5 (by omega))) (own_lo8 hy0)) eT (by decide) (by decide) (by decide) (by decide) (g := (mkF m 269 #[.val (.int n), .val (.int v), .val (.int flags), .val (.int x0), .val (.int x1), .val (.int (Int32.ofNat ln)), .val (.int y0), .val (.int y1), .val (.int (Int32.ofNat lv)), .val (.int mz), .val (.ref a186), .val (.ref a187), .val (.ref b188), .val (.ref a198), .val (.int (Int32.ofNat oo))] [(.int y0), (.int (Int32.ofNat (oo + ln + 1))), (.ref a198)])) rfl (by rw [hml]; rfl) (argsL := [(.ref a198), (.int (Int32.ofNat (oo + ln + 1))), (.int y0)]) (rest := []) opd_31 rfl rfl rfl (by show 2 * 0 + _ ≤ _; exact Nat.le_of_eq rfl) (hb hby at_269)
        obtain ⟨rfl, rfl, e201⟩ := hQ201
        rw [List.append_nil] at X201
        refine OGo.step st201 ?_
        show OGo p e below _ T201 (mkF m 272 #[.val (.int n), .val (.int v), .val (.int flags), .val (.int x0), .val (.int x1), .val (.int (Int32.ofNat ln)), .val (.int y0), .val (.int y1), .val (.int (Int32.ofNat lv)), .val (.int mz), .val (.ref a186), .val (.ref a187), .val (.ref b188), .val (.ref a198), .val (.int (Int32.ofNat oo))] [(.int (1 : Int32))])
        refine OGo.step (fun _ k => XS.ifYes X201.here hx rfl (pc0 := 272) (pc' := 277) rfl (hb hby at_272) rfl ((if0 _ _).trans (feq (by decide : ¬ (1 : Int32) = 0)).2) (by decide) (by decide) k) ?_
        show OGo p e below _ T201 (mkF m 277 #[.val (.int n), .val (.int v), .val (.int flags), .val (.int x0), .val (.int x1), .val (.int (Int32.ofNat ln)), .val (.int y0), .val (.int y1), .val (.int (Int32.ofNat lv)), .val (.int mz), .val (.ref a186), .val (.ref a187), .val (.ref b188), .val (.ref a198), .val (.int (Int32.ofNat oo))] [])
        exact K277 _ _ X201 N e201
      have K235 : ∀ (T : State) (locs : List Loc), Stand p l e room_1 (s.setVm T198.vm) m #[(.int n), (.int v), (.int flags)] below meth c T locs 27 115 → Fr n0 locs → T.heap = T198.heap → OGo p e below (EndH Z own_EL s room_1 (own_Q n0)) T (mkF m 235 #[.val (.int n), .val (.int v), .val (.int flags), .val (.int x0), .val (.int x1), .val (.int (Int32.ofNat ln)), .val (.int y0), .val (.int y1), .val (.int (Int32.ofNat lv)), .val (.int mz), .val (.ref a186), .val (.ref a187), .val (.ref b188), .val (.ref a198), .val (.int (Int32.ofNat oo))] []) := by
        intro T locs X N eT
        show OGo p e below _ T (mkF m 235 #[.val (.int n), .val (.int v), .val (.int flags), .val (.int x0), .val (.int x1), .val (.int (Int32.ofNat ln)), .val (.int y0), .val (.int y1), .val (.int (Int32.ofNat lv)), .val (.int mz), .val (.ref a186), .val (.ref a187), .val (.ref b188), .val (.ref a198), .val (.int (Int32.ofNat oo))] [])
        refine OGo.step (fun _ k => XS.aload X.here hx rfl (hb hby at_235) rfl rfl k) ?_
        show OGo p e below _ T (mkF m 237 #[.val (.int n), .val (.int v), .val (.int flags), .val (.int x0), .val (.int x1), .val (.int (Int32.ofNat ln)), .val (.int y0), .val (.int y1), .val (.int (Int32.ofNat lv)), .val (.int mz), .val (.ref a186), .val (.ref a187), .val (.ref b188), .val (.ref a198), .val (.int (Int32.ofNat oo))] [(.ref a198)])
        refine OGo.step (fun _ k => XS.iload X.here hx rfl (hb hby at_237) rfl k) ?_
        show OGo p e below _ T (mkF m 239 #[.val (.int n), .val (.int v), .val (.int flags), .val (.int x0), .val (.int x1), .val (.int (Int32.ofNat ln)), .val (.int y0), .val (.int y1), .val (.int (Int32.ofNat lv)), .val (.int mz), .val (.ref a186), .val (.ref a187), .val (.ref b188), .val (.ref a198), .val (.int (Int32.ofNat oo))] [(.int (Int32.ofNat oo)), (.ref a198)])
        refine OGo.step (fun _ k => XS.iload X.here hx rfl (hb hby at_239) rfl k) ?_
        show OGo p e below _ T (mkF m 241 #[.val (.int n), .val (.int v), .val (.int flags), .val (.int x0), .val (.int x1), .val (.int (Int32.ofNat ln)), .val (.int y0), .val (.int y1), .val (.int (Int32.ofNat lv)), .val (.int mz), .val (.ref a186), .val (.ref a187), .val (.ref b188), .val (.ref a198), .val (.int (Int32.ofNat oo))] [(.int (Int32.ofNat ln)), (.int (Int32.ofNat oo)), (.ref a198)])
        refine OGo.step (fun _ k => XS.iadd X.here hx rfl (hb hby at_241) rfl k) ?_
        show OGo p e below _ T (mkF m 242 #[.val (.int n), .val (.int v), .val (.int flags), .val (.int x0), .val (.int x1), .val (.int (Int32.ofNat ln)), .val (.int y0), .val (.int y1), .val (.int (Int32.ofNat lv)), .val (.int mz), .val (.ref a186), .val (.ref a187), .val (.ref b188), .val (.ref a198), .val (.int (Int32.ofNat oo))] [(.int ((Int32.ofNat oo) + (Int32.ofNat ln))), (.ref a198)])
        rw [own_addn]
        show OGo p e below _ T (mkF m 242 #[.val (.int n), .val (.int v), .val (.int flags), .val (.int x0), .val (.int x1), .val (.int (Int32.ofNat ln)), .val (.int y0), .val (.int y1), .val (.int (Int32.ofNat lv)), .val (.int mz), .val (.ref a186), .val (.ref a187), .val (.ref b188), .val (.ref a198), .val (.int (Int32.ofNat oo))] [(.int (Int32.ofNat (oo + ln))), (.ref a198)])
        refine OGo.step (fun _ k => XS.bipush X.here hx rfl (hb hby at_242) k) ?_
        show OGo p e below _ T (mkF m 244 #[.val (.int n), .val (.int v), .val (.int flags), .val (.int x0), .val (.int x1), .val (.int (Int32.ofNat ln)), .val (.int y0), .val (.int y1), .val (.int (Int32.ofNat lv)), .val (.int mz), .val (.ref a186), .val (.ref a187), .val (.ref b188), .val (.ref a198), .val (.int (Int32.ofNat oo))] [(.int (32 : Int32)), (.int (Int32.ofNat (oo + ln))), (.ref a198)])
        obtain ⟨v202, T202, L202, X202, hQ202, st202⟩ := scall X hx hZ198 hown198 (hw _ (List.mem_of_getElem? (i := 164) rfl)) (hw _ (List.mem_of_getElem? (i := 165) rfl)) (hw _ (List.mem_of_getElem? (i := 2) rfl)) (hw _ (List.mem_of_getElem? (i := 166) rfl)) (by decide) (W := 0) (rm_at l Z a0 hw [] a198 r198 kr198 us (Int32.ofNat (oo + ln)) (32 : Int32) (32 : Int32) zc wf n0 T198.heap SS' (q191.keep K198 all0) I198 (own_nn (by omega)) ((own_lt (by omega) (by omega)).mpr (by omega)) (by rw [own_cl (by omega)]; exact P4) (by decide)) eT (by decide) (by decide) (by decide) (by decide) (g := (mkF m 244 #[.val (.int n), .val (.int v), .val (.int flags), .val (.int x0), .val (.int x1), .val (.int (Int32.ofNat ln)), .val (.int y0), .val (.int y1), .val (.int (Int32.ofNat lv)), .val (.int mz), .val (.ref a186), .val (.ref a187), .val (.ref b188), .val (.ref a198), .val (.int (Int32.ofNat oo))] [(.int (32 : Int32)), (.int (Int32.ofNat (oo + ln))), (.ref a198)])) rfl (by rw [hml]; rfl) (argsL := [(.ref a198), (.int (Int32.ofNat (oo + ln))), (.int (32 : Int32))]) (rest := []) opd_31 rfl rfl rfl (by show 2 * 0 + _ ≤ _; exact Nat.le_of_eq rfl) (hb hby at_244)
        obtain ⟨rfl, rfl, e202⟩ := hQ202
        rw [List.append_nil] at X202
        refine OGo.step st202 ?_
        show OGo p e below _ T202 (mkF m 247 #[.val (.int n), .val (.int v), .val (.int flags), .val (.int x0), .val (.int x1), .val (.int (Int32.ofNat ln)), .val (.int y0), .val (.int y1), .val (.int (Int32.ofNat lv)), .val (.int mz), .val (.ref a186), .val (.ref a187), .val (.ref b188), .val (.ref a198), .val (.int (Int32.ofNat oo))] [(.int (1 : Int32))])
        refine OGo.step (fun _ k => XS.ifYes X202.here hx rfl (pc0 := 247) (pc' := 252) rfl (hb hby at_247) rfl ((if0 _ _).trans (feq (by decide : ¬ (1 : Int32) = 0)).2) (by decide) (by decide) k) ?_
        show OGo p e below _ T202 (mkF m 252 #[.val (.int n), .val (.int v), .val (.int flags), .val (.int x0), .val (.int x1), .val (.int (Int32.ofNat ln)), .val (.int y0), .val (.int y1), .val (.int (Int32.ofNat lv)), .val (.int mz), .val (.ref a186), .val (.ref a187), .val (.ref b188), .val (.ref a198), .val (.int (Int32.ofNat oo))] [])
        exact K252 _ _ X202 N e202
      have K213 : ∀ (T : State) (locs : List Loc), Stand p l e room_1 (s.setVm T198.vm) m #[(.int n), (.int v), (.int flags)] below meth c T locs 27 115 → Fr n0 locs → T.heap = T198.heap → OGo p e below (EndH Z own_EL s room_1 (own_Q n0)) T (mkF m 213 #[.val (.int n), .val (.int v), .val (.int flags), .val (.int x0), .val (.int x1), .val (.int (Int32.ofNat ln)), .val (.int y0), .val (.int y1), .val (.int (Int32.ofNat lv)), .val (.int mz), .val (.ref a186), .val (.ref a187), .val (.ref b188), .val (.ref a198), .val (.int (Int32.ofNat oo))] []) := by
        intro T locs X N eT
        show OGo p e below _ T (mkF m 213 #[.val (.int n), .val (.int v), .val (.int flags), .val (.int x0), .val (.int x1), .val (.int (Int32.ofNat ln)), .val (.int y0), .val (.int y1), .val (.int (Int32.ofNat lv)), .val (.int mz), .val (.ref a186), .val (.ref a187), .val (.ref b188), .val (.ref a198), .val (.int (Int32.ofNat oo))] [])
        refine OGo.step (fun _ k => XS.iload X.here hx rfl (hb hby at_213) rfl k) ?_
        show OGo p e below _ T (mkF m 215 #[.val (.int n), .val (.int v), .val (.int flags), .val (.int x0), .val (.int x1), .val (.int (Int32.ofNat ln)), .val (.int y0), .val (.int y1), .val (.int (Int32.ofNat lv)), .val (.int mz), .val (.ref a186), .val (.ref a187), .val (.ref b188), .val (.ref a198), .val (.int (Int32.ofNat oo))] [(.int (Int32.ofNat ln))])
        refine OGo.step (fun _ k => XS.iconst X.here hx rfl (hb hby at_215) k) ?_
        show OGo p e below _ T (mkF m 216 #[.val (.int n), .val (.int v), .val (.int flags), .val (.int x0), .val (.int x1), .val (.int (Int32.ofNat ln)), .val (.int y0), .val (.int y1), .val (.int (Int32.ofNat lv)), .val (.int mz), .val (.ref a186), .val (.ref a187), .val (.ref b188), .val (.ref a198), .val (.int (Int32.ofNat oo))] [(.int (2 : Int32)), (.int (Int32.ofNat ln))])
        by_cases c1 : ln < 2
        · refine OGo.step (fun _ k => XS.icmpYes X.here hx rfl (pc0 := 216) (pc' := 235) rfl (hb hby at_216) rfl (tlt ((own_lt (by omega) (by decide)).mpr c1)).1 (by decide) (by decide) k) ?_
          show OGo p e below _ T (mkF m 235 #[.val (.int n), .val (.int v), .val (.int flags), .val (.int x0), .val (.int x1), .val (.int (Int32.ofNat ln)), .val (.int y0), .val (.int y1), .val (.int (Int32.ofNat lv)), .val (.int mz), .val (.ref a186), .val (.ref a187), .val (.ref b188), .val (.ref a198), .val (.int (Int32.ofNat oo))] [])
          exact K235 _ _ X N eT
        refine OGo.step (fun _ k => XS.icmpNo X.here hx rfl (hb hby at_216) rfl (flt (fun q => c1 ((own_lt (by omega) (by decide)).mp q))).1 k) ?_
        show OGo p e below _ T (mkF m 219 #[.val (.int n), .val (.int v), .val (.int flags), .val (.int x0), .val (.int x1), .val (.int (Int32.ofNat ln)), .val (.int y0), .val (.int y1), .val (.int (Int32.ofNat lv)), .val (.int mz), .val (.ref a186), .val (.ref a187), .val (.ref b188), .val (.ref a198), .val (.int (Int32.ofNat oo))] [])
        refine OGo.step (fun _ k => XS.aload X.here hx rfl (hb hby at_219) rfl rfl k) ?_
        show OGo p e below _ T (mkF m 221 #[.val (.int n), .val (.int v), .val (.int flags), .val (.int x0), .val (.int x1), .val (.int (Int32.ofNat ln)), .val (.int y0), .val (.int y1), .val (.int (Int32.ofNat lv)), .val (.int mz), .val (.ref a186), .val (.ref a187), .val (.ref b188), .val (.ref a198), .val (.int (Int32.ofNat oo))] [(.ref a198)])
        refine OGo.step (fun _ k => XS.iload X.here hx rfl (hb hby at_221) rfl k) ?_
        show OGo p e below _ T (mkF m 223 #[.val (.int n), .val (.int v), .val (.int flags), .val (.int x0), .val (.int x1), .val (.int (Int32.ofNat ln)), .val (.int y0), .val (.int y1), .val (.int (Int32.ofNat lv)), .val (.int mz), .val (.ref a186), .val (.ref a187), .val (.ref b188), .val (.ref a198), .val (.int (Int32.ofNat oo))] [(.int (Int32.ofNat oo)), (.ref a198)])
        refine OGo.step (fun _ k => XS.iconst X.here hx rfl (hb hby at_223) k) ?_
        show OGo p e below _ T (mkF m 224 #[.val (.int n), .val (.int v), .val (.int flags), .val (.int x0), .val (.int x1), .val (.int (Int32.ofNat ln)), .val (.int y0), .val (.int y1), .val (.int (Int32.ofNat lv)), .val (.int mz), .val (.ref a186), .val (.ref a187), .val (.ref b188), .val (.ref a198), .val (.int (Int32.ofNat oo))] [(.int (1 : Int32)), (.int (Int32.ofNat oo)), (.ref a198)])
        refine OGo.step (fun _ k => XS.iadd X.here hx rfl (hb hby at_224) rfl k) ?_
        show OGo p e below _ T (mkF m 225 #[.val (.int n), .val (.int v), .val (.int flags), .val (.int x0), .val (.int x1), .val (.int (Int32.ofNat ln)), .val (.int y0), .val (.int y1), .val (.int (Int32.ofNat lv)), .val (.int mz), .val (.ref a186), .val (.ref a187), .val (.ref b188), .val (.ref a198), .val (.int (Int32.ofNat oo))] [(.int ((Int32.ofNat oo) + (1 : Int32))), (.ref a198)])
        rw [own_inc]
        show OGo p e below _ T (mkF m 225 #[.val (.int n), .val (.int v), .val (.int flags), .val (.int x0), .val (.int x1), .val (.int (Int32.ofNat ln)), .val (.int y0), .val (.int y1), .val (.int (Int32.ofNat lv)), .val (.int mz), .val (.ref a186), .val (.ref a187), .val (.ref b188), .val (.ref a198), .val (.int (Int32.ofNat oo))] [(.int (Int32.ofNat (oo + 1))), (.ref a198)])
        refine OGo.step (fun _ k => XS.iload X.here hx rfl (hb hby at_225) rfl k) ?_
        show OGo p e below _ T (mkF m 227 #[.val (.int n), .val (.int v), .val (.int flags), .val (.int x0), .val (.int x1), .val (.int (Int32.ofNat ln)), .val (.int y0), .val (.int y1), .val (.int (Int32.ofNat lv)), .val (.int mz), .val (.ref a186), .val (.ref a187), .val (.ref b188), .val (.ref a198), .val (.int (Int32.ofNat oo))] [(.int x1), (.int (Int32.ofNat (oo + 1))), (.ref a198)])
        obtain ⟨v203, T203, L203, X203, hQ203, st203⟩ := scall X hx hZ198 hown198 (hw _ (List.mem_of_getElem? (i := 164) rfl)) (hw _ (List.mem_of_getElem? (i := 165) rfl)) (hw _ (List.mem_of_getElem? (i := 2) rfl)) (hw _ (List.mem_of_getElem? (i := 166) rfl)) (by decide) (W := 0) (rm_at l Z a0 hw [] a198 r198 kr198 us (Int32.ofNat (oo + 1)) x1.toInt8.toInt32 x1 zc wf n0 T198.heap SS' (q191.keep K198 all0) I198 (own_nn (by omega)) ((own_lt (by omega) (by omega)).mpr (by omega)) (by rw [own_cl (by omega)]; exact (P3 (by omega))) (own_lo8 hx1)) eT (by decide) (by decide) (by decide) (by decide) (g := (mkF m 227 #[.val (.int n), .val (.int v), .val (.int flags), .val (.int x0), .val (.int x1), .val (.int (Int32.ofNat ln)), .val (.int y0), .val (.int y1), .val (.int (Int32.ofNat lv)), .val (.int mz), .val (.ref a186), .val (.ref a187), .val (.ref b188), .val (.ref a198), .val (.int (Int32.ofNat oo))] [(.int x1), (.int (Int32.ofNat (oo + 1))), (.ref a198)])) rfl (by rw [hml]; rfl) (argsL := [(.ref a198), (.int (Int32.ofNat (oo + 1))), (.int x1)]) (rest := []) opd_31 rfl rfl rfl (by show 2 * 0 + _ ≤ _; exact Nat.le_of_eq rfl) (hb hby at_227)
        obtain ⟨rfl, rfl, e203⟩ := hQ203
        rw [List.append_nil] at X203
        refine OGo.step st203 ?_
        show OGo p e below _ T203 (mkF m 230 #[.val (.int n), .val (.int v), .val (.int flags), .val (.int x0), .val (.int x1), .val (.int (Int32.ofNat ln)), .val (.int y0), .val (.int y1), .val (.int (Int32.ofNat lv)), .val (.int mz), .val (.ref a186), .val (.ref a187), .val (.ref b188), .val (.ref a198), .val (.int (Int32.ofNat oo))] [(.int (1 : Int32))])
        refine OGo.step (fun _ k => XS.ifYes X203.here hx rfl (pc0 := 230) (pc' := 235) rfl (hb hby at_230) rfl ((if0 _ _).trans (feq (by decide : ¬ (1 : Int32) = 0)).2) (by decide) (by decide) k) ?_
        show OGo p e below _ T203 (mkF m 235 #[.val (.int n), .val (.int v), .val (.int flags), .val (.int x0), .val (.int x1), .val (.int (Int32.ofNat ln)), .val (.int y0), .val (.int y1), .val (.int (Int32.ofNat lv)), .val (.int mz), .val (.ref a186), .val (.ref a187), .val (.ref b188), .val (.ref a198), .val (.int (Int32.ofNat oo))] [])
        exact K235 _ _ X203 N e203
      have K194 : ∀ (T : State) (locs : List Loc), Stand p l e room_1 (s.setVm T198.vm) m #[(.int n), (.int v), (.int flags)] below meth c T locs 27 115 → Fr n0 locs → T.heap = T198.heap → OGo p e below (EndH Z own_EL s room_1 (own_Q n0)) T (mkF m 194 #[.val (.int n), .val (.int v), .val (.int flags), .val (.int x0), .val (.int x1), .val (.int (Int32.ofNat ln)), .val (.int y0), .val (.int y1), .val (.int (Int32.ofNat lv)), .val (.int mz), .val (.ref a186), .val (.ref a187), .val (.ref b188), .val (.ref a198), .val (.int (Int32.ofNat oo))] []) := by
        intro T locs X N eT
        show OGo p e below _ T (mkF m 194 #[.val (.int n), .val (.int v), .val (.int flags), .val (.int x0), .val (.int x1), .val (.int (Int32.ofNat ln)), .val (.int y0), .val (.int y1), .val (.int (Int32.ofNat lv)), .val (.int mz), .val (.ref a186), .val (.ref a187), .val (.ref b188), .val (.ref a198), .val (.int (Int32.ofNat oo))] [])
        refine OGo.step (fun _ k => XS.iload X.here hx rfl (hb hby at_194) rfl k) ?_
        show OGo p e below _ T (mkF m 196 #[.val (.int n), .val (.int v), .val (.int flags), .val (.int x0), .val (.int x1), .val (.int (Int32.ofNat ln)), .val (.int y0), .val (.int y1), .val (.int (Int32.ofNat lv)), .val (.int mz), .val (.ref a186), .val (.ref a187), .val (.ref b188), .val (.ref a198), .val (.int (Int32.ofNat oo))] [(.int (Int32.ofNat ln))])
        refine OGo.step (fun _ k => XS.iconst X.here hx rfl (hb hby at_196) k) ?_
        show OGo p e below _ T (mkF m 197 #[.val (.int n), .val (.int v), .val (.int flags), .val (.int x0), .val (.int x1), .val (.int (Int32.ofNat ln)), .val (.int y0), .val (.int y1), .val (.int (Int32.ofNat lv)), .val (.int mz), .val (.ref a186), .val (.ref a187), .val (.ref b188), .val (.ref a198), .val (.int (Int32.ofNat oo))] [(.int (1 : Int32)), (.int (Int32.ofNat ln))])
        by_cases c1 : ln < 1
        · refine OGo.step (fun _ k => XS.icmpYes X.here hx rfl (pc0 := 197) (pc' := 213) rfl (hb hby at_197) rfl (tlt ((own_lt (by omega) (by decide)).mpr c1)).1 (by decide) (by decide) k) ?_
          show OGo p e below _ T (mkF m 213 #[.val (.int n), .val (.int v), .val (.int flags), .val (.int x0), .val (.int x1), .val (.int (Int32.ofNat ln)), .val (.int y0), .val (.int y1), .val (.int (Int32.ofNat lv)), .val (.int mz), .val (.ref a186), .val (.ref a187), .val (.ref b188), .val (.ref a198), .val (.int (Int32.ofNat oo))] [])
          exact K213 _ _ X N eT
        refine OGo.step (fun _ k => XS.icmpNo X.here hx rfl (hb hby at_197) rfl (flt (fun q => c1 ((own_lt (by omega) (by decide)).mp q))).1 k) ?_
        show OGo p e below _ T (mkF m 200 #[.val (.int n), .val (.int v), .val (.int flags), .val (.int x0), .val (.int x1), .val (.int (Int32.ofNat ln)), .val (.int y0), .val (.int y1), .val (.int (Int32.ofNat lv)), .val (.int mz), .val (.ref a186), .val (.ref a187), .val (.ref b188), .val (.ref a198), .val (.int (Int32.ofNat oo))] [])
        refine OGo.step (fun _ k => XS.aload X.here hx rfl (hb hby at_200) rfl rfl k) ?_
        show OGo p e below _ T (mkF m 202 #[.val (.int n), .val (.int v), .val (.int flags), .val (.int x0), .val (.int x1), .val (.int (Int32.ofNat ln)), .val (.int y0), .val (.int y1), .val (.int (Int32.ofNat lv)), .val (.int mz), .val (.ref a186), .val (.ref a187), .val (.ref b188), .val (.ref a198), .val (.int (Int32.ofNat oo))] [(.ref a198)])
        refine OGo.step (fun _ k => XS.iload X.here hx rfl (hb hby at_202) rfl k) ?_
        show OGo p e below _ T (mkF m 204 #[.val (.int n), .val (.int v), .val (.int flags), .val (.int x0), .val (.int x1), .val (.int (Int32.ofNat ln)), .val (.int y0), .val (.int y1), .val (.int (Int32.ofNat lv)), .val (.int mz), .val (.ref a186), .val (.ref a187), .val (.ref b188), .val (.ref a198), .val (.int (Int32.ofNat oo))] [(.int (Int32.ofNat oo)), (.ref a198)])
        refine OGo.step (fun _ k => XS.iloadN X.here hx rfl (hb hby at_204) rfl k) ?_
        show OGo p e below _ T (mkF m 205 #[.val (.int n), .val (.int v), .val (.int flags), .val (.int x0), .val (.int x1), .val (.int (Int32.ofNat ln)), .val (.int y0), .val (.int y1), .val (.int (Int32.ofNat lv)), .val (.int mz), .val (.ref a186), .val (.ref a187), .val (.ref b188), .val (.ref a198), .val (.int (Int32.ofNat oo))] [(.int x0), (.int (Int32.ofNat oo)), (.ref a198)])
        obtain ⟨v204, T204, L204, X204, hQ204, st204⟩ := scall X hx hZ198 hown198 (hw _ (List.mem_of_getElem? (i := 164) rfl)) (hw _ (List.mem_of_getElem? (i := 165) rfl)) (hw _ (List.mem_of_getElem? (i := 2) rfl)) (hw _ (List.mem_of_getElem? (i := 166) rfl)) (by decide) (W := 0) (rm_at l Z a0 hw [] a198 r198 kr198 us (Int32.ofNat oo) x0.toInt8.toInt32 x0 zc wf n0 T198.heap SS' (q191.keep K198 all0) I198 (own_nn (by omega)) ((own_lt (by omega) (by omega)).mpr (by omega)) (by rw [own_cl (by omega)]; exact (P2 (by omega))) (own_lo8 hx0)) eT (by decide) (by decide) (by decide) (by decide) (g := (mkF m 205 #[.val (.int n), .val (.int v), .val (.int flags), .val (.int x0), .val (.int x1), .val (.int (Int32.ofNat ln)), .val (.int y0), .val (.int y1), .val (.int (Int32.ofNat lv)), .val (.int mz), .val (.ref a186), .val (.ref a187), .val (.ref b188), .val (.ref a198), .val (.int (Int32.ofNat oo))] [(.int x0), (.int (Int32.ofNat oo)), (.ref a198)])) rfl (by rw [hml]; rfl) (argsL := [(.ref a198), (.int (Int32.ofNat oo)), (.int x0)]) (rest := []) opd_31 rfl rfl rfl (by show 2 * 0 + _ ≤ _; exact Nat.le_of_eq rfl) (hb hby at_205)
        obtain ⟨rfl, rfl, e204⟩ := hQ204
        rw [List.append_nil] at X204
        refine OGo.step st204 ?_
        show OGo p e below _ T204 (mkF m 208 #[.val (.int n), .val (.int v), .val (.int flags), .val (.int x0), .val (.int x1), .val (.int (Int32.ofNat ln)), .val (.int y0), .val (.int y1), .val (.int (Int32.ofNat lv)), .val (.int mz), .val (.ref a186), .val (.ref a187), .val (.ref b188), .val (.ref a198), .val (.int (Int32.ofNat oo))] [(.int (1 : Int32))])
        refine OGo.step (fun _ k => XS.ifYes X204.here hx rfl (pc0 := 208) (pc' := 213) rfl (hb hby at_208) rfl ((if0 _ _).trans (feq (by decide : ¬ (1 : Int32) = 0)).2) (by decide) (by decide) k) ?_
        show OGo p e below _ T204 (mkF m 213 #[.val (.int n), .val (.int v), .val (.int flags), .val (.int x0), .val (.int x1), .val (.int (Int32.ofNat ln)), .val (.int y0), .val (.int y1), .val (.int (Int32.ofNat lv)), .val (.int mz), .val (.ref a186), .val (.ref a187), .val (.ref b188), .val (.ref a198), .val (.int (Int32.ofNat oo))] [])
        exact K213 _ _ X204 N e204
      by_cases qm : mz = 0
      · refine OGo.step (fun _ k => XS.ifNo X199.here hx rfl (hb hby at_161) rfl ((if0 _ _).trans (teq qm).2) k) ?_
        show OGo p e below _ T199 (mkF m 164 #[.val (.int n), .val (.int v), .val (.int flags), .val (.int x0), .val (.int x1), .val (.int (Int32.ofNat ln)), .val (.int y0), .val (.int y1), .val (.int (Int32.ofNat lv)), .val (.int mz), .val (.ref a186), .val (.ref a187), .val (.ref b188), .val (.ref a198), .val (.int (Int32.ofNat oo))] [])
        refine OGo.step (fun _ k => XS.aload X199.here hx rfl (hb hby at_164) rfl rfl k) ?_
        show OGo p e below _ T199 (mkF m 166 #[.val (.int n), .val (.int v), .val (.int flags), .val (.int x0), .val (.int x1), .val (.int (Int32.ofNat ln)), .val (.int y0), .val (.int y1), .val (.int (Int32.ofNat lv)), .val (.int mz), .val (.ref a186), .val (.ref a187), .val (.ref b188), .val (.ref a198), .val (.int (Int32.ofNat oo))] [(.ref a198)])
        refine OGo.step (fun _ k => XS.iconst X199.here hx rfl (hb hby at_166) k) ?_
        show OGo p e below _ T199 (mkF m 167 #[.val (.int n), .val (.int v), .val (.int flags), .val (.int x0), .val (.int x1), .val (.int (Int32.ofNat ln)), .val (.int y0), .val (.int y1), .val (.int (Int32.ofNat lv)), .val (.int mz), .val (.ref a186), .val (.ref a187), .val (.ref b188), .val (.ref a198), .val (.int (Int32.ofNat oo))] [(.int (0 : Int32)), (.ref a198)])
        refine OGo.step (fun _ k => XS.bipush X199.here hx rfl (hb hby at_167) k) ?_
        show OGo p e below _ T199 (mkF m 169 #[.val (.int n), .val (.int v), .val (.int flags), .val (.int x0), .val (.int x1), .val (.int (Int32.ofNat ln)), .val (.int y0), .val (.int y1), .val (.int (Int32.ofNat lv)), .val (.int mz), .val (.ref a186), .val (.ref a187), .val (.ref b188), .val (.ref a198), .val (.int (Int32.ofNat oo))] [(.int (91 : Int32)), (.int (0 : Int32)), (.ref a198)])
        obtain ⟨v205, T205, L205, X205, hQ205, st205⟩ := scall X199 hx hZ198 hown198 (hw _ (List.mem_of_getElem? (i := 164) rfl)) (hw _ (List.mem_of_getElem? (i := 165) rfl)) (hw _ (List.mem_of_getElem? (i := 2) rfl)) (hw _ (List.mem_of_getElem? (i := 166) rfl)) (by decide) (W := 0) (rm_at l Z a0 hw [] a198 r198 kr198 us (0 : Int32) (91 : Int32) (91 : Int32) zc wf n0 T198.heap SS' (q191.keep K198 all0) I198 (by decide) (show Int32.ofNat 0 < Int32.ofNat us.length from (own_lt (by omega) (by omega)).mpr (by omega)) (show us.getD 0 _ = _ from (P1 qm).1) (by decide)) e199 (by decide) (by decide) (by decide) (by decide) (g := (mkF m 169 #[.val (.int n), .val (.int v), .val (.int flags), .val (.int x0), .val (.int x1), .val (.int (Int32.ofNat ln)), .val (.int y0), .val (.int y1), .val (.int (Int32.ofNat lv)), .val (.int mz), .val (.ref a186), .val (.ref a187), .val (.ref b188), .val (.ref a198), .val (.int (Int32.ofNat oo))] [(.int (91 : Int32)), (.int (0 : Int32)), (.ref a198)])) rfl (by rw [hml]; rfl) (argsL := [(.ref a198), (.int (0 : Int32)), (.int (91 : Int32))]) (rest := []) opd_31 rfl rfl rfl (by show 2 * 0 + _ ≤ _; exact Nat.le_of_eq rfl) (hb hby at_169)
        obtain ⟨rfl, rfl, e205⟩ := hQ205
        rw [List.append_nil] at X205
        refine OGo.step st205 ?_
        show OGo p e below _ T205 (mkF m 172 #[.val (.int n), .val (.int v), .val (.int flags), .val (.int x0), .val (.int x1), .val (.int (Int32.ofNat ln)), .val (.int y0), .val (.int y1), .val (.int (Int32.ofNat lv)), .val (.int mz), .val (.ref a186), .val (.ref a187), .val (.ref b188), .val (.ref a198), .val (.int (Int32.ofNat oo))] [(.int (1 : Int32))])
        refine OGo.step (fun _ k => XS.ifNo X205.here hx rfl (hb hby at_172) rfl ((if0 _ _).trans (feq (by decide : ¬ (1 : Int32) = 0)).1) k) ?_
        show OGo p e below _ T205 (mkF m 175 #[.val (.int n), .val (.int v), .val (.int flags), .val (.int x0), .val (.int x1), .val (.int (Int32.ofNat ln)), .val (.int y0), .val (.int y1), .val (.int (Int32.ofNat lv)), .val (.int mz), .val (.ref a186), .val (.ref a187), .val (.ref b188), .val (.ref a198), .val (.int (Int32.ofNat oo))] [])
        refine OGo.step (fun _ k => XS.aload X205.here hx rfl (hb hby at_175) rfl rfl k) ?_
        show OGo p e below _ T205 (mkF m 177 #[.val (.int n), .val (.int v), .val (.int flags), .val (.int x0), .val (.int x1), .val (.int (Int32.ofNat ln)), .val (.int y0), .val (.int y1), .val (.int (Int32.ofNat lv)), .val (.int mz), .val (.ref a186), .val (.ref a187), .val (.ref b188), .val (.ref a198), .val (.int (Int32.ofNat oo))] [(.ref a198)])
        refine OGo.step (fun _ k => XS.aload X205.here hx rfl (hb hby at_177) rfl rfl k) ?_
        show OGo p e below _ T205 (mkF m 179 #[.val (.int n), .val (.int v), .val (.int flags), .val (.int x0), .val (.int x1), .val (.int (Int32.ofNat ln)), .val (.int y0), .val (.int y1), .val (.int (Int32.ofNat lv)), .val (.int mz), .val (.ref a186), .val (.ref a187), .val (.ref b188), .val (.ref a198), .val (.int (Int32.ofNat oo))] [(.ref a198), (.ref a198)])
        obtain ⟨v206, T206, L206, X206, hQ206, st206⟩ := vcall X205 hx hZ198 hown198 (hw _ (List.mem_of_getElem? (i := 163) rfl)) (hw _ (List.mem_of_getElem? (i := 78) rfl)) (hw _ (List.mem_of_getElem? (i := 80) rfl)) rfl (hw _ (List.mem_of_getElem? (i := 80) rfl)) (hw _ (List.mem_of_getElem? (i := 79) rfl)) (hw _ (List.mem_of_getElem? (i := 6) rfl)) (hw _ (List.mem_of_getElem? (i := 81) rfl)) (by decide) (W := 1) (rm_length l Z a0 hw [] a198 r198 kr198 us zc wf n0 T198.heap SS' (q191.keep K198 all0) I198) e205 (by decide) (by decide) (by decide) (by decide) (g := (mkF m 179 #[.val (.int n), .val (.int v), .val (.int flags), .val (.int x0), .val (.int x1), .val (.int (Int32.ofNat ln)), .val (.int y0), .val (.int y1), .val (.int (Int32.ofNat lv)), .val (.int mz), .val (.ref a186), .val (.ref a187), .val (.ref b188), .val (.ref a198), .val (.int (Int32.ofNat oo))] [(.ref a198), (.ref a198)])) rfl (by rw [hml]; rfl) I198.1 (argsL := []) (rest := [(.ref a198)]) opd_8 rfl rfl rfl (by show 2 * 0 + _ ≤ _; exact Nat.le_of_eq rfl) (hb hby at_179)
        obtain ⟨rfl, rfl, e206⟩ := hQ206
        rw [List.append_nil] at X206
        refine OGo.step st206 ?_
        show OGo p e below _ T206 (mkF m 182 #[.val (.int n), .val (.int v), .val (.int flags), .val (.int x0), .val (.int x1), .val (.int (Int32.ofNat ln)), .val (.int y0), .val (.int y1), .val (.int (Int32.ofNat lv)), .val (.int mz), .val (.ref a186), .val (.ref a187), .val (.ref b188), .val (.ref a198), .val (.int (Int32.ofNat oo))] [(.int (Int32.ofNat us.length)), (.ref a198)])
        refine OGo.step (fun _ k => XS.iconst X206.here hx rfl (hb hby at_182) k) ?_
        show OGo p e below _ T206 (mkF m 183 #[.val (.int n), .val (.int v), .val (.int flags), .val (.int x0), .val (.int x1), .val (.int (Int32.ofNat ln)), .val (.int y0), .val (.int y1), .val (.int (Int32.ofNat lv)), .val (.int mz), .val (.ref a186), .val (.ref a187), .val (.ref b188), .val (.ref a198), .val (.int (Int32.ofNat oo))] [(.int (1 : Int32)), (.int (Int32.ofNat us.length)), (.ref a198)])
        refine OGo.step (fun _ k => XS.isub X206.here hx rfl (hb hby at_183) rfl k) ?_
        show OGo p e below _ T206 (mkF m 184 #[.val (.int n), .val (.int v), .val (.int flags), .val (.int x0), .val (.int x1), .val (.int (Int32.ofNat ln)), .val (.int y0), .val (.int y1), .val (.int (Int32.ofNat lv)), .val (.int mz), .val (.ref a186), .val (.ref a187), .val (.ref b188), .val (.ref a198), .val (.int (Int32.ofNat oo))] [(.int ((Int32.ofNat us.length) - (1 : Int32))), (.ref a198)])
        rw [own_sub1 (show 1 ≤ us.length by omega)]
        show OGo p e below _ T206 (mkF m 184 #[.val (.int n), .val (.int v), .val (.int flags), .val (.int x0), .val (.int x1), .val (.int (Int32.ofNat ln)), .val (.int y0), .val (.int y1), .val (.int (Int32.ofNat lv)), .val (.int mz), .val (.ref a186), .val (.ref a187), .val (.ref b188), .val (.ref a198), .val (.int (Int32.ofNat oo))] [(.int (Int32.ofNat (us.length - 1))), (.ref a198)])
        refine OGo.step (fun _ k => XS.bipush X206.here hx rfl (hb hby at_184) k) ?_
        show OGo p e below _ T206 (mkF m 186 #[.val (.int n), .val (.int v), .val (.int flags), .val (.int x0), .val (.int x1), .val (.int (Int32.ofNat ln)), .val (.int y0), .val (.int y1), .val (.int (Int32.ofNat lv)), .val (.int mz), .val (.ref a186), .val (.ref a187), .val (.ref b188), .val (.ref a198), .val (.int (Int32.ofNat oo))] [(.int (93 : Int32)), (.int (Int32.ofNat (us.length - 1))), (.ref a198)])
        obtain ⟨v207, T207, L207, X207, hQ207, st207⟩ := scall X206 hx hZ198 hown198 (hw _ (List.mem_of_getElem? (i := 164) rfl)) (hw _ (List.mem_of_getElem? (i := 165) rfl)) (hw _ (List.mem_of_getElem? (i := 2) rfl)) (hw _ (List.mem_of_getElem? (i := 166) rfl)) (by decide) (W := 0) (rm_at l Z a0 hw [] a198 r198 kr198 us (Int32.ofNat (us.length - 1)) (93 : Int32) (93 : Int32) zc wf n0 T198.heap SS' (q191.keep K198 all0) I198 (own_nn (by omega)) ((own_lt (by omega) (by omega)).mpr (by omega)) (by rw [own_cl (by omega)]; exact (by rw [P0]; exact (P1 qm).2)) (by decide)) e206 (by decide) (by decide) (by decide) (by decide) (g := (mkF m 186 #[.val (.int n), .val (.int v), .val (.int flags), .val (.int x0), .val (.int x1), .val (.int (Int32.ofNat ln)), .val (.int y0), .val (.int y1), .val (.int (Int32.ofNat lv)), .val (.int mz), .val (.ref a186), .val (.ref a187), .val (.ref b188), .val (.ref a198), .val (.int (Int32.ofNat oo))] [(.int (93 : Int32)), (.int (Int32.ofNat (us.length - 1))), (.ref a198)])) rfl (by rw [hml]; rfl) (argsL := [(.ref a198), (.int (Int32.ofNat (us.length - 1))), (.int (93 : Int32))]) (rest := []) opd_31 rfl rfl rfl (by show 2 * 0 + _ ≤ _; exact Nat.le_of_eq rfl) (hb hby at_186)
        obtain ⟨rfl, rfl, e207⟩ := hQ207
        rw [List.append_nil] at X207
        refine OGo.step st207 ?_
        show OGo p e below _ T207 (mkF m 189 #[.val (.int n), .val (.int v), .val (.int flags), .val (.int x0), .val (.int x1), .val (.int (Int32.ofNat ln)), .val (.int y0), .val (.int y1), .val (.int (Int32.ofNat lv)), .val (.int mz), .val (.ref a186), .val (.ref a187), .val (.ref b188), .val (.ref a198), .val (.int (Int32.ofNat oo))] [(.int (1 : Int32))])
        refine OGo.step (fun _ k => XS.ifYes X207.here hx rfl (pc0 := 189) (pc' := 194) rfl (hb hby at_189) rfl ((if0 _ _).trans (feq (by decide : ¬ (1 : Int32) = 0)).2) (by decide) (by decide) k) ?_
        show OGo p e below _ T207 (mkF m 194 #[.val (.int n), .val (.int v), .val (.int flags), .val (.int x0), .val (.int x1), .val (.int (Int32.ofNat ln)), .val (.int y0), .val (.int y1), .val (.int (Int32.ofNat lv)), .val (.int mz), .val (.ref a186), .val (.ref a187), .val (.ref b188), .val (.ref a198), .val (.int (Int32.ofNat oo))] [])
        exact K194 _ _ X207 NN198 e207
      refine OGo.step (fun _ k => XS.ifYes X199.here hx rfl (pc0 := 161) (pc' := 194) rfl (hb hby at_161) rfl ((if0 _ _).trans (feq qm).2) (by decide) (by decide) k) ?_
      show OGo p e below _ T199 (mkF m 194 #[.val (.int n), .val (.int v), .val (.int flags), .val (.int x0), .val (.int x1), .val (.int (Int32.ofNat ln)), .val (.int y0), .val (.int y1), .val (.int (Int32.ofNat lv)), .val (.int mz), .val (.ref a186), .val (.ref a187), .val (.ref b188), .val (.ref a198), .val (.int (Int32.ofNat oo))] [])
      exact K194 _ _ X199 NN198 e199
    by_cases qm : mz = 0
    · refine OGo.step (fun _ k => XS.ifYes X198.here hx rfl (pc0 := 126) (pc' := 133) rfl (hb hby at_126) rfl ((if0 _ _).trans (teq qm).1) (by decide) (by decide) k) ?_
      show OGo p e below _ T198 (mkF m 133 #[.val (.int n), .val (.int v), .val (.int flags), .val (.int x0), .val (.int x1), .val (.int (Int32.ofNat ln)), .val (.int y0), .val (.int y1), .val (.int (Int32.ofNat lv)), .val (.int mz), .val (.ref a186), .val (.ref a187), .val (.ref b188), .val (.ref a198), .unset] [])
      refine OGo.step (fun _ k => XS.iconst X198.here hx rfl (hb hby at_133) k) ?_
      show OGo p e below _ T198 (mkF m 134 #[.val (.int n), .val (.int v), .val (.int flags), .val (.int x0), .val (.int x1), .val (.int (Int32.ofNat ln)), .val (.int y0), .val (.int y1), .val (.int (Int32.ofNat lv)), .val (.int mz), .val (.ref a186), .val (.ref a187), .val (.ref b188), .val (.ref a198), .unset] [(.int (1 : Int32))])
      exact K134 1 (Or.inl ⟨qm, rfl⟩)
    refine OGo.step (fun _ k => XS.ifNo X198.here hx rfl (hb hby at_126) rfl ((if0 _ _).trans (feq qm).1) k) ?_
    show OGo p e below _ T198 (mkF m 129 #[.val (.int n), .val (.int v), .val (.int flags), .val (.int x0), .val (.int x1), .val (.int (Int32.ofNat ln)), .val (.int y0), .val (.int y1), .val (.int (Int32.ofNat lv)), .val (.int mz), .val (.ref a186), .val (.ref a187), .val (.ref b188), .val (.ref a198), .unset] [])
    refine OGo.step (fun _ k => XS.iconst X198.here hx rfl (hb hby at_129) k) ?_
    show OGo p e below _ T198 (mkF m 130 #[.val (.int n), .val (.int v), .val (.int flags), .val (.int x0), .val (.int x1), .val (.int (Int32.ofNat ln)), .val (.int y0), .val (.int y1), .val (.int (Int32.ofNat lv)), .val (.int mz), .val (.ref a186), .val (.ref a187), .val (.ref b188), .val (.ref a198), .unset] [(.int (0 : Int32))])
    refine OGo.step (fun _ k => XS.goto X198.here hx rfl (pc0 := 130) (pc' := 134) rfl (hb hby at_130) (by decide) (by decide) k) ?_
    show OGo p e below _ T198 (mkF m 134 #[.val (.int n), .val (.int v), .val (.int flags), .val (.int x0), .val (.int x1), .val (.int (Int32.ofNat ln)), .val (.int y0), .val (.int y1), .val (.int (Int32.ofNat lv)), .val (.int mz), .val (.ref a186), .val (.ref a187), .val (.ref b188), .val (.ref a198), .unset] [(.int (0 : Int32))])
    exact K134 0 (Or.inr ⟨qm, rfl⟩)
  by_cases qf : (flags &&& (1 : Int32)) = 0
  · refine OGo.step (fun _ k => XS.ifYes X0.here hx rfl (pc0 := 64) (pc' := 71) rfl (hb hby at_64) rfl ((if0 _ _).trans (teq qf).1) (by decide) (by decide) k) ?_
    show OGo p e below _ s₁ (mkF m 71 #[.val (.int n), .val (.int v), .val (.int flags), .val (.int x0), .val (.int x1), .val (.int (Int32.ofNat ln)), .val (.int y0), .val (.int y1), .val (.int (Int32.ofNat lv)), .unset, .unset, .unset, .unset, .unset, .unset] [])
    refine OGo.step (fun _ k => XS.iconst X0.here hx rfl (hb hby at_71) k) ?_
    show OGo p e below _ s₁ (mkF m 72 #[.val (.int n), .val (.int v), .val (.int flags), .val (.int x0), .val (.int x1), .val (.int (Int32.ofNat ln)), .val (.int y0), .val (.int y1), .val (.int (Int32.ofNat lv)), .unset, .unset, .unset, .unset, .unset, .unset] [(.int (0 : Int32))])
    exact K72 0 (Or.inl rfl)
  refine OGo.step (fun _ k => XS.ifNo X0.here hx rfl (hb hby at_64) rfl ((if0 _ _).trans (feq qf).1) k) ?_
  show OGo p e below _ s₁ (mkF m 67 #[.val (.int n), .val (.int v), .val (.int flags), .val (.int x0), .val (.int x1), .val (.int (Int32.ofNat ln)), .val (.int y0), .val (.int y1), .val (.int (Int32.ofNat lv)), .unset, .unset, .unset, .unset, .unset, .unset] [])
  refine OGo.step (fun _ k => XS.iconst X0.here hx rfl (hb hby at_67) k) ?_
  show OGo p e below _ s₁ (mkF m 68 #[.val (.int n), .val (.int v), .val (.int flags), .val (.int x0), .val (.int x1), .val (.int (Int32.ofNat ln)), .val (.int y0), .val (.int y1), .val (.int (Int32.ofNat lv)), .unset, .unset, .unset, .unset, .unset, .unset] [(.int (1 : Int32))])
  refine OGo.step (fun _ k => XS.goto X0.here hx rfl (pc0 := 68) (pc' := 72) rfl (hb hby at_68) (by decide) (by decide) k) ?_
  show OGo p e below _ s₁ (mkF m 72 #[.val (.int n), .val (.int v), .val (.int flags), .val (.int x0), .val (.int x1), .val (.int (Int32.ofNat ln)), .val (.int y0), .val (.int y1), .val (.int (Int32.ofNat lv)), .unset, .unset, .unset, .unset, .unset, .unset] [(.int (1 : Int32))])
  exact K72 1 (Or.inr rfl)
set_option maxRecDepth 65536 in
set_option maxHeartbeats 40000000 in
theorem comes_1 {Post : Tables → Env → Array Value → State → Outcome → State → Prop} (hpost : ∀ tb e args s v u, (limb_1_1.after args s (.returned v) u = true ∧ limb_1_2.after args s (.returned v) u = true ∧ True) → ReturnedEndW s (.returned v) u (Jvm.fieldLocs frame_1_writes args s ++ Jvm.arrayLocs frame_1_arrays args s ++ Jvm.staticLocs frame_1_statics s) 48 4352 → Post tb e args s (.returned v) u) :
    ArmFor flags0 classFile x code maxLocals ret World_1 tables_1 room_1 Calls_1 rest_1 Pre_1 Post := by
  intro l hfl _ _ p e ha hc hk s m args below hf hA hF happ hP
  obtain ⟨hcalls, hrest, hpre⟩ := hP
  obtain ⟨-, -, -, hnamed, -, -, -, hat⟩ := (Spec.applies_iff hf).mp happ
  obtain ⟨hg, hn⟩ := and_e (Cond.before_iff.mp (show (Jvm.Cond.and given_1 narrow_1).before args s = true from hpre))
  obtain ⟨g1, g2⟩ := and_e hg
  obtain ⟨g3, g4⟩ := and_e g2
  obtain ⟨g5, g6⟩ := and_e g4
  obtain ⟨w0, w1, w2, rfl⟩ : ∃ w0 w1 w2 : Value, args = #[w0, w1, w2] := by
    have hs : args.size = 3 := by simpa [Cond.value, given_1] using g1
    obtain ⟨L⟩ := args
    match L, hs with
    | [w0, w1, w2], _ => exact ⟨w0, w1, w2, rfl⟩
  have hw := fun d (hd : d ∈ tables_1) => atoms_spec (ws := Jvm.Cond.code x code maxLocals ret :: tables_1) hat d (List.mem_cons_of_mem _ hd)
  obtain ⟨i0, ei0⟩ := is_v g3
  obtain rfl : w0 = (.int i0) := Option.some.inj ei0
  obtain ⟨i1, ei1⟩ := is_v g5
  obtain rfl : w1 = (.int i1) := Option.some.inj ei1
  obtain ⟨i2, ei2⟩ := is_v g6
  obtain rfl : w2 = (.int i2) := Option.some.inj ei2
  obtain ⟨hsets, hown0⟩ := atoms_of _ (rest_1_c_eq ▸ (show rest_1_c.before _ s = true from hrest))
  have n3 := not_v (Cond.before_iff.mp (hsets _ (List.mem_of_getElem? (i := 2) rfl)))
  obtain ⟨zc, e6⟩ := is_v (Cond.before_iff.mp (hsets _ (List.mem_of_getElem? (i := 1) rfl)))
  have S8 : Sta s s.heap "java/lang/String" "COMPACT_STRINGS" "Z" (.int zc) := Sta.start e6 (Or.inl (hsets _ (List.mem_of_getElem? (i := 0) rfl)))
  obtain ⟨wf, e10, r11⟩ := isR_v (Cond.before_iff.mp (hsets _ (List.mem_of_getElem? (i := 8) rfl)))
  have S12 : Sta s s.heap "jdk/internal/util/Preconditions" "SIOOBE_FORMATTER" "Ljava/util/function/BiFunction;" wf := Sta.start e10 (Or.inl (hsets _ (List.mem_of_getElem? (i := 7) rfl)))
  have c13 : ¬ (zc = (0 : Int32)) := gotF (Cond.eq_ints e6 (Term.int_eval (0))) n3
  have SS : own_SS s zc wf := ⟨c13, S8, r11, S12⟩
  have H0 : CHv s own_EL s.vm s.heap := CHv.start (own_hEL hw) (fun p hp => hcalls.1 p hp) (hsets _ (List.mem_of_getElem? (i := 2) rfl)) (hw _ (List.mem_of_getElem? (i := 19) rfl)) (hw _ (List.mem_of_getElem? (i := 5) rfl))
  obtain ⟨n, o, h1, h2, h3, _, L, rfl, ⟨rfl, N⟩, hC, hq⟩ := rm_law l s _ hw tables_1 i0 i1 i2 zc wf s.heap.size s.heap SS (Old.start s) p e ha hc hk s m _ below hf ((Spec.applies_iff_loose hf).mp happ).1 ⟨rfl, State.Warmed39.refl s, rfl, H0⟩ trivial
  refine ⟨n, _, h1, h2, h3, hpost _ _ _ _ _ _ ⟨Cond.after_iff.mpr rfl, Cond.after_iff.mpr (eq_i res_at (Term.int_eval (1)) rfl), trivial⟩ ⟨hq.1, hq.2.1, hq.2.2.1, (hq.2.2.2.sift fun y hy => Or.inr (N y hy)).mono (by decide) (by decide)⟩⟩
theorem main_1_1 : Claimed_1_1 := comes_1 fun _ _ _ _ _ _ h hF => ⟨h.1, hF⟩
theorem main_1_2 : Claimed_1_2 := comes_1 fun _ _ _ _ _ _ h hF => ⟨h.2.1, hF⟩
end Jvm.Pilot.@@N@@
namespace Jvm.Pilot.@@N@@
open Jvm Jvm.ClassFile Sem Op Lib Jvm.Free Jvm.Stand Jvm.Pilot.@@N@@.Jvm.D
/-! MADE BY PROGRAM (witnessworld.py) out of the Statement's table words and the real class files: 27 classes; the members and pool entries that the words name. The judged class is class 1, her method 3. -/
namespace start1
open Jvm.ClassFile
def u (s : String) : CpInfo := .utf8 (stringToUtf16 s)
/-- a pool by its gaps: so many unusable entries, then the entry; so many at the end -/
def gap : Nat → List CpInfo → List CpInfo
  | 0, r => r
  | n + 1, r => .unusable :: gap n r
def poolList (es : List (Nat × CpInfo)) (last : Nat) : List CpInfo := es.foldr (fun e r => gap e.1 (e.2 :: r)) (gap last [])
def pool (es : List (Nat × CpInfo)) (last : Nat) : Array CpInfo := ⟨poolList es last⟩
def fileOf (pool : Array CpInfo) (this : Nat) (attrs : Array Attribute := #[]) (ms : Array MethodInfo := #[]) (fl : Nat := 33) (sup : Nat := 0) (ifs : Array Nat := #[]) (fds : Array FieldInfo := #[]) : ClassFile where
  minorVersion := 0
  majorVersion := 65
  constantPool := pool
  accessFlags := fl
  thisClass := this
  superClass := sup
  interfaces := ifs
  fields := fds
  methods := ms
  attributes := attrs
def plain (name : String) (sup : Option ClassId) : Class where
  name := name
  kind := .ordinary
  loader := none
  accessFlags := 33
  super := sup
  interfaces := #[]
  cf := none
  fields := #[]
  methods := #[]
  instanceTypes := #[]
  staticTypes := #[]
  resolved := #[]
  callSites := []
  init := .initialized
  statics := none
  mirror := none

def pool0 : Array CpInfo := pool [(5, u "<init>"), (0, u "()V"), (1, .class_ 10), (1, u "java/lang/Object")] 113

def k0c0 : Code := { maxStack := 0, maxLocals := 1, code := object_method_1_code, exceptionTable := #[], attributes := #[] }
def k0m0 : Method := { name := "<init>", desc := "()V", sig := { parameters := [], returnType := none }, accessFlags := 1, code := some k0c0 }
/-- java/lang/Object -/
def k0 : Class := { plain "java/lang/Object" none with
  accessFlags := 33
  interfaces := #[]
  cf := some (fileOf pool0 8 #[] #[{ accessFlags := 1, nameIndex := 5, descriptorIndex := 6, attributes := #[] }] 33 0 #[] #[])
  fields := #[]
  methods := #[k0m0]
  instanceTypes := #[]
  staticTypes := #[]
  resolved := Array.replicate 124 none
  statics := none }

def pool1 : Array CpInfo := pool [(2, .class_ 4), (1, u "java/lang/Object"), (0, u "<init>"), (0, u "()V"), (0, .class_ 8), (0, u "java/lang/String"), (0, .methodref 7 10), (0, .nameAndType 5 11), (0, u "([C)V"), (0, .methodref 7 13), (0, .nameAndType 14 15), (0, u "valueOf"), (0, u "(C)Ljava/lang/String;"), (0, .methodref 7 17), (0, .nameAndType 18 19), (0, u "length"), (0, u "()I"), (0, .methodref 7 21), (0, .nameAndType 22 23), (0, u "charAt"), (0, u "(I)C"), (0, .methodref 25 26), (0, .class_ 27), (0, .nameAndType 28 29), (0, u "com/example/fenced_rbac/fencedrbac/cli/OptionUsagePinLaw"), (0, u "make"), (0, u "(ICC)Ljava/lang/String;"), (0, .class_ 31), (0, u "com/example/fenced_rbac/fencedrbac/cli/Options$Option"), (0, .methodref 30 33), (0, .nameAndType 5 34), (0, u "(Ljava/lang/String;Ljava/lang/String;Z)V"), (0, .methodref 30 36), (0, .nameAndType 37 38), (0, u "usage"), (0, u "()Ljava/lang/String;"), (0, .methodref 25 40), (0, .nameAndType 41 42), (0, u "at"), (0, u "(Ljava/lang/String;IC)Z"), (3, u "law"), (0, u "(III)Z")] 6

def k1m0 : Method := { name := "<init>", desc := "()V", sig := { parameters := [], returnType := none }, accessFlags := 1, code := none }
def k1c1 : Code := { maxStack := 6, maxLocals := 3, code := method_2_code, exceptionTable := #[], attributes := #[] }
def k1m1 : Method := { name := "make", desc := "(ICC)Ljava/lang/String;", sig := { parameters := [.int, .char, .char], returnType := some (.object "java/lang/String") }, accessFlags := 10, code := some k1c1 }
def k1c2 : Code := { maxStack := 2, maxLocals := 3, code := method_3_code, exceptionTable := #[], attributes := #[] }
def k1m2 : Method := { name := "at", desc := "(Ljava/lang/String;IC)Z", sig := { parameters := [(.object "java/lang/String"), .int, .char], returnType := some .boolean }, accessFlags := 10, code := some k1c2 }
def k1c3 : Code := { maxStack := 5, maxLocals := 15, code := code, exceptionTable := #[], attributes := #[] }
def k1m3 : Method := { name := "law", desc := "(III)Z", sig := { parameters := [.int, .int, .int], returnType := some .boolean }, accessFlags := 9, code := some k1c3 }
/-- com/example/fenced_rbac/fencedrbac/cli/OptionUsagePinLaw -/
def k1 : Class := { plain "com/example/fenced_rbac/fencedrbac/cli/OptionUsagePinLaw" (some 0) with
  accessFlags := 49
  interfaces := #[]
  cf := some (fileOf pool1 25 #[] #[{ accessFlags := 1, nameIndex := 5, descriptorIndex := 6, attributes := #[] }, { accessFlags := 10, nameIndex := 28, descriptorIndex := 29, attributes := #[] }, { accessFlags := 10, nameIndex := 41, descriptorIndex := 42, attributes := #[] }, { accessFlags := 9, nameIndex := 46, descriptorIndex := 47, attributes := #[] }] 49 2 #[] #[])
  fields := #[]
  methods := #[k1m0, k1m1, k1m2, k1m3]
  instanceTypes := #[]
  staticTypes := #[]
  resolved := Array.replicate 54 none
  statics := none }

def pool2 : Array CpInfo := pool [(1, .class_ 2), (0, u "java/io/Serializable"), (0, .class_ 4), (0, u "java/lang/Object")] 2

/-- java/io/Serializable -/
def k2 : Class := { plain "java/io/Serializable" (some 0) with
  accessFlags := 1537
  interfaces := #[]
  cf := some (fileOf pool2 1 #[] #[] 1537 3 #[] #[])
  fields := #[]
  methods := #[]
  instanceTypes := #[]
  staticTypes := #[]
  resolved := Array.replicate 7 none
  statics := none }

def pool3 : Array CpInfo := pool [(1, .class_ 2), (0, u "java/lang/Comparable"), (0, .class_ 4), (0, u "java/lang/Object")] 7

/-- java/lang/Comparable -/
def k3 : Class := { plain "java/lang/Comparable" (some 0) with
  accessFlags := 1537
  interfaces := #[]
  cf := some (fileOf pool3 1 #[] #[] 1537 3 #[] #[])
  fields := #[]
  methods := #[]
  instanceTypes := #[]
  staticTypes := #[]
  resolved := Array.replicate 12 none
  statics := none }

def pool4 : Array CpInfo := pool [(2, .class_ 4), (1, u "java/lang/CharSequence"), (42, .class_ 48), (0, u "java/lang/CharSequence$1CodePointIterator"), (10, .class_ 60), (0, u "java/lang/CharSequence$1CharIterator"), (5, .class_ 67), (0, u "java/lang/Object")] 63

/-- java/lang/CharSequence -/
def k4 : Class := { plain "java/lang/CharSequence" (some 0) with
  accessFlags := 1537
  interfaces := #[]
  cf := some (fileOf pool4 2 #[.nestMembers #[47, 59]] #[] 1537 66 #[] #[])
  fields := #[]
  methods := #[]
  instanceTypes := #[]
  staticTypes := #[]
  resolved := Array.replicate 131 none
  statics := none }

def pool5 : Array CpInfo := pool [(1, .class_ 2), (0, u "java/lang/constant/Constable"), (0, .class_ 4), (0, u "java/lang/Object")] 6

/-- java/lang/constant/Constable -/
def k5 : Class := { plain "java/lang/constant/Constable" (some 0) with
  accessFlags := 1537
  interfaces := #[]
  cf := some (fileOf pool5 1 #[] #[] 1537 3 #[] #[])
  fields := #[]
  methods := #[]
  instanceTypes := #[]
  staticTypes := #[]
  resolved := Array.replicate 11 none
  statics := none }

def pool6 : Array CpInfo := pool [(1, .class_ 2), (0, u "java/lang/constant/ConstantDesc"), (0, .class_ 4), (0, u "java/lang/Object")] 32

/-- java/lang/constant/ConstantDesc -/
def k6 : Class := { plain "java/lang/constant/ConstantDesc" (some 0) with
  accessFlags := 1537
  interfaces := #[]
  cf := some (fileOf pool6 1 #[] #[] 1537 3 #[] #[])
  fields := #[]
  methods := #[]
  instanceTypes := #[]
  staticTypes := #[]
  resolved := Array.replicate 37 none
  statics := none }

def pool7 : Array CpInfo := pool [(1, .methodref 2 3), (0, .class_ 4), (0, .nameAndType 5 6), (0, u "java/lang/Object"), (0, u "<init>"), (0, u "()V"), (0, .string 8), (0, u ""), (0, .fieldref 10 11), (0, .class_ 12), (0, .nameAndType 13 14), (0, u "java/lang/String"), (0, u "value"), (0, u "[B"), (0, .fieldref 10 16), (0, .nameAndType 17 18), (0, u "coder"), (0, u "B"), (2, u "hash"), (0, u "I"), (2, u "hashIsZero"), (0, u "Z"), (0, .methodref 10 28), (0, .nameAndType 5 29), (0, u "([CIILjava/lang/Void;)V"), (8, .fieldref 10 39), (0, .nameAndType 40 26), (0, u "COMPACT_STRINGS"), (1, .class_ 44), (1, u "java/lang/StringUTF16"), (0, u "compress"), (1, .methodref 42 48), (0, .nameAndType 49 50), (0, u "coderFromArrayLen"), (0, u "([BI)B"), (2, u "toBytes"), (0, .methodref 55 56), (0, .class_ 57), (0, .nameAndType 58 59), (0, u "java/util/Arrays"), (0, u "copyOfRange"), (0, u "([BII)[B"), (47, .class_ 109), (1, u "java/lang/StringLatin1"), (32, u "()Z"), (34, .methodref 42 178), (0, .nameAndType 45 179), (0, u "([CII)[B"), (13, .class_ 195), (1, u "java/lang/System"), (13, .methodref 10 210), (0, .nameAndType 5 211), (0, u "([BB)V"), (0, .methodref 193 213), (0, .nameAndType 214 215), (0, u "arraycopy"), (0, u "(Ljava/lang/Object;ILjava/lang/Object;II)V"), (118, u "()I"), (0, .methodref 10 336), (0, .nameAndType 17 337), (0, u "()B"), (2, u "()[B"), (22, u "([BI)C"), (5, u "(C)Z"), (21, u "(II)V"), (35, u "(I)C"), (61, .methodref 10 490), (0, .nameAndType 5 491), (0, u "(Ljava/lang/AbstractStringBuilder;Ljava/lang/Void;)V"), (0, .methodref 10 493), (0, .nameAndType 494 142), (0, u "isLatin1"), (0, .methodref 107 496), (0, .nameAndType 497 363), (0, u "charAt"), (3, u "checkIndex"), (4, .nameAndType 507 334), (0, u "length"), (24, u "getBytes"), (16, .methodref 550 506), (0, .class_ 551), (0, u "java/lang/AbstractStringBuilder"), (0, .methodref 550 553), (0, .nameAndType 554 340), (0, u "getValue"), (20, .class_ 576), (0, u "java/lang/CharSequence"), (22, u "CASE_INSENSITIVE_ORDER"), (0, u "Ljava/util/Comparator;"), (181, u "valueOf"), (0, u "(C)Ljava/lang/String;"), (37, u "([BIB)V"), (188, u "([C)V"), (4, .methodref 107 1016), (0, .nameAndType 1017 369), (0, u "canEncode"), (0, .methodref 107 1019), (0, .nameAndType 53 1020), (0, u "(C)[B"), (26, .methodref 550 493), (5, .fieldref 1054 1055), (0, .class_ 1056), (0, .nameAndType 1057 1058), (0, u "jdk/internal/util/Preconditions"), (0, u "SIOOBE_FORMATTER"), (0, u "Ljava/util/function/BiFunction;"), (0, .methodref 1054 1060), (0, .nameAndType 501 1061), (0, u "(IILjava/util/function/BiFunction;)I"), (39, u "serialPersistentFields"), (0, u "[Ljava/io/ObjectStreamField;"), (0, .class_ 1104), (0, u "java/lang/String$CaseInsensitiveComparator"), (1, .class_ 1107), (0, u "java/io/Serializable"), (0, .class_ 1109), (0, u "java/lang/Comparable"), (0, .class_ 1111), (0, u "java/lang/constant/Constable"), (0, .class_ 1113), (0, u "java/lang/constant/ConstantDesc"), (2, u "serialVersionUID"), (0, u "J"), (3, u "REPL"), (0, u "C"), (2, u "LATIN1"), (1, u "UTF16"), (105, u "(Ljava/lang/StringBuilder;)V")] 217

def k7m0 : Method := { name := "<init>", desc := "()V", sig := { parameters := [], returnType := none }, accessFlags := 1, code := none }
def k7c1 : Code := { maxStack := 5, maxLocals := 2, code := jdk_42_method_3_code, exceptionTable := #[], attributes := #[] }
def k7m1 : Method := { name := "<init>", desc := "([C)V", sig := { parameters := [(.array .char)], returnType := none }, accessFlags := 1, code := some k7c1 }
def k7c2 : Code := { maxStack := 3, maxLocals := 2, code := jdk_42_method_53_code, exceptionTable := #[], attributes := #[] }
def k7m2 : Method := { name := "<init>", desc := "(Ljava/lang/StringBuilder;)V", sig := { parameters := [(.object "java/lang/StringBuilder")], returnType := none }, accessFlags := 1, code := some k7c2 }
def k7c3 : Code := { maxStack := 2, maxLocals := 1, code := jdk_42_method_54_code, exceptionTable := #[], attributes := #[] }
def k7m3 : Method := { name := "length", desc := "()I", sig := { parameters := [], returnType := some .int }, accessFlags := 1, code := some k7c3 }
def k7c4 : Code := { maxStack := 2, maxLocals := 2, code := jdk_42_method_56_code, exceptionTable := #[], attributes := #[] }
def k7m4 : Method := { name := "charAt", desc := "(I)C", sig := { parameters := [.int], returnType := some .char }, accessFlags := 1, code := some k7c4 }
def k7c5 : Code := { maxStack := 4, maxLocals := 1, code := jdk_42_method_139_code, exceptionTable := #[], attributes := #[] }
def k7m5 : Method := { name := "valueOf", desc := "(C)Ljava/lang/String;", sig := { parameters := [.char], returnType := some (.object "java/lang/String") }, accessFlags := 9, code := some k7c5 }
def k7c6 : Code := { maxStack := 5, maxLocals := 4, code := jdk_42_method_147_code, exceptionTable := #[], attributes := #[] }
def k7m6 : Method := { name := "getBytes", desc := "([BIB)V", sig := { parameters := [(.array .byte), .int, .byte], returnType := none }, accessFlags := 0, code := some k7c6 }
def k7c7 : Code := { maxStack := 4, maxLocals := 6, code := jdk_42_method_149_code, exceptionTable := #[], attributes := #[] }
def k7m7 : Method := { name := "<init>", desc := "([CIILjava/lang/Void;)V", sig := { parameters := [(.array .char), .int, .int, (.object "java/lang/Void")], returnType := none }, accessFlags := 2, code := some k7c7 }
def k7c8 : Code := { maxStack := 5, maxLocals := 5, code := jdk_42_method_150_code, exceptionTable := #[], attributes := #[] }
def k7m8 : Method := { name := "<init>", desc := "(Ljava/lang/AbstractStringBuilder;Ljava/lang/Void;)V", sig := { parameters := [(.object "java/lang/AbstractStringBuilder"), (.object "java/lang/Void")], returnType := none }, accessFlags := 0, code := some k7c8 }
def k7c9 : Code := { maxStack := 2, maxLocals := 3, code := jdk_42_method_151_code, exceptionTable := #[], attributes := #[] }
def k7m9 : Method := { name := "<init>", desc := "([BB)V", sig := { parameters := [(.array .byte), .byte], returnType := none }, accessFlags := 0, code := some k7c9 }
def k7c10 : Code := { maxStack := 1, maxLocals := 1, code := jdk_42_method_152_code, exceptionTable := #[], attributes := #[] }
def k7m10 : Method := { name := "coder", desc := "()B", sig := { parameters := [], returnType := some .byte }, accessFlags := 0, code := some k7c10 }
def k7c11 : Code := { maxStack := 1, maxLocals := 1, code := jdk_42_method_154_code, exceptionTable := #[], attributes := #[] }
def k7m11 : Method := { name := "isLatin1", desc := "()Z", sig := { parameters := [], returnType := some .boolean }, accessFlags := 0, code := some k7c11 }
def k7c12 : Code := { maxStack := 3, maxLocals := 2, code := jdk_42_method_155_code, exceptionTable := #[], attributes := #[] }
def k7m12 : Method := { name := "checkIndex", desc := "(II)V", sig := { parameters := [.int, .int], returnType := none }, accessFlags := 8, code := some k7c12 }
/-- java/lang/String -/
def k7 : Class := { plain "java/lang/String" (some 0) with
  accessFlags := 49
  interfaces := #[2, 3, 4, 5, 6]
  cf := some (fileOf pool7 10 #[.nestMembers #[1103]] #[{ accessFlags := 1, nameIndex := 5, descriptorIndex := 6, attributes := #[] }, { accessFlags := 1, nameIndex := 5, descriptorIndex := 1010, attributes := #[] }, { accessFlags := 1, nameIndex := 5, descriptorIndex := 1233, attributes := #[] }, { accessFlags := 1, nameIndex := 507, descriptorIndex := 334, attributes := #[] }, { accessFlags := 1, nameIndex := 497, descriptorIndex := 427, attributes := #[] }, { accessFlags := 9, nameIndex := 782, descriptorIndex := 783, attributes := #[] }, { accessFlags := 0, nameIndex := 532, descriptorIndex := 821, attributes := #[] }, { accessFlags := 2, nameIndex := 5, descriptorIndex := 29, attributes := #[] }, { accessFlags := 0, nameIndex := 5, descriptorIndex := 491, attributes := #[] }, { accessFlags := 0, nameIndex := 5, descriptorIndex := 211, attributes := #[] }, { accessFlags := 0, nameIndex := 17, descriptorIndex := 337, attributes := #[] }, { accessFlags := 0, nameIndex := 494, descriptorIndex := 142, attributes := #[] }, { accessFlags := 8, nameIndex := 501, descriptorIndex := 391, attributes := #[] }] 49 2 #[1106, 1108, 575, 1110, 1112] #[{ accessFlags := 18, nameIndex := 13, descriptorIndex := 14, attributes := #[] }, { accessFlags := 18, nameIndex := 17, descriptorIndex := 18, attributes := #[] }, { accessFlags := 2, nameIndex := 21, descriptorIndex := 22, attributes := #[] }, { accessFlags := 2, nameIndex := 25, descriptorIndex := 26, attributes := #[] }, { accessFlags := 26, nameIndex := 1116, descriptorIndex := 1117, attributes := #[] }, { accessFlags := 24, nameIndex := 40, descriptorIndex := 26, attributes := #[] }, { accessFlags := 26, nameIndex := 1101, descriptorIndex := 1102, attributes := #[] }, { accessFlags := 26, nameIndex := 1121, descriptorIndex := 1122, attributes := #[] }, { accessFlags := 25, nameIndex := 599, descriptorIndex := 600, attributes := #[] }, { accessFlags := 24, nameIndex := 1125, descriptorIndex := 18, attributes := #[] }, { accessFlags := 24, nameIndex := 1127, descriptorIndex := 18, attributes := #[] }])
  fields := #[{ name := "value", type := (.array .byte), accessFlags := 18, slot := 0, constantValue := 0 }, { name := "coder", type := .byte, accessFlags := 18, slot := 1, constantValue := 0 }, { name := "hash", type := .int, accessFlags := 2, slot := 2, constantValue := 0 }, { name := "hashIsZero", type := .boolean, accessFlags := 2, slot := 3, constantValue := 0 }, { name := "serialVersionUID", type := .long, accessFlags := 26, slot := 0, constantValue := 0 }, { name := "COMPACT_STRINGS", type := .boolean, accessFlags := 24, slot := 1, constantValue := 0 }, { name := "serialPersistentFields", type := (.array (.object "java/io/ObjectStreamField")), accessFlags := 26, slot := 2, constantValue := 0 }, { name := "REPL", type := .char, accessFlags := 26, slot := 3, constantValue := 0 }, { name := "CASE_INSENSITIVE_ORDER", type := (.object "java/util/Comparator"), accessFlags := 25, slot := 4, constantValue := 0 }, { name := "LATIN1", type := .byte, accessFlags := 24, slot := 5, constantValue := 0 }, { name := "UTF16", type := .byte, accessFlags := 24, slot := 6, constantValue := 0 }]
  methods := #[k7m0, k7m1, k7m2, k7m3, k7m4, k7m5, k7m6, k7m7, k7m8, k7m9, k7m10, k7m11, k7m12]
  instanceTypes := #[(.array .byte), .byte, .int, .boolean]
  staticTypes := #[.long, .boolean, (.array (.object "java/io/ObjectStreamField")), .char, (.object "java/util/Comparator"), .byte, .byte]
  resolved := Array.replicate 1451 none
  statics := some 0 }

def pool8 : Array CpInfo := pool [(1, .methodref 2 3), (0, .class_ 4), (0, .nameAndType 5 6), (0, u "java/lang/Object"), (0, u "<init>"), (0, u "()V"), (0, .class_ 8), (0, u "java/lang/Record")] 13

def k8c0 : Code := { maxStack := 1, maxLocals := 1, code := jdk_30_method_1_code, exceptionTable := #[], attributes := #[] }
def k8m0 : Method := { name := "<init>", desc := "()V", sig := { parameters := [], returnType := none }, accessFlags := 4, code := some k8c0 }
/-- java/lang/Record -/
def k8 : Class := { plain "java/lang/Record" (some 0) with
  accessFlags := 1057
  interfaces := #[]
  cf := some (fileOf pool8 7 #[] #[{ accessFlags := 4, nameIndex := 5, descriptorIndex := 6, attributes := #[] }] 1057 2 #[] #[])
  fields := #[]
  methods := #[k8m0]
  instanceTypes := #[]
  staticTypes := #[]
  resolved := Array.replicate 22 none
  statics := none }

def pool9 : Array CpInfo := pool [(1, .methodref 2 3), (0, .class_ 4), (0, .nameAndType 5 6), (0, u "java/lang/Record"), (0, u "<init>"), (0, u "()V"), (0, .fieldref 8 9), (0, .class_ 10), (0, .nameAndType 11 12), (0, u "com/example/fenced_rbac/fencedrbac/cli/Options$Option"), (0, u "name"), (0, u "Ljava/lang/String;"), (0, .fieldref 8 14), (0, .nameAndType 15 12), (0, u "value"), (0, .fieldref 8 17), (0, .nameAndType 18 19), (0, u "mandatory"), (0, u "Z"), (2, u "(Ljava/lang/String;Ljava/lang/String;Z)V"), (0, .class_ 24), (0, u "java/lang/StringBuilder"), (0, .methodref 23 3), (0, .methodref 23 27), (0, .nameAndType 28 29), (0, u "append"), (0, u "(Ljava/lang/String;)Ljava/lang/StringBuilder;"), (0, .string 31), (0, u " "), (0, .methodref 23 33), (0, .nameAndType 34 35), (0, u "toString"), (0, u "()Ljava/lang/String;"), (0, .string 37), (0, u "["), (0, .string 39), (0, u "]"), (17, u "usage"), (9, .class_ 68), (0, u "com/example/fenced_rbac/fencedrbac/cli/Options")] 21

def k9c0 : Code := { maxStack := 2, maxLocals := 4, code := prog_3_method_1_code, exceptionTable := #[], attributes := #[] }
def k9m0 : Method := { name := "<init>", desc := "(Ljava/lang/String;Ljava/lang/String;Z)V", sig := { parameters := [(.object "java/lang/String"), (.object "java/lang/String"), .boolean], returnType := none }, accessFlags := 0, code := some k9c0 }
def k9c1 : Code := { maxStack := 2, maxLocals := 2, code := prog_3_method_4_code, exceptionTable := #[], attributes := #[] }
def k9m1 : Method := { name := "usage", desc := "()Ljava/lang/String;", sig := { parameters := [], returnType := some (.object "java/lang/String") }, accessFlags := 0, code := some k9c1 }
/-- com/example/fenced_rbac/fencedrbac/cli/Options$Option -/
def k9 : Class := { plain "com/example/fenced_rbac/fencedrbac/cli/Options$Option" (some 8) with
  accessFlags := 48
  interfaces := #[]
  cf := some (fileOf pool9 8 #[.nestHost 67] #[{ accessFlags := 0, nameIndex := 5, descriptorIndex := 22, attributes := #[] }, { accessFlags := 0, nameIndex := 57, descriptorIndex := 35, attributes := #[] }] 48 2 #[] #[{ accessFlags := 18, nameIndex := 11, descriptorIndex := 12, attributes := #[] }, { accessFlags := 18, nameIndex := 15, descriptorIndex := 12, attributes := #[] }, { accessFlags := 18, nameIndex := 18, descriptorIndex := 19, attributes := #[] }])
  fields := #[{ name := "name", type := (.object "java/lang/String"), accessFlags := 18, slot := 0, constantValue := 0 }, { name := "value", type := (.object "java/lang/String"), accessFlags := 18, slot := 1, constantValue := 0 }, { name := "mandatory", type := .boolean, accessFlags := 18, slot := 2, constantValue := 0 }]
  methods := #[k9m0, k9m1]
  instanceTypes := #[(.object "java/lang/String"), (.object "java/lang/String"), .boolean]
  staticTypes := #[]
  resolved := Array.replicate 90 none
  statics := none }

def pool10 : Array CpInfo := pool [(1, .class_ 2), (0, u "java/lang/Appendable"), (0, .class_ 4), (0, u "java/lang/Object")] 9

/-- java/lang/Appendable -/
def k10 : Class := { plain "java/lang/Appendable" (some 0) with
  accessFlags := 1537
  interfaces := #[]
  cf := some (fileOf pool10 1 #[] #[] 1537 3 #[] #[])
  fields := #[]
  methods := #[]
  instanceTypes := #[]
  staticTypes := #[]
  resolved := Array.replicate 14 none
  statics := none }

def pool11 : Array CpInfo := pool [(1, .class_ 2), (0, u "java/lang/String"), (0, .methodref 4 5), (0, .class_ 6), (0, .nameAndType 7 8), (0, u "java/lang/Object"), (0, u "<init>"), (0, u "()V"), (1, .class_ 12), (1, u "java/lang/AbstractStringBuilder"), (0, u "EMPTYVALUE"), (0, u "[B"), (0, .fieldref 10 16), (0, .nameAndType 17 14), (0, u "value"), (0, .fieldref 1 19), (0, .nameAndType 20 21), (0, u "COMPACT_STRINGS"), (0, u "Z"), (0, .fieldref 10 23), (0, .nameAndType 24 25), (0, u "coder"), (0, u "B"), (6, .methodref 1 33), (0, .nameAndType 34 35), (0, u "length"), (0, u "()I"), (4, .methodref 1 41), (0, .nameAndType 24 42), (0, u "()B"), (2, u "append"), (0, u "(Ljava/lang/String;)Ljava/lang/AbstractStringBuilder;"), (1, .class_ 49), (0, u "java/lang/CharSequence"), (19, u "(Ljava/lang/String;)V"), (5, u "maybeLatin1"), (3, .fieldref 10 80), (0, .nameAndType 81 82), (0, u "count"), (0, u "I"), (2, u "isLatin1"), (0, u "()Z"), (13, .methodref 10 101), (0, .nameAndType 102 103), (0, u "ensureCapacityInternal"), (0, u "(I)V"), (104, .methodref 10 209), (0, .nameAndType 210 211), (0, u "putStringAt"), (0, u "(ILjava/lang/String;)V"), (5, u "inflateIfNeededFor"), (2, .nameAndType 221 222), (0, u "getBytes"), (0, u "([BIB)V"), (174, .methodref 10 398), (0, .nameAndType 217 69), (0, .methodref 1 220), (3, u "()[B"), (40, .class_ 445), (0, u "java/lang/Appendable"), (106, u "getValue")] 56

def k11m0 : Method := { name := "<init>", desc := "()V", sig := { parameters := [], returnType := none }, accessFlags := 0, code := none }
def k11c1 : Code := { maxStack := 2, maxLocals := 2, code := jdk_68_method_2_code, exceptionTable := #[], attributes := #[] }
def k11m1 : Method := { name := "<init>", desc := "(I)V", sig := { parameters := [.int], returnType := none }, accessFlags := 0, code := some k11c1 }
def k11c2 : Code := { maxStack := 1, maxLocals := 1, code := jdk_68_method_6_code, exceptionTable := #[], attributes := #[] }
def k11m2 : Method := { name := "length", desc := "()I", sig := { parameters := [], returnType := some .int }, accessFlags := 1, code := some k11c2 }
def k11c3 : Code := { maxStack := 4, maxLocals := 3, code := jdk_68_method_9_code, exceptionTable := #[], attributes := #[] }
def k11m3 : Method := { name := "ensureCapacityInternal", desc := "(I)V", sig := { parameters := [.int], returnType := none }, accessFlags := 2, code := some k11c3 }
def k11c4 : Code := { maxStack := 3, maxLocals := 3, code := jdk_68_method_22_code, exceptionTable := #[], attributes := #[] }
def k11m4 : Method := { name := "append", desc := "(Ljava/lang/String;)Ljava/lang/AbstractStringBuilder;", sig := { parameters := [(.object "java/lang/String")], returnType := some (.object "java/lang/AbstractStringBuilder") }, accessFlags := 1, code := some k11c4 }
def k11c5 : Code := { maxStack := 1, maxLocals := 1, code := jdk_68_method_64_code, exceptionTable := #[], attributes := #[] }
def k11m5 : Method := { name := "getValue", desc := "()[B", sig := { parameters := [], returnType := some (.array .byte) }, accessFlags := 16, code := some k11c5 }
def k11c6 : Code := { maxStack := 1, maxLocals := 1, code := jdk_68_method_68_code, exceptionTable := #[], attributes := #[] }
def k11m6 : Method := { name := "isLatin1", desc := "()Z", sig := { parameters := [], returnType := some .boolean }, accessFlags := 16, code := some k11c6 }
def k11c7 : Code := { maxStack := 2, maxLocals := 2, code := jdk_68_method_71_code, exceptionTable := #[], attributes := #[] }
def k11m7 : Method := { name := "inflateIfNeededFor", desc := "(Ljava/lang/String;)V", sig := { parameters := [(.object "java/lang/String")], returnType := none }, accessFlags := 2, code := some k11c7 }
def k11c8 : Code := { maxStack := 4, maxLocals := 3, code := jdk_68_method_73_code, exceptionTable := #[], attributes := #[] }
def k11m8 : Method := { name := "putStringAt", desc := "(ILjava/lang/String;)V", sig := { parameters := [.int, (.object "java/lang/String")], returnType := none }, accessFlags := 2, code := some k11c8 }
/-- java/lang/AbstractStringBuilder -/
def k11 : Class := { plain "java/lang/AbstractStringBuilder" (some 0) with
  accessFlags := 1056
  interfaces := #[10, 4]
  cf := some (fileOf pool11 10 #[] #[{ accessFlags := 0, nameIndex := 7, descriptorIndex := 8, attributes := #[] }, { accessFlags := 0, nameIndex := 7, descriptorIndex := 103, attributes := #[] }, { accessFlags := 1, nameIndex := 34, descriptorIndex := 35, attributes := #[] }, { accessFlags := 2, nameIndex := 102, descriptorIndex := 103, attributes := #[] }, { accessFlags := 1, nameIndex := 45, descriptorIndex := 46, attributes := #[] }, { accessFlags := 16, nameIndex := 552, descriptorIndex := 403, attributes := #[] }, { accessFlags := 16, nameIndex := 85, descriptorIndex := 86, attributes := #[] }, { accessFlags := 2, nameIndex := 217, descriptorIndex := 69, attributes := #[] }, { accessFlags := 2, nameIndex := 210, descriptorIndex := 211, attributes := #[] }] 1056 4 #[444, 48] #[{ accessFlags := 0, nameIndex := 17, descriptorIndex := 14, attributes := #[] }, { accessFlags := 0, nameIndex := 24, descriptorIndex := 25, attributes := #[] }, { accessFlags := 0, nameIndex := 75, descriptorIndex := 21, attributes := #[] }, { accessFlags := 0, nameIndex := 81, descriptorIndex := 82, attributes := #[] }, { accessFlags := 26, nameIndex := 13, descriptorIndex := 14, attributes := #[] }])
  fields := #[{ name := "value", type := (.array .byte), accessFlags := 0, slot := 0, constantValue := 0 }, { name := "coder", type := .byte, accessFlags := 0, slot := 1, constantValue := 0 }, { name := "maybeLatin1", type := .boolean, accessFlags := 0, slot := 2, constantValue := 0 }, { name := "count", type := .int, accessFlags := 0, slot := 3, constantValue := 0 }, { name := "EMPTYVALUE", type := (.array .byte), accessFlags := 26, slot := 0, constantValue := 0 }]
  methods := #[k11m0, k11m1, k11m2, k11m3, k11m4, k11m5, k11m6, k11m7, k11m8]
  instanceTypes := #[(.array .byte), .byte, .boolean, .int]
  staticTypes := #[(.array .byte)]
  resolved := Array.replicate 609 none
  statics := none }

def pool12 : Array CpInfo := pool [(1, .methodref 2 3), (0, .class_ 4), (0, .nameAndType 5 6), (0, u "java/lang/AbstractStringBuilder"), (0, u "<init>"), (0, u "(I)V"), (11, .class_ 20), (1, u "java/lang/String"), (3, .class_ 26), (1, u "java/lang/StringBuilder"), (0, u "append"), (0, u "(Ljava/lang/String;)Ljava/lang/StringBuilder;"), (0, .methodref 2 30), (0, .nameAndType 27 31), (0, u "(Ljava/lang/String;)Ljava/lang/AbstractStringBuilder;"), (105, .methodref 18 138), (0, .nameAndType 5 139), (0, u "(Ljava/lang/StringBuilder;)V"), (5, u "()V"), (10, u "()I"), (186, .methodref 2 344), (0, .nameAndType 345 156), (0, u "length"), (3, .class_ 350), (0, u "java/lang/Appendable"), (0, .class_ 352), (0, u "java/io/Serializable"), (0, .class_ 354), (0, u "java/lang/Comparable"), (0, .class_ 356), (0, u "java/lang/CharSequence"), (0, u "serialVersionUID"), (0, u "J"), (40, u "toString"), (0, u "()Ljava/lang/String;")] 21

def k12c0 : Code := { maxStack := 2, maxLocals := 1, code := jdk_67_method_1_code, exceptionTable := #[], attributes := #[] }
def k12m0 : Method := { name := "<init>", desc := "()V", sig := { parameters := [], returnType := none }, accessFlags := 1, code := some k12c0 }
def k12c1 : Code := { maxStack := 2, maxLocals := 2, code := jdk_67_method_7_code, exceptionTable := #[], attributes := #[] }
def k12m1 : Method := { name := "append", desc := "(Ljava/lang/String;)Ljava/lang/StringBuilder;", sig := { parameters := [(.object "java/lang/String")], returnType := some (.object "java/lang/StringBuilder") }, accessFlags := 1, code := some k12c1 }
def k12c2 : Code := { maxStack := 3, maxLocals := 1, code := jdk_67_method_42_code, exceptionTable := #[], attributes := #[] }
def k12m2 : Method := { name := "toString", desc := "()Ljava/lang/String;", sig := { parameters := [], returnType := some (.object "java/lang/String") }, accessFlags := 1, code := some k12c2 }
def k12c3 : Code := { maxStack := 1, maxLocals := 1, code := jdk_67_method_93_code, exceptionTable := #[], attributes := #[] }
def k12m3 : Method := { name := "length", desc := "()I", sig := { parameters := [], returnType := some .int }, accessFlags := 4161, code := some k12c3 }
/-- java/lang/StringBuilder -/
def k12 : Class := { plain "java/lang/StringBuilder" (some 11) with
  accessFlags := 49
  interfaces := #[10, 2, 3, 4]
  cf := some (fileOf pool12 24 #[] #[{ accessFlags := 1, nameIndex := 5, descriptorIndex := 145, attributes := #[] }, { accessFlags := 1, nameIndex := 27, descriptorIndex := 28, attributes := #[] }, { accessFlags := 1, nameIndex := 399, descriptorIndex := 400, attributes := #[] }, { accessFlags := 4161, nameIndex := 345, descriptorIndex := 156, attributes := #[] }] 49 2 #[349, 351, 353, 355] #[{ accessFlags := 24, nameIndex := 357, descriptorIndex := 358, attributes := #[] }])
  fields := #[{ name := "serialVersionUID", type := .long, accessFlags := 24, slot := 0, constantValue := 0 }]
  methods := #[k12m0, k12m1, k12m2, k12m3]
  instanceTypes := #[(.array .byte), .byte, .boolean, .int]
  staticTypes := #[.long]
  resolved := Array.replicate 422 none
  statics := none }

def pool13 : Array CpInfo := pool [(2, .class_ 4), (1, u "java/lang/Object"), (0, u "<init>"), (0, u "()V"), (1, .class_ 10), (1, u "java/lang/System"), (0, u "allowSecurityManager"), (0, u "I"), (16, u "cons"), (0, u "Ljava/io/Console;"), (77, .class_ 110), (1, u "java/lang/System$CallersHolder"), (43, u "initialErrStream"), (0, u "Ljava/io/PrintStream;"), (19, u "security"), (0, u "Ljava/lang/SecurityManager;"), (31, .class_ 209), (0, u "java/lang/System$1"), (7, u "props"), (0, u "Ljava/util/Properties;"), (2, u "lineSeparator"), (0, u "Ljava/lang/String;"), (96, .class_ 321), (1, u "java/lang/System$LoggerFinder"), (5, .class_ 328), (0, u "java/lang/System$Logger"), (67, u "err"), (2, u "out"), (91, u "notSupportedJnuEncoding"), (15, u "in"), (17, u "initialIn"), (0, u "Ljava/io/InputStream;"), (35, u "bootLayer"), (0, u "Ljava/lang/ModuleLayer;"), (99, .class_ 664), (0, u "java/lang/System$2"), (9, u "NEVER"), (2, u "MAYBE"), (49, u "arraycopy"), (0, u "(Ljava/lang/Object;ILjava/lang/Object;II)V"), (72, .class_ 802), (0, u "java/lang/System$Logger$Level")] 31

def k13m0 : Method := { name := "<init>", desc := "()V", sig := { parameters := [], returnType := none }, accessFlags := 2, code := none }
def k13m1 : Method := { name := "arraycopy", desc := "(Ljava/lang/Object;ILjava/lang/Object;II)V", sig := { parameters := [(.object "java/lang/Object"), .int, (.object "java/lang/Object"), .int, .int], returnType := none }, accessFlags := 265, code := none }
/-- java/lang/System -/
def k13 : Class := { plain "java/lang/System" (some 0) with
  accessFlags := 49
  interfaces := #[]
  cf := some (fileOf pool13 8 #[.nestMembers #[319, 327, 801, 108, 663, 208]] #[{ accessFlags := 2, nameIndex := 5, descriptorIndex := 6, attributes := #[] }, { accessFlags := 265, nameIndex := 727, descriptorIndex := 728, attributes := #[] }] 49 2 #[] #[{ accessFlags := 25, nameIndex := 507, descriptorIndex := 526, attributes := #[] }, { accessFlags := 25, nameIndex := 399, descriptorIndex := 155, attributes := #[] }, { accessFlags := 25, nameIndex := 396, descriptorIndex := 155, attributes := #[] }, { accessFlags := 10, nameIndex := 525, descriptorIndex := 526, attributes := #[] }, { accessFlags := 26, nameIndex := 674, descriptorIndex := 12, attributes := #[] }, { accessFlags := 26, nameIndex := 677, descriptorIndex := 12, attributes := #[] }, { accessFlags := 10, nameIndex := 11, descriptorIndex := 12, attributes := #[] }, { accessFlags := 74, nameIndex := 175, descriptorIndex := 176, attributes := #[] }, { accessFlags := 10, nameIndex := 491, descriptorIndex := 222, attributes := #[] }, { accessFlags := 74, nameIndex := 29, descriptorIndex := 30, attributes := #[] }, { accessFlags := 74, nameIndex := 154, descriptorIndex := 155, attributes := #[] }, { accessFlags := 10, nameIndex := 217, descriptorIndex := 218, attributes := #[] }, { accessFlags := 10, nameIndex := 221, descriptorIndex := 222, attributes := #[] }, { accessFlags := 8, nameIndex := 562, descriptorIndex := 563, attributes := #[] }])
  fields := #[{ name := "in", type := (.object "java/io/InputStream"), accessFlags := 25, slot := 0, constantValue := 0 }, { name := "out", type := (.object "java/io/PrintStream"), accessFlags := 25, slot := 1, constantValue := 0 }, { name := "err", type := (.object "java/io/PrintStream"), accessFlags := 25, slot := 2, constantValue := 0 }, { name := "initialIn", type := (.object "java/io/InputStream"), accessFlags := 10, slot := 3, constantValue := 0 }, { name := "NEVER", type := .int, accessFlags := 26, slot := 4, constantValue := 0 }, { name := "MAYBE", type := .int, accessFlags := 26, slot := 5, constantValue := 0 }, { name := "allowSecurityManager", type := .int, accessFlags := 10, slot := 6, constantValue := 0 }, { name := "security", type := (.object "java/lang/SecurityManager"), accessFlags := 74, slot := 7, constantValue := 0 }, { name := "notSupportedJnuEncoding", type := (.object "java/lang/String"), accessFlags := 10, slot := 8, constantValue := 0 }, { name := "cons", type := (.object "java/io/Console"), accessFlags := 74, slot := 9, constantValue := 0 }, { name := "initialErrStream", type := (.object "java/io/PrintStream"), accessFlags := 74, slot := 10, constantValue := 0 }, { name := "props", type := (.object "java/util/Properties"), accessFlags := 10, slot := 11, constantValue := 0 }, { name := "lineSeparator", type := (.object "java/lang/String"), accessFlags := 10, slot := 12, constantValue := 0 }, { name := "bootLayer", type := (.object "java/lang/ModuleLayer"), accessFlags := 8, slot := 13, constantValue := 0 }]
  methods := #[k13m0, k13m1]
  instanceTypes := #[]
  staticTypes := #[(.object "java/io/InputStream"), (.object "java/io/PrintStream"), (.object "java/io/PrintStream"), (.object "java/io/InputStream"), .int, .int, .int, (.object "java/lang/SecurityManager"), (.object "java/lang/String"), (.object "java/io/Console"), (.object "java/io/PrintStream"), (.object "java/util/Properties"), (.object "java/lang/String"), (.object "java/lang/ModuleLayer")]
  resolved := Array.replicate 834 none
  statics := none }

def pool14 : Array CpInfo := pool [(2, .class_ 4), (1, u "java/lang/Object"), (0, u "<init>"), (0, u "()V"), (7, .class_ 16), (1, u "java/util/Arrays"), (57, .class_ 76), (1, u "java/util/Arrays$NaturalOrder"), (36, .class_ 115), (1, u "java/util/Arrays$LegacyMergeSort"), (1, u "Z"), (21, u "copyOfRange"), (10, .methodref 151 152), (0, .class_ 153), (0, .nameAndType 154 155), (0, u "java/lang/System"), (0, u "arraycopy"), (0, u "(Ljava/lang/Object;ILjava/lang/Object;II)V"), (148, .methodref 305 306), (0, .class_ 307), (0, .nameAndType 308 309), (0, u "java/lang/Math"), (0, u "min"), (0, u "(II)I"), (29, .methodref 14 340), (0, .nameAndType 341 342), (0, u "copyOfRangeByte"), (0, u "([BII)[B"), (0, .methodref 14 344), (0, .nameAndType 345 346), (0, u "checkLength"), (0, u "(II)V"), (28, .class_ 376), (0, u "java/util/Arrays$ArrayList"), (68, u "$assertionsDisabled"), (269, u "MIN_ARRAY_SORT_GRAN"), (0, u "I"), (2, u "INSERTIONSORT_THRESHOLD"), (255, .class_ 976), (0, u "java/util/Arrays$ArrayItr")] 52

def k14m0 : Method := { name := "<init>", desc := "()V", sig := { parameters := [], returnType := none }, accessFlags := 2, code := none }
def k14c1 : Code := { maxStack := 4, maxLocals := 2, code := jdk_65_method_131_code, exceptionTable := #[], attributes := #[] }
def k14m1 : Method := { name := "checkLength", desc := "(II)V", sig := { parameters := [.int, .int], returnType := none }, accessFlags := 10, code := some k14c1 }
def k14c2 : Code := { maxStack := 3, maxLocals := 3, code := jdk_65_method_132_code, exceptionTable := #[], attributes := #[] }
def k14m2 : Method := { name := "copyOfRange", desc := "([BII)[B", sig := { parameters := [(.array .byte), .int, .int], returnType := some (.array .byte) }, accessFlags := 9, code := some k14c2 }
def k14c3 : Code := { maxStack := 6, maxLocals := 5, code := jdk_65_method_133_code, exceptionTable := #[], attributes := #[] }
def k14m3 : Method := { name := "copyOfRangeByte", desc := "([BII)[B", sig := { parameters := [(.array .byte), .int, .int], returnType := some (.array .byte) }, accessFlags := 10, code := some k14c3 }
/-- java/util/Arrays -/
def k14 : Class := { plain "java/util/Arrays" (some 0) with
  accessFlags := 49
  interfaces := #[]
  cf := some (fileOf pool14 14 #[.nestMembers #[975, 375, 113, 74]] #[{ accessFlags := 2, nameIndex := 5, descriptorIndex := 6, attributes := #[] }, { accessFlags := 10, nameIndex := 345, descriptorIndex := 346, attributes := #[] }, { accessFlags := 9, nameIndex := 139, descriptorIndex := 342, attributes := #[] }, { accessFlags := 10, nameIndex := 341, descriptorIndex := 342, attributes := #[] }] 49 2 #[] #[{ accessFlags := 26, nameIndex := 715, descriptorIndex := 716, attributes := #[] }, { accessFlags := 26, nameIndex := 719, descriptorIndex := 716, attributes := #[] }, { accessFlags := 4120, nameIndex := 445, descriptorIndex := 117, attributes := #[] }])
  fields := #[{ name := "MIN_ARRAY_SORT_GRAN", type := .int, accessFlags := 26, slot := 0, constantValue := 0 }, { name := "INSERTIONSORT_THRESHOLD", type := .int, accessFlags := 26, slot := 1, constantValue := 0 }, { name := "$assertionsDisabled", type := .boolean, accessFlags := 4120, slot := 2, constantValue := 0 }]
  methods := #[k14m0, k14m1, k14m2, k14m3]
  instanceTypes := #[]
  staticTypes := #[.int, .int, .boolean]
  resolved := Array.replicate 1029 none
  statics := none }

def pool15 : Array CpInfo := pool [(1, .class_ 2), (0, u "java/lang/Math"), (1, .class_ 6), (1, u "java/lang/Object"), (0, u "<init>"), (0, u "()V"), (89, .class_ 100), (1, u "java/lang/Math$RandomNumberGeneratorHolder"), (71, u "negativeZeroFloatBits"), (0, u "J"), (2, u "negativeZeroDoubleBits"), (24, u "min"), (43, u "$assertionsDisabled"), (0, u "Z"), (88, u "(II)I"), (2, u "twoToTheDoubleScaleDown"), (0, u "D"), (4, u "twoToTheDoubleScaleUp"), (9, u "E"), (3, u "PI"), (2, u "TAU"), (2, u "DEGREES_TO_RADIANS"), (0, u "RADIANS_TO_DEGREES")] 94

def k15m0 : Method := { name := "<init>", desc := "()V", sig := { parameters := [], returnType := none }, accessFlags := 2, code := none }
def k15c1 : Code := { maxStack := 2, maxLocals := 2, code := jdk_29_method_69_code, exceptionTable := #[], attributes := #[] }
def k15m1 : Method := { name := "min", desc := "(II)I", sig := { parameters := [.int, .int], returnType := some .int }, accessFlags := 9, code := some k15c1 }
/-- java/lang/Math -/
def k15 : Class := { plain "java/lang/Math" (some 0) with
  accessFlags := 49
  interfaces := #[]
  cf := some (fileOf pool15 1 #[.nestMembers #[98]] #[{ accessFlags := 2, nameIndex := 7, descriptorIndex := 8, attributes := #[] }, { accessFlags := 9, nameIndex := 201, descriptorIndex := 335, attributes := #[] }] 49 4 #[] #[{ accessFlags := 25, nameIndex := 354, descriptorIndex := 339, attributes := #[] }, { accessFlags := 25, nameIndex := 358, descriptorIndex := 339, attributes := #[] }, { accessFlags := 25, nameIndex := 361, descriptorIndex := 339, attributes := #[] }, { accessFlags := 26, nameIndex := 364, descriptorIndex := 339, attributes := #[] }, { accessFlags := 26, nameIndex := 365, descriptorIndex := 339, attributes := #[] }, { accessFlags := 26, nameIndex := 172, descriptorIndex := 173, attributes := #[] }, { accessFlags := 26, nameIndex := 176, descriptorIndex := 173, attributes := #[] }, { accessFlags := 8, nameIndex := 344, descriptorIndex := 339, attributes := #[] }, { accessFlags := 8, nameIndex := 338, descriptorIndex := 339, attributes := #[] }, { accessFlags := 4120, nameIndex := 245, descriptorIndex := 246, attributes := #[] }])
  fields := #[{ name := "E", type := .double, accessFlags := 25, slot := 0, constantValue := 0 }, { name := "PI", type := .double, accessFlags := 25, slot := 1, constantValue := 0 }, { name := "TAU", type := .double, accessFlags := 25, slot := 2, constantValue := 0 }, { name := "DEGREES_TO_RADIANS", type := .double, accessFlags := 26, slot := 3, constantValue := 0 }, { name := "RADIANS_TO_DEGREES", type := .double, accessFlags := 26, slot := 4, constantValue := 0 }, { name := "negativeZeroFloatBits", type := .long, accessFlags := 26, slot := 5, constantValue := 0 }, { name := "negativeZeroDoubleBits", type := .long, accessFlags := 26, slot := 6, constantValue := 0 }, { name := "twoToTheDoubleScaleUp", type := .double, accessFlags := 8, slot := 7, constantValue := 0 }, { name := "twoToTheDoubleScaleDown", type := .double, accessFlags := 8, slot := 8, constantValue := 0 }, { name := "$assertionsDisabled", type := .boolean, accessFlags := 4120, slot := 9, constantValue := 0 }]
  methods := #[k15m0, k15m1]
  instanceTypes := #[]
  staticTypes := #[.double, .double, .double, .double, .double, .long, .long, .double, .double, .boolean]
  resolved := Array.replicate 460 none
  statics := none }

def pool16 : Array CpInfo := pool [(1, .class_ 2), (0, u "java/lang/String"), (1, .class_ 6), (1, u "java/lang/Object"), (0, u "<init>"), (0, u "()V"), (0, .methodref 1 10), (0, .nameAndType 11 12), (0, u "checkIndex"), (0, u "(II)V"), (1, .class_ 16), (1, u "java/lang/StringLatin1"), (36, u "([BI)C"), (36, u "canEncode"), (14, u "(C)Z"), (15, u "$assertionsDisabled"), (0, u "Z"), (98, .class_ 223), (1, u "java/lang/StringLatin1$LinesSpliterator"), (28, u "charAt"), (127, u "toBytes"), (1, u "(C)[B"), (7, .class_ 391), (0, u "java/lang/StringLatin1$CharsSpliterator")] 3

def k16m0 : Method := { name := "<init>", desc := "()V", sig := { parameters := [], returnType := none }, accessFlags := 0, code := none }
def k16c1 : Code := { maxStack := 2, maxLocals := 2, code := jdk_43_method_2_code, exceptionTable := #[], attributes := #[] }
def k16m1 : Method := { name := "charAt", desc := "([BI)C", sig := { parameters := [(.array .byte), .int], returnType := some .char }, accessFlags := 9, code := some k16c1 }
def k16c2 : Code := { maxStack := 2, maxLocals := 1, code := jdk_43_method_3_code, exceptionTable := #[], attributes := #[] }
def k16m2 : Method := { name := "canEncode", desc := "(C)Z", sig := { parameters := [.char], returnType := some .boolean }, accessFlags := 9, code := some k16c2 }
def k16c3 : Code := { maxStack := 4, maxLocals := 1, code := jdk_43_method_46_code, exceptionTable := #[], attributes := #[] }
def k16m3 : Method := { name := "toBytes", desc := "(C)[B", sig := { parameters := [.char], returnType := some (.array .byte) }, accessFlags := 9, code := some k16c3 }
/-- java/lang/StringLatin1 -/
def k16 : Class := { plain "java/lang/StringLatin1" (some 0) with
  accessFlags := 48
  interfaces := #[]
  cf := some (fileOf pool16 14 #[.nestMembers #[390, 221]] #[{ accessFlags := 0, nameIndex := 7, descriptorIndex := 8, attributes := #[] }, { accessFlags := 9, nameIndex := 252, descriptorIndex := 53, attributes := #[] }, { accessFlags := 9, nameIndex := 90, descriptorIndex := 105, attributes := #[] }, { accessFlags := 9, nameIndex := 380, descriptorIndex := 382, attributes := #[] }] 48 4 #[] #[{ accessFlags := 4120, nameIndex := 121, descriptorIndex := 122, attributes := #[] }])
  fields := #[{ name := "$assertionsDisabled", type := .boolean, accessFlags := 4120, slot := 0, constantValue := 0 }]
  methods := #[k16m0, k16m1, k16m2, k16m3]
  instanceTypes := #[]
  staticTypes := #[.boolean]
  resolved := Array.replicate 395 none
  statics := none }

def pool17 : Array CpInfo := pool [(2, .class_ 4), (1, u "java/lang/Object"), (0, u "<init>"), (0, u "()V"), (17, .class_ 26), (1, u "jdk/internal/util/Preconditions"), (6, u "checkIndex"), (21, .class_ 56), (0, u "jdk/internal/util/Preconditions$4"), (57, .class_ 115), (0, u "jdk/internal/util/Preconditions$1"), (7, u "SIOOBE_FORMATTER"), (0, u "Ljava/util/function/BiFunction;"), (0, .class_ 126), (0, u "jdk/internal/util/Preconditions$2"), (3, u "AIOOBE_FORMATTER"), (0, .class_ 132), (0, u "jdk/internal/util/Preconditions$3"), (3, u "IOOBE_FORMATTER"), (41, u "(IILjava/util/function/BiFunction;)I")] 15

def k17m0 : Method := { name := "<init>", desc := "()V", sig := { parameters := [], returnType := none }, accessFlags := 1, code := none }
def k17c1 : Code := { maxStack := 3, maxLocals := 3, code := jdk_41_method_11_code, exceptionTable := #[], attributes := #[] }
def k17m1 : Method := { name := "checkIndex", desc := "(IILjava/util/function/BiFunction;)I", sig := { parameters := [.int, .int, (.object "java/util/function/BiFunction")], returnType := some .int }, accessFlags := 9, code := some k17c1 }
/-- jdk/internal/util/Preconditions -/
def k17 : Class := { plain "jdk/internal/util/Preconditions" (some 0) with
  accessFlags := 33
  interfaces := #[]
  cf := some (fileOf pool17 24 #[.nestMembers #[55, 131, 125, 114]] #[{ accessFlags := 1, nameIndex := 5, descriptorIndex := 6, attributes := #[] }, { accessFlags := 9, nameIndex := 33, descriptorIndex := 178, attributes := #[] }] 33 2 #[] #[{ accessFlags := 25, nameIndex := 123, descriptorIndex := 124, attributes := #[] }, { accessFlags := 25, nameIndex := 130, descriptorIndex := 124, attributes := #[] }, { accessFlags := 25, nameIndex := 136, descriptorIndex := 124, attributes := #[] }])
  fields := #[{ name := "SIOOBE_FORMATTER", type := (.object "java/util/function/BiFunction"), accessFlags := 25, slot := 0, constantValue := 0 }, { name := "AIOOBE_FORMATTER", type := (.object "java/util/function/BiFunction"), accessFlags := 25, slot := 1, constantValue := 0 }, { name := "IOOBE_FORMATTER", type := (.object "java/util/function/BiFunction"), accessFlags := 25, slot := 2, constantValue := 0 }]
  methods := #[k17m0, k17m1]
  instanceTypes := #[]
  staticTypes := #[(.object "java/util/function/BiFunction"), (.object "java/util/function/BiFunction"), (.object "java/util/function/BiFunction")]
  resolved := Array.replicate 194 none
  statics := some 1 }

def pool18 : Array CpInfo := pool [(6, .class_ 8), (1, u "java/lang/Object"), (0, u "<init>"), (0, u "()V"), (1, .class_ 14), (1, u "java/lang/StringUTF16"), (31, u "$assertionsDisabled"), (0, u "Z"), (13, u "HI_BYTE_SHIFT"), (0, u "I"), (2, u "LO_BYTE_SHIFT"), (49, .methodref 12 116), (0, .nameAndType 117 118), (0, u "compress"), (0, u "([CI[BII)I"), (3, u "([CII)[B"), (138, u "coderFromArrayLen"), (0, u "([BI)B"), (106, .class_ 371), (1, u "java/lang/StringUTF16$LinesSpliterator"), (58, u "MAX_LENGTH"), (196, .class_ 628), (0, u "java/lang/StringUTF16$CodePointsSpliterator"), (0, .class_ 630), (0, u "java/lang/StringUTF16$CharsSpliterator")] 4

def k18m0 : Method := { name := "<init>", desc := "()V", sig := { parameters := [], returnType := none }, accessFlags := 0, code := none }
def k18c1 : Code := { maxStack := 2, maxLocals := 2, code := jdk_52_method_15_code, exceptionTable := #[], attributes := #[] }
def k18m1 : Method := { name := "coderFromArrayLen", desc := "([BI)B", sig := { parameters := [(.array .byte), .int], returnType := some .byte }, accessFlags := 8, code := some k18c1 }
def k18c2 : Code := { maxStack := 5, maxLocals := 6, code := jdk_52_method_16_code, exceptionTable := #[], attributes := #[] }
def k18m2 : Method := { name := "compress", desc := "([CII)[B", sig := { parameters := [(.array .char), .int, .int], returnType := some (.array .byte) }, accessFlags := 9, code := some k18c2 }
def k18c3 : Code := { maxStack := 3, maxLocals := 7, code := jdk_52_method_21_code, exceptionTable := #[], attributes := #[] }
def k18m3 : Method := { name := "compress", desc := "([CI[BII)I", sig := { parameters := [(.array .char), .int, (.array .byte), .int, .int], returnType := some .int }, accessFlags := 9, code := some k18c3 }
/-- java/lang/StringUTF16 -/
def k18 : Class := { plain "java/lang/StringUTF16" (some 0) with
  accessFlags := 48
  interfaces := #[]
  cf := some (fileOf pool18 12 #[.nestMembers #[627, 629, 369]] #[{ accessFlags := 0, nameIndex := 9, descriptorIndex := 10, attributes := #[] }, { accessFlags := 8, nameIndex := 261, descriptorIndex := 262, attributes := #[] }, { accessFlags := 9, nameIndex := 117, descriptorIndex := 122, attributes := #[] }, { accessFlags := 9, nameIndex := 117, descriptorIndex := 118, attributes := #[] }] 48 6 #[] #[{ accessFlags := 26, nameIndex := 61, descriptorIndex := 62, attributes := #[] }, { accessFlags := 26, nameIndex := 65, descriptorIndex := 62, attributes := #[] }, { accessFlags := 24, nameIndex := 430, descriptorIndex := 62, attributes := #[] }, { accessFlags := 4120, nameIndex := 46, descriptorIndex := 47, attributes := #[] }])
  fields := #[{ name := "HI_BYTE_SHIFT", type := .int, accessFlags := 26, slot := 0, constantValue := 0 }, { name := "LO_BYTE_SHIFT", type := .int, accessFlags := 26, slot := 1, constantValue := 0 }, { name := "MAX_LENGTH", type := .int, accessFlags := 24, slot := 2, constantValue := 0 }, { name := "$assertionsDisabled", type := .boolean, accessFlags := 4120, slot := 3, constantValue := 0 }]
  methods := #[k18m0, k18m1, k18m2, k18m3]
  instanceTypes := #[]
  staticTypes := #[.int, .int, .int, .boolean]
  resolved := Array.replicate 635 none
  statics := none }

def pool19 : Array CpInfo := pool [(9, u "<init>"), (6, .class_ 18), (1, u "java/lang/Object"), (0, u "()V"), (1, .class_ 23), (1, u "jdk/internal/util/ArraysSupport"), (0, u "LOG2_ARRAY_LONG_INDEX_SCALE"), (0, u "I"), (2, u "U"), (0, u "Ljdk/internal/misc/Unsafe;"), (8, u "BIG_ENDIAN"), (0, u "Z"), (8, u "LOG2_BYTE_BIT_SIZE"), (4, u "LOG2_ARRAY_INT_INDEX_SCALE"), (54, u "JLA"), (0, u "Ljdk/internal/access/JavaLangAccess;"), (11, u "LOG2_ARRAY_BOOLEAN_INDEX_SCALE"), (9, u "LOG2_ARRAY_BYTE_INDEX_SCALE"), (5, u "LOG2_ARRAY_CHAR_INDEX_SCALE"), (5, u "LOG2_ARRAY_SHORT_INDEX_SCALE"), (18, u "LOG2_ARRAY_FLOAT_INDEX_SCALE"), (24, u "LOG2_ARRAY_DOUBLE_INDEX_SCALE"), (89, u "T_BOOLEAN"), (2, u "T_CHAR"), (1, u "T_FLOAT"), (1, u "T_DOUBLE"), (1, u "T_BYTE"), (1, u "T_SHORT"), (1, u "T_INT"), (1, u "T_LONG"), (1, u "SOFT_MAX_ARRAY_LENGTH")] 83

def k19m0 : Method := { name := "<init>", desc := "()V", sig := { parameters := [], returnType := none }, accessFlags := 2, code := none }
/-- jdk/internal/util/ArraysSupport -/
def k19 : Class := { plain "jdk/internal/util/ArraysSupport" (some 0) with
  accessFlags := 33
  interfaces := #[]
  cf := some (fileOf pool19 21 #[] #[{ accessFlags := 2, nameIndex := 9, descriptorIndex := 19, attributes := #[] }] 33 16 #[] #[{ accessFlags := 24, nameIndex := 28, descriptorIndex := 29, attributes := #[] }, { accessFlags := 26, nameIndex := 38, descriptorIndex := 39, attributes := #[] }, { accessFlags := 25, nameIndex := 121, descriptorIndex := 25, attributes := #[] }, { accessFlags := 25, nameIndex := 131, descriptorIndex := 25, attributes := #[] }, { accessFlags := 25, nameIndex := 137, descriptorIndex := 25, attributes := #[] }, { accessFlags := 25, nameIndex := 143, descriptorIndex := 25, attributes := #[] }, { accessFlags := 25, nameIndex := 53, descriptorIndex := 25, attributes := #[] }, { accessFlags := 25, nameIndex := 24, descriptorIndex := 25, attributes := #[] }, { accessFlags := 25, nameIndex := 162, descriptorIndex := 25, attributes := #[] }, { accessFlags := 25, nameIndex := 187, descriptorIndex := 25, attributes := #[] }, { accessFlags := 26, nameIndex := 48, descriptorIndex := 25, attributes := #[] }, { accessFlags := 25, nameIndex := 277, descriptorIndex := 25, attributes := #[] }, { accessFlags := 25, nameIndex := 280, descriptorIndex := 25, attributes := #[] }, { accessFlags := 25, nameIndex := 282, descriptorIndex := 25, attributes := #[] }, { accessFlags := 25, nameIndex := 284, descriptorIndex := 25, attributes := #[] }, { accessFlags := 25, nameIndex := 286, descriptorIndex := 25, attributes := #[] }, { accessFlags := 25, nameIndex := 288, descriptorIndex := 25, attributes := #[] }, { accessFlags := 25, nameIndex := 290, descriptorIndex := 25, attributes := #[] }, { accessFlags := 25, nameIndex := 292, descriptorIndex := 25, attributes := #[] }, { accessFlags := 26, nameIndex := 108, descriptorIndex := 109, attributes := #[] }, { accessFlags := 25, nameIndex := 294, descriptorIndex := 25, attributes := #[] }])
  fields := #[{ name := "U", type := (.object "jdk/internal/misc/Unsafe"), accessFlags := 24, slot := 0, constantValue := 0 }, { name := "BIG_ENDIAN", type := .boolean, accessFlags := 26, slot := 1, constantValue := 0 }, { name := "LOG2_ARRAY_BOOLEAN_INDEX_SCALE", type := .int, accessFlags := 25, slot := 2, constantValue := 0 }, { name := "LOG2_ARRAY_BYTE_INDEX_SCALE", type := .int, accessFlags := 25, slot := 3, constantValue := 0 }, { name := "LOG2_ARRAY_CHAR_INDEX_SCALE", type := .int, accessFlags := 25, slot := 4, constantValue := 0 }, { name := "LOG2_ARRAY_SHORT_INDEX_SCALE", type := .int, accessFlags := 25, slot := 5, constantValue := 0 }, { name := "LOG2_ARRAY_INT_INDEX_SCALE", type := .int, accessFlags := 25, slot := 6, constantValue := 0 }, { name := "LOG2_ARRAY_LONG_INDEX_SCALE", type := .int, accessFlags := 25, slot := 7, constantValue := 0 }, { name := "LOG2_ARRAY_FLOAT_INDEX_SCALE", type := .int, accessFlags := 25, slot := 8, constantValue := 0 }, { name := "LOG2_ARRAY_DOUBLE_INDEX_SCALE", type := .int, accessFlags := 25, slot := 9, constantValue := 0 }, { name := "LOG2_BYTE_BIT_SIZE", type := .int, accessFlags := 26, slot := 10, constantValue := 0 }, { name := "T_BOOLEAN", type := .int, accessFlags := 25, slot := 11, constantValue := 0 }, { name := "T_CHAR", type := .int, accessFlags := 25, slot := 12, constantValue := 0 }, { name := "T_FLOAT", type := .int, accessFlags := 25, slot := 13, constantValue := 0 }, { name := "T_DOUBLE", type := .int, accessFlags := 25, slot := 14, constantValue := 0 }, { name := "T_BYTE", type := .int, accessFlags := 25, slot := 15, constantValue := 0 }, { name := "T_SHORT", type := .int, accessFlags := 25, slot := 16, constantValue := 0 }, { name := "T_INT", type := .int, accessFlags := 25, slot := 17, constantValue := 0 }, { name := "T_LONG", type := .int, accessFlags := 25, slot := 18, constantValue := 0 }, { name := "JLA", type := (.object "jdk/internal/access/JavaLangAccess"), accessFlags := 26, slot := 19, constantValue := 0 }, { name := "SOFT_MAX_ARRAY_LENGTH", type := .int, accessFlags := 25, slot := 20, constantValue := 0 }]
  methods := #[k19m0]
  instanceTypes := #[]
  staticTypes := #[(.object "jdk/internal/misc/Unsafe"), .boolean, .int, .int, .int, .int, .int, .int, .int, .int, .int, .int, .int, .int, .int, .int, .int, .int, .int, (.object "jdk/internal/access/JavaLangAccess"), .int]
  resolved := Array.replicate 378 none
  statics := none }

def pool20 : Array CpInfo := pool [(1, u "java/lang/Cloneable"), (0, .class_ 1), (0, u "java/lang/Object"), (0, .class_ 3)] 3

/-- java/lang/Cloneable -/
def k20 : Class := { plain "java/lang/Cloneable" (some 0) with
  accessFlags := 1537
  interfaces := #[]
  cf := some (fileOf pool20 2 #[] #[] 1537 4 #[] #[])
  fields := #[]
  methods := #[]
  instanceTypes := #[]
  staticTypes := #[]
  resolved := Array.replicate 8 none
  statics := none }

/-- the primitive byte -/
def k21 : Class := { plain "byte" none with kind := .primitive 'B', accessFlags := 0x411 }
/-- [B -/
def k22 : Class := { plain "[B" (some 0) with kind := .array 21 .byte, interfaces := #[20, 2], accessFlags := 1041 }

/-- the primitive char -/
def k23 : Class := { plain "char" none with kind := .primitive 'C', accessFlags := 0x411 }
/-- [C -/
def k24 : Class := { plain "[C" (some 0) with kind := .array 23 .char, interfaces := #[20, 2], accessFlags := 1041 }

/-- the primitive int -/
def k25 : Class := { plain "int" none with kind := .primitive 'I', accessFlags := 0x411 }
/-- [I -/
def k26 : Class := { plain "[I" (some 0) with kind := .array 25 .int, interfaces := #[20, 2], accessFlags := 1041 }

def heap : Heap := #[{ cls := 7, slots := #[.long 0, .int 1, .null, .int 0, .null, .int 0, .int 0], vm := .statics 7 },
  { cls := 17, slots := #[.null, .null, .null], vm := .statics 17 }]
def classes : Array Class := #[k0, k1, k2, k3, k4, k5, k6, k7, k8, k9, k10, k11, k12, k13, k14, k15, k16, k17, k18, k19, k20, k21, k22, k23, k24, k25, k26]
def interned : List (Array UInt16 × Addr) := []
def slotsUsed : Nat := 10
def theMethod : MethodId := ⟨1, 3⟩
def args0 : Array Value := #[.int 5, .int 7, .int 3]
def aboutOver (below : List Frame) : State where
  vm := { classes := classes, interned := interned.toArray }
  heap := heap
  slotsUsed := slotsUsed
  threads := #[{ frames := .invoking theMethod args0 :: below }]
def below0 : List Frame := [.native { method := ⟨0, 0⟩, args := #[] }]
def about1 : State := aboutOver below0
def p0 : Program := .bare "" "" ""
def e0 : Env := launch0.env 0 0 0
theorem w_frames : about1.frames = Frame.invoking theMethod args0 :: below0 := rfl
set_option maxRecDepth 65536 in
theorem w_args : argsFit about1.vm theMethod args0 = true := by decide +kernel
set_option maxRecDepth 65536 in
theorem w_heap : heapFits about1 = true := by decide +kernel
set_option maxRecDepth 65536 in
theorem w_runnable : about1.curStatus? = some .runnable := by decide +kernel
set_option maxRecDepth 65536 in
theorem w_alone : about1.alone = true := by decide +kernel
set_option maxRecDepth 65536 in
theorem w_named : about1.methodNamed? x = some theMethod := by decide +kernel
set_option maxRecDepth 65536 in
theorem w_hears : about1.hears theMethod below0 = true := by decide +kernel
set_option maxRecDepth 65536 in
theorem w_ripe : about1.ripe theMethod args0 below0 = true := by decide +kernel
theorem w_running : about1.status = .running := rfl
set_option maxRecDepth 65536 in
theorem w_room : about1.hasRoom e0.platform room_1 = true :=
  launch0.hasRoom_least _ room_1 (by decide +kernel) (by decide +kernel) (by decide +kernel) (by decide +kernel) (by decide +kernel) (by decide +kernel)
theorem allAtoms_all (ts : List Jvm.Cond) (a : Array Jvm.Value) (st : Jvm.State) : (allAtoms ts).before a st = ts.all (fun c => c.before a st) := by
  induction ts with
  | nil => rfl
  | cons c t ih =>
    show (Jvm.Cond.and c (allAtoms t)).before a st = _
    rw [Jvm.Cond.before_and, ih, List.all_cons]
def words1 : List Jvm.Cond := Jvm.Cond.code x code maxLocals ret :: tables_1
/-- a 'code' word, met by the world's own term for the bytes: nothing is compared byte by byte -/
theorem code_word {y : MethodName} {bytes : ByteArray} {mx : Nat} {rt : Option FieldType} {a : Array Value} {s : State} {m : MethodId} {meth : Method} {c : Code} (h1 : s.methodNamed? y = some m) (h2 : s.vm.method? m = some meth) (h3 : meth.code = some c) (h4 : c.code = bytes)
    (h5 : (c.maxLocals == mx && c.exceptionTable.isEmpty && decide (c.maxStack ≤ mostOperands) && decide (meth.sig.returnType = rt) && !meth.locks && decide (parseMethodDescriptor y.desc = some meth.sig)) = true) : (Jvm.Cond.code y bytes mx rt).before a s = true := by
  simp only [Bool.and_eq_true, beq_iff_eq, Bool.not_eq_true', decide_eq_true_eq] at h5
  obtain ⟨⟨⟨⟨⟨g1, g2⟩, g3⟩, g4⟩, g5⟩, g6⟩ := h5
  simp [Cond.before, Cond.holds, Cond.value, h1, h2, h3, h4, g1, g2, g3, g4, g5, g6]
def isCode : Jvm.Cond → Bool
  | .code _ _ _ _ => true
  | _ => false
theorem all_split {L : List Jvm.Cond} {P : Jvm.Cond → Bool} (h1 : L.all (fun c => isCode c || P c) = true) (h2 : ∀ c ∈ L.filter isCode, P c = true) : L.all P = true := by
  refine List.all_eq_true.mpr fun c hc => ?_
  have h := List.all_eq_true.mp h1 c hc
  rcases Bool.eq_false_or_eq_true (isCode c) with hi | hi
  · exact h2 c (List.mem_filter.mpr ⟨hc, hi⟩)
  · simpa [hi] using h
set_option maxRecDepth 65536 in
theorem w_c0 : (Jvm.Cond.code x code maxLocals ret).before args0 about1 = true := code_word (m := ⟨1, 3⟩) (meth := k1m3) (c := k1c3) (by decide +kernel) rfl rfl rfl (by decide +kernel)
set_option maxRecDepth 65536 in
theorem w_c1 : (Jvm.Cond.code ({ cls := "com/example/fenced_rbac/fencedrbac/cli/OptionUsagePinLaw", name := "make", desc := "(ICC)Ljava/lang/String;" } : Jvm.MethodName) method_2_code (3 : Nat) (Option.some (Jvm.ClassFile.FieldType.object "java/lang/String"))).before args0 about1 = true := code_word (m := ⟨1, 1⟩) (meth := k1m1) (c := k1c1) (by decide +kernel) rfl rfl rfl (by decide +kernel)
set_option maxRecDepth 65536 in
theorem w_c2 : (Jvm.Cond.code ({ cls := "java/lang/String", name := "<init>", desc := "([C)V" } : Jvm.MethodName) jdk_42_method_3_code (2 : Nat) (Option.none : Option Jvm.ClassFile.FieldType)).before args0 about1 = true := code_word (m := ⟨7, 1⟩) (meth := k7m1) (c := k7c1) (by decide +kernel) rfl rfl rfl (by decide +kernel)
set_option maxRecDepth 65536 in
theorem w_c3 : (Jvm.Cond.code ({ cls := "java/lang/String", name := "<init>", desc := "([CIILjava/lang/Void;)V" } : Jvm.MethodName) jdk_42_method_149_code (6 : Nat) (Option.none : Option Jvm.ClassFile.FieldType)).before args0 about1 = true := code_word (m := ⟨7, 7⟩) (meth := k7m7) (c := k7c7) (by decide +kernel) rfl rfl rfl (by decide +kernel)
set_option maxRecDepth 65536 in
theorem w_c4 : (Jvm.Cond.code ({ cls := "java/lang/Object", name := "<init>", desc := "()V" } : Jvm.MethodName) object_method_1_code (1 : Nat) (Option.none : Option Jvm.ClassFile.FieldType)).before args0 about1 = true := code_word (m := ⟨0, 0⟩) (meth := k0m0) (c := k0c0) (by decide +kernel) rfl rfl rfl (by decide +kernel)
set_option maxRecDepth 65536 in
theorem w_c5 : (Jvm.Cond.code ({ cls := "com/example/fenced_rbac/fencedrbac/cli/Options$Option", name := "<init>", desc := "(Ljava/lang/String;Ljava/lang/String;Z)V" } : Jvm.MethodName) prog_3_method_1_code (4 : Nat) (Option.none : Option Jvm.ClassFile.FieldType)).before args0 about1 = true := code_word (m := ⟨9, 0⟩) (meth := k9m0) (c := k9c0) (by decide +kernel) rfl rfl rfl (by decide +kernel)
set_option maxRecDepth 65536 in
theorem w_c6 : (Jvm.Cond.code ({ cls := "java/lang/Record", name := "<init>", desc := "()V" } : Jvm.MethodName) jdk_30_method_1_code (1 : Nat) (Option.none : Option Jvm.ClassFile.FieldType)).before args0 about1 = true := code_word (m := ⟨8, 0⟩) (meth := k8m0) (c := k8c0) (by decide +kernel) rfl rfl rfl (by decide +kernel)
set_option maxRecDepth 65536 in
theorem w_c7 : (Jvm.Cond.code ({ cls := "com/example/fenced_rbac/fencedrbac/cli/Options$Option", name := "usage", desc := "()Ljava/lang/String;" } : Jvm.MethodName) prog_3_method_4_code (2 : Nat) (Option.some (Jvm.ClassFile.FieldType.object "java/lang/String"))).before args0 about1 = true := code_word (m := ⟨9, 1⟩) (meth := k9m1) (c := k9c1) (by decide +kernel) rfl rfl rfl (by decide +kernel)
set_option maxRecDepth 65536 in
theorem w_c8 : (Jvm.Cond.code ({ cls := "java/lang/StringBuilder", name := "<init>", desc := "()V" } : Jvm.MethodName) jdk_67_method_1_code (1 : Nat) (Option.none : Option Jvm.ClassFile.FieldType)).before args0 about1 = true := code_word (m := ⟨12, 0⟩) (meth := k12m0) (c := k12c0) (by decide +kernel) rfl rfl rfl (by decide +kernel)
set_option maxRecDepth 65536 in
theorem w_c9 : (Jvm.Cond.code ({ cls := "java/lang/AbstractStringBuilder", name := "<init>", desc := "(I)V" } : Jvm.MethodName) jdk_68_method_2_code (2 : Nat) (Option.none : Option Jvm.ClassFile.FieldType)).before args0 about1 = true := code_word (m := ⟨11, 1⟩) (meth := k11m1) (c := k11c1) (by decide +kernel) rfl rfl rfl (by decide +kernel)
set_option maxRecDepth 65536 in
theorem w_c10 : (Jvm.Cond.code ({ cls := "java/lang/StringBuilder", name := "append", desc := "(Ljava/lang/String;)Ljava/lang/StringBuilder;" } : Jvm.MethodName) jdk_67_method_7_code (2 : Nat) (Option.some (Jvm.ClassFile.FieldType.object "java/lang/StringBuilder"))).before args0 about1 = true := code_word (m := ⟨12, 1⟩) (meth := k12m1) (c := k12c1) (by decide +kernel) rfl rfl rfl (by decide +kernel)
set_option maxRecDepth 65536 in
theorem w_c11 : (Jvm.Cond.code ({ cls := "java/lang/AbstractStringBuilder", name := "append", desc := "(Ljava/lang/String;)Ljava/lang/AbstractStringBuilder;" } : Jvm.MethodName) jdk_68_method_22_code (3 : Nat) (Option.some (Jvm.ClassFile.FieldType.object "java/lang/AbstractStringBuilder"))).before args0 about1 = true := code_word (m := ⟨11, 4⟩) (meth := k11m4) (c := k11c4) (by decide +kernel) rfl rfl rfl (by decide +kernel)
set_option maxRecDepth 65536 in
theorem w_c12 : (Jvm.Cond.code ({ cls := "java/lang/String", name := "length", desc := "()I" } : Jvm.MethodName) jdk_42_method_54_code (1 : Nat) (Option.some Jvm.ClassFile.FieldType.int)).before args0 about1 = true := code_word (m := ⟨7, 3⟩) (meth := k7m3) (c := k7c3) (by decide +kernel) rfl rfl rfl (by decide +kernel)
set_option maxRecDepth 65536 in
theorem w_c13 : (Jvm.Cond.code ({ cls := "java/lang/String", name := "coder", desc := "()B" } : Jvm.MethodName) jdk_42_method_152_code (1 : Nat) (Option.some Jvm.ClassFile.FieldType.byte)).before args0 about1 = true := code_word (m := ⟨7, 10⟩) (meth := k7m10) (c := k7c10) (by decide +kernel) rfl rfl rfl (by decide +kernel)
set_option maxRecDepth 65536 in
theorem w_c14 : (Jvm.Cond.code ({ cls := "java/lang/AbstractStringBuilder", name := "ensureCapacityInternal", desc := "(I)V" } : Jvm.MethodName) jdk_68_method_9_code (3 : Nat) (Option.none : Option Jvm.ClassFile.FieldType)).before args0 about1 = true := code_word (m := ⟨11, 3⟩) (meth := k11m3) (c := k11c3) (by decide +kernel) rfl rfl rfl (by decide +kernel)
set_option maxRecDepth 65536 in
theorem w_c15 : (Jvm.Cond.code ({ cls := "java/lang/AbstractStringBuilder", name := "putStringAt", desc := "(ILjava/lang/String;)V" } : Jvm.MethodName) jdk_68_method_73_code (3 : Nat) (Option.none : Option Jvm.ClassFile.FieldType)).before args0 about1 = true := code_word (m := ⟨11, 8⟩) (meth := k11m8) (c := k11c8) (by decide +kernel) rfl rfl rfl (by decide +kernel)
set_option maxRecDepth 65536 in
theorem w_c16 : (Jvm.Cond.code ({ cls := "java/lang/AbstractStringBuilder", name := "inflateIfNeededFor", desc := "(Ljava/lang/String;)V" } : Jvm.MethodName) jdk_68_method_71_code (2 : Nat) (Option.none : Option Jvm.ClassFile.FieldType)).before args0 about1 = true := code_word (m := ⟨11, 7⟩) (meth := k11m7) (c := k11c7) (by decide +kernel) rfl rfl rfl (by decide +kernel)
set_option maxRecDepth 65536 in
theorem w_c17 : (Jvm.Cond.code ({ cls := "java/lang/String", name := "getBytes", desc := "([BIB)V" } : Jvm.MethodName) jdk_42_method_147_code (4 : Nat) (Option.none : Option Jvm.ClassFile.FieldType)).before args0 about1 = true := code_word (m := ⟨7, 6⟩) (meth := k7m6) (c := k7c6) (by decide +kernel) rfl rfl rfl (by decide +kernel)
set_option maxRecDepth 65536 in
theorem w_c18 : (Jvm.Cond.code ({ cls := "java/lang/StringBuilder", name := "toString", desc := "()Ljava/lang/String;" } : Jvm.MethodName) jdk_67_method_42_code (1 : Nat) (Option.some (Jvm.ClassFile.FieldType.object "java/lang/String"))).before args0 about1 = true := code_word (m := ⟨12, 2⟩) (meth := k12m2) (c := k12c2) (by decide +kernel) rfl rfl rfl (by decide +kernel)
set_option maxRecDepth 65536 in
theorem w_c19 : (Jvm.Cond.code ({ cls := "java/lang/String", name := "<init>", desc := "(Ljava/lang/StringBuilder;)V" } : Jvm.MethodName) jdk_42_method_53_code (2 : Nat) (Option.none : Option Jvm.ClassFile.FieldType)).before args0 about1 = true := code_word (m := ⟨7, 2⟩) (meth := k7m2) (c := k7c2) (by decide +kernel) rfl rfl rfl (by decide +kernel)
set_option maxRecDepth 65536 in
theorem w_c20 : (Jvm.Cond.code ({ cls := "java/lang/String", name := "<init>", desc := "(Ljava/lang/AbstractStringBuilder;Ljava/lang/Void;)V" } : Jvm.MethodName) jdk_42_method_150_code (5 : Nat) (Option.none : Option Jvm.ClassFile.FieldType)).before args0 about1 = true := code_word (m := ⟨7, 8⟩) (meth := k7m8) (c := k7c8) (by decide +kernel) rfl rfl rfl (by decide +kernel)
set_option maxRecDepth 65536 in
theorem w_c21 : (Jvm.Cond.code ({ cls := "java/lang/AbstractStringBuilder", name := "getValue", desc := "()[B" } : Jvm.MethodName) jdk_68_method_64_code (1 : Nat) (Option.some (Jvm.ClassFile.FieldType.array Jvm.ClassFile.FieldType.byte))).before args0 about1 = true := code_word (m := ⟨11, 5⟩) (meth := k11m5) (c := k11c5) (by decide +kernel) rfl rfl rfl (by decide +kernel)
set_option maxRecDepth 65536 in
theorem w_c22 : (Jvm.Cond.code ({ cls := "java/lang/StringBuilder", name := "length", desc := "()I" } : Jvm.MethodName) jdk_67_method_93_code (1 : Nat) (Option.some Jvm.ClassFile.FieldType.int)).before args0 about1 = true := code_word (m := ⟨12, 3⟩) (meth := k12m3) (c := k12c3) (by decide +kernel) rfl rfl rfl (by decide +kernel)
set_option maxRecDepth 65536 in
theorem w_c23 : (Jvm.Cond.code ({ cls := "java/lang/AbstractStringBuilder", name := "length", desc := "()I" } : Jvm.MethodName) jdk_68_method_6_code (1 : Nat) (Option.some Jvm.ClassFile.FieldType.int)).before args0 about1 = true := code_word (m := ⟨11, 2⟩) (meth := k11m2) (c := k11c2) (by decide +kernel) rfl rfl rfl (by decide +kernel)
set_option maxRecDepth 65536 in
theorem w_c24 : (Jvm.Cond.code ({ cls := "java/lang/AbstractStringBuilder", name := "isLatin1", desc := "()Z" } : Jvm.MethodName) jdk_68_method_68_code (1 : Nat) (Option.some Jvm.ClassFile.FieldType.boolean)).before args0 about1 = true := code_word (m := ⟨11, 6⟩) (meth := k11m6) (c := k11c6) (by decide +kernel) rfl rfl rfl (by decide +kernel)
set_option maxRecDepth 65536 in
theorem w_c25 : (Jvm.Cond.code ({ cls := "java/util/Arrays", name := "copyOfRange", desc := "([BII)[B" } : Jvm.MethodName) jdk_65_method_132_code (3 : Nat) (Option.some (Jvm.ClassFile.FieldType.array Jvm.ClassFile.FieldType.byte))).before args0 about1 = true := code_word (m := ⟨14, 2⟩) (meth := k14m2) (c := k14c2) (by decide +kernel) rfl rfl rfl (by decide +kernel)
set_option maxRecDepth 65536 in
theorem w_c26 : (Jvm.Cond.code ({ cls := "java/util/Arrays", name := "copyOfRangeByte", desc := "([BII)[B" } : Jvm.MethodName) jdk_65_method_133_code (5 : Nat) (Option.some (Jvm.ClassFile.FieldType.array Jvm.ClassFile.FieldType.byte))).before args0 about1 = true := code_word (m := ⟨14, 3⟩) (meth := k14m3) (c := k14c3) (by decide +kernel) rfl rfl rfl (by decide +kernel)
set_option maxRecDepth 65536 in
theorem w_c27 : (Jvm.Cond.code ({ cls := "java/util/Arrays", name := "checkLength", desc := "(II)V" } : Jvm.MethodName) jdk_65_method_131_code (2 : Nat) (Option.none : Option Jvm.ClassFile.FieldType)).before args0 about1 = true := code_word (m := ⟨14, 1⟩) (meth := k14m1) (c := k14c1) (by decide +kernel) rfl rfl rfl (by decide +kernel)
set_option maxRecDepth 65536 in
theorem w_c28 : (Jvm.Cond.code ({ cls := "java/lang/Math", name := "min", desc := "(II)I" } : Jvm.MethodName) jdk_29_method_69_code (2 : Nat) (Option.some Jvm.ClassFile.FieldType.int)).before args0 about1 = true := code_word (m := ⟨15, 1⟩) (meth := k15m1) (c := k15c1) (by decide +kernel) rfl rfl rfl (by decide +kernel)
set_option maxRecDepth 65536 in
theorem w_c29 : (Jvm.Cond.code ({ cls := "com/example/fenced_rbac/fencedrbac/cli/OptionUsagePinLaw", name := "at", desc := "(Ljava/lang/String;IC)Z" } : Jvm.MethodName) method_3_code (3 : Nat) (Option.some Jvm.ClassFile.FieldType.boolean)).before args0 about1 = true := code_word (m := ⟨1, 2⟩) (meth := k1m2) (c := k1c2) (by decide +kernel) rfl rfl rfl (by decide +kernel)
set_option maxRecDepth 65536 in
theorem w_c30 : (Jvm.Cond.code ({ cls := "java/lang/String", name := "charAt", desc := "(I)C" } : Jvm.MethodName) jdk_42_method_56_code (2 : Nat) (Option.some Jvm.ClassFile.FieldType.char)).before args0 about1 = true := code_word (m := ⟨7, 4⟩) (meth := k7m4) (c := k7c4) (by decide +kernel) rfl rfl rfl (by decide +kernel)
set_option maxRecDepth 65536 in
theorem w_c31 : (Jvm.Cond.code ({ cls := "java/lang/String", name := "isLatin1", desc := "()Z" } : Jvm.MethodName) jdk_42_method_154_code (1 : Nat) (Option.some Jvm.ClassFile.FieldType.boolean)).before args0 about1 = true := code_word (m := ⟨7, 11⟩) (meth := k7m11) (c := k7c11) (by decide +kernel) rfl rfl rfl (by decide +kernel)
set_option maxRecDepth 65536 in
theorem w_c32 : (Jvm.Cond.code ({ cls := "java/lang/StringLatin1", name := "charAt", desc := "([BI)C" } : Jvm.MethodName) jdk_43_method_2_code (2 : Nat) (Option.some Jvm.ClassFile.FieldType.char)).before args0 about1 = true := code_word (m := ⟨16, 1⟩) (meth := k16m1) (c := k16c1) (by decide +kernel) rfl rfl rfl (by decide +kernel)
set_option maxRecDepth 65536 in
theorem w_c33 : (Jvm.Cond.code ({ cls := "java/lang/String", name := "checkIndex", desc := "(II)V" } : Jvm.MethodName) jdk_42_method_155_code (2 : Nat) (Option.none : Option Jvm.ClassFile.FieldType)).before args0 about1 = true := code_word (m := ⟨7, 12⟩) (meth := k7m12) (c := k7c12) (by decide +kernel) rfl rfl rfl (by decide +kernel)
set_option maxRecDepth 65536 in
theorem w_c34 : (Jvm.Cond.code ({ cls := "jdk/internal/util/Preconditions", name := "checkIndex", desc := "(IILjava/util/function/BiFunction;)I" } : Jvm.MethodName) jdk_41_method_11_code (3 : Nat) (Option.some Jvm.ClassFile.FieldType.int)).before args0 about1 = true := code_word (m := ⟨17, 1⟩) (meth := k17m1) (c := k17c1) (by decide +kernel) rfl rfl rfl (by decide +kernel)
set_option maxRecDepth 65536 in
theorem w_c35 : (Jvm.Cond.code ({ cls := "java/lang/StringUTF16", name := "compress", desc := "([CII)[B" } : Jvm.MethodName) jdk_52_method_16_code (6 : Nat) (Option.some (Jvm.ClassFile.FieldType.array Jvm.ClassFile.FieldType.byte))).before args0 about1 = true := code_word (m := ⟨18, 2⟩) (meth := k18m2) (c := k18c2) (by decide +kernel) rfl rfl rfl (by decide +kernel)
set_option maxRecDepth 65536 in
theorem w_c36 : (Jvm.Cond.code ({ cls := "java/lang/StringUTF16", name := "compress", desc := "([CI[BII)I" } : Jvm.MethodName) jdk_52_method_21_code (7 : Nat) (Option.some Jvm.ClassFile.FieldType.int)).before args0 about1 = true := code_word (m := ⟨18, 3⟩) (meth := k18m3) (c := k18c3) (by decide +kernel) rfl rfl rfl (by decide +kernel)
set_option maxRecDepth 65536 in
theorem w_c37 : (Jvm.Cond.code ({ cls := "java/lang/StringUTF16", name := "coderFromArrayLen", desc := "([BI)B" } : Jvm.MethodName) jdk_52_method_15_code (2 : Nat) (Option.some Jvm.ClassFile.FieldType.byte)).before args0 about1 = true := code_word (m := ⟨18, 1⟩) (meth := k18m1) (c := k18c1) (by decide +kernel) rfl rfl rfl (by decide +kernel)
set_option maxRecDepth 65536 in
theorem w_c38 : (Jvm.Cond.code ({ cls := "java/lang/String", name := "valueOf", desc := "(C)Ljava/lang/String;" } : Jvm.MethodName) jdk_42_method_139_code (1 : Nat) (Option.some (Jvm.ClassFile.FieldType.object "java/lang/String"))).before args0 about1 = true := code_word (m := ⟨7, 5⟩) (meth := k7m5) (c := k7c5) (by decide +kernel) rfl rfl rfl (by decide +kernel)
set_option maxRecDepth 65536 in
theorem w_c39 : (Jvm.Cond.code ({ cls := "java/lang/StringLatin1", name := "canEncode", desc := "(C)Z" } : Jvm.MethodName) jdk_43_method_3_code (1 : Nat) (Option.some Jvm.ClassFile.FieldType.boolean)).before args0 about1 = true := code_word (m := ⟨16, 2⟩) (meth := k16m2) (c := k16c2) (by decide +kernel) rfl rfl rfl (by decide +kernel)
set_option maxRecDepth 65536 in
theorem w_c40 : (Jvm.Cond.code ({ cls := "java/lang/StringLatin1", name := "toBytes", desc := "(C)[B" } : Jvm.MethodName) jdk_43_method_46_code (1 : Nat) (Option.some (Jvm.ClassFile.FieldType.array Jvm.ClassFile.FieldType.byte))).before args0 about1 = true := code_word (m := ⟨16, 3⟩) (meth := k16m3) (c := k16c3) (by decide +kernel) rfl rfl rfl (by decide +kernel)
set_option maxRecDepth 65536 in
theorem w_c41 : (Jvm.Cond.code ({ cls := "java/lang/String", name := "<init>", desc := "([BB)V" } : Jvm.MethodName) jdk_42_method_151_code (3 : Nat) (Option.none : Option Jvm.ClassFile.FieldType)).before args0 about1 = true := code_word (m := ⟨7, 9⟩) (meth := k7m9) (c := k7c9) (by decide +kernel) rfl rfl rfl (by decide +kernel)
def codes1 : List Jvm.Cond := [Jvm.Cond.code x code maxLocals ret, Jvm.Cond.code ({ cls := "com/example/fenced_rbac/fencedrbac/cli/OptionUsagePinLaw", name := "make", desc := "(ICC)Ljava/lang/String;" } : Jvm.MethodName) method_2_code (3 : Nat) (Option.some (Jvm.ClassFile.FieldType.object "java/lang/String")), Jvm.Cond.code ({ cls := "java/lang/String", name := "<init>", desc := "([C)V" } : Jvm.MethodName) jdk_42_method_3_code (2 : Nat) (Option.none : Option Jvm.ClassFile.FieldType), Jvm.Cond.code ({ cls := "java/lang/String", name := "<init>", desc := "([CIILjava/lang/Void;)V" } : Jvm.MethodName) jdk_42_method_149_code (6 : Nat) (Option.none : Option Jvm.ClassFile.FieldType), Jvm.Cond.code ({ cls := "java/lang/Object", name := "<init>", desc := "()V" } : Jvm.MethodName) object_method_1_code (1 : Nat) (Option.none : Option Jvm.ClassFile.FieldType), Jvm.Cond.code ({ cls := "com/example/fenced_rbac/fencedrbac/cli/Options$Option", name := "<init>", desc := "(Ljava/lang/String;Ljava/lang/String;Z)V" } : Jvm.MethodName) prog_3_method_1_code (4 : Nat) (Option.none : Option Jvm.ClassFile.FieldType), Jvm.Cond.code ({ cls := "java/lang/Record", name := "<init>", desc := "()V" } : Jvm.MethodName) jdk_30_method_1_code (1 : Nat) (Option.none : Option Jvm.ClassFile.FieldType), Jvm.Cond.code ({ cls := "com/example/fenced_rbac/fencedrbac/cli/Options$Option", name := "usage", desc := "()Ljava/lang/String;" } : Jvm.MethodName) prog_3_method_4_code (2 : Nat) (Option.some (Jvm.ClassFile.FieldType.object "java/lang/String")), Jvm.Cond.code ({ cls := "java/lang/StringBuilder", name := "<init>", desc := "()V" } : Jvm.MethodName) jdk_67_method_1_code (1 : Nat) (Option.none : Option Jvm.ClassFile.FieldType), Jvm.Cond.code ({ cls := "java/lang/AbstractStringBuilder", name := "<init>", desc := "(I)V" } : Jvm.MethodName) jdk_68_method_2_code (2 : Nat) (Option.none : Option Jvm.ClassFile.FieldType), Jvm.Cond.code ({ cls := "java/lang/StringBuilder", name := "append", desc := "(Ljava/lang/String;)Ljava/lang/StringBuilder;" } : Jvm.MethodName) jdk_67_method_7_code (2 : Nat) (Option.some (Jvm.ClassFile.FieldType.object "java/lang/StringBuilder")), Jvm.Cond.code ({ cls := "java/lang/AbstractStringBuilder", name := "append", desc := "(Ljava/lang/String;)Ljava/lang/AbstractStringBuilder;" } : Jvm.MethodName) jdk_68_method_22_code (3 : Nat) (Option.some (Jvm.ClassFile.FieldType.object "java/lang/AbstractStringBuilder")), Jvm.Cond.code ({ cls := "java/lang/String", name := "length", desc := "()I" } : Jvm.MethodName) jdk_42_method_54_code (1 : Nat) (Option.some Jvm.ClassFile.FieldType.int), Jvm.Cond.code ({ cls := "java/lang/String", name := "coder", desc := "()B" } : Jvm.MethodName) jdk_42_method_152_code (1 : Nat) (Option.some Jvm.ClassFile.FieldType.byte), Jvm.Cond.code ({ cls := "java/lang/AbstractStringBuilder", name := "ensureCapacityInternal", desc := "(I)V" } : Jvm.MethodName) jdk_68_method_9_code (3 : Nat) (Option.none : Option Jvm.ClassFile.FieldType), Jvm.Cond.code ({ cls := "java/lang/AbstractStringBuilder", name := "putStringAt", desc := "(ILjava/lang/String;)V" } : Jvm.MethodName) jdk_68_method_73_code (3 : Nat) (Option.none : Option Jvm.ClassFile.FieldType), Jvm.Cond.code ({ cls := "java/lang/AbstractStringBuilder", name := "inflateIfNeededFor", desc := "(Ljava/lang/String;)V" } : Jvm.MethodName) jdk_68_method_71_code (2 : Nat) (Option.none : Option Jvm.ClassFile.FieldType), Jvm.Cond.code ({ cls := "java/lang/String", name := "getBytes", desc := "([BIB)V" } : Jvm.MethodName) jdk_42_method_147_code (4 : Nat) (Option.none : Option Jvm.ClassFile.FieldType), Jvm.Cond.code ({ cls := "java/lang/StringBuilder", name := "toString", desc := "()Ljava/lang/String;" } : Jvm.MethodName) jdk_67_method_42_code (1 : Nat) (Option.some (Jvm.ClassFile.FieldType.object "java/lang/String")), Jvm.Cond.code ({ cls := "java/lang/String", name := "<init>", desc := "(Ljava/lang/StringBuilder;)V" } : Jvm.MethodName) jdk_42_method_53_code (2 : Nat) (Option.none : Option Jvm.ClassFile.FieldType), Jvm.Cond.code ({ cls := "java/lang/String", name := "<init>", desc := "(Ljava/lang/AbstractStringBuilder;Ljava/lang/Void;)V" } : Jvm.MethodName) jdk_42_method_150_code (5 : Nat) (Option.none : Option Jvm.ClassFile.FieldType), Jvm.Cond.code ({ cls := "java/lang/AbstractStringBuilder", name := "getValue", desc := "()[B" } : Jvm.MethodName) jdk_68_method_64_code (1 : Nat) (Option.some (Jvm.ClassFile.FieldType.array Jvm.ClassFile.FieldType.byte)), Jvm.Cond.code ({ cls := "java/lang/StringBuilder", name := "length", desc := "()I" } : Jvm.MethodName) jdk_67_method_93_code (1 : Nat) (Option.some Jvm.ClassFile.FieldType.int), Jvm.Cond.code ({ cls := "java/lang/AbstractStringBuilder", name := "length", desc := "()I" } : Jvm.MethodName) jdk_68_method_6_code (1 : Nat) (Option.some Jvm.ClassFile.FieldType.int), Jvm.Cond.code ({ cls := "java/lang/AbstractStringBuilder", name := "isLatin1", desc := "()Z" } : Jvm.MethodName) jdk_68_method_68_code (1 : Nat) (Option.some Jvm.ClassFile.FieldType.boolean), Jvm.Cond.code ({ cls := "java/util/Arrays", name := "copyOfRange", desc := "([BII)[B" } : Jvm.MethodName) jdk_65_method_132_code (3 : Nat) (Option.some (Jvm.ClassFile.FieldType.array Jvm.ClassFile.FieldType.byte)), Jvm.Cond.code ({ cls := "java/util/Arrays", name := "copyOfRangeByte", desc := "([BII)[B" } : Jvm.MethodName) jdk_65_method_133_code (5 : Nat) (Option.some (Jvm.ClassFile.FieldType.array Jvm.ClassFile.FieldType.byte)), Jvm.Cond.code ({ cls := "java/util/Arrays", name := "checkLength", desc := "(II)V" } : Jvm.MethodName) jdk_65_method_131_code (2 : Nat) (Option.none : Option Jvm.ClassFile.FieldType), Jvm.Cond.code ({ cls := "java/lang/Math", name := "min", desc := "(II)I" } : Jvm.MethodName) jdk_29_method_69_code (2 : Nat) (Option.some Jvm.ClassFile.FieldType.int), Jvm.Cond.code ({ cls := "com/example/fenced_rbac/fencedrbac/cli/OptionUsagePinLaw", name := "at", desc := "(Ljava/lang/String;IC)Z" } : Jvm.MethodName) method_3_code (3 : Nat) (Option.some Jvm.ClassFile.FieldType.boolean), Jvm.Cond.code ({ cls := "java/lang/String", name := "charAt", desc := "(I)C" } : Jvm.MethodName) jdk_42_method_56_code (2 : Nat) (Option.some Jvm.ClassFile.FieldType.char), Jvm.Cond.code ({ cls := "java/lang/String", name := "isLatin1", desc := "()Z" } : Jvm.MethodName) jdk_42_method_154_code (1 : Nat) (Option.some Jvm.ClassFile.FieldType.boolean), Jvm.Cond.code ({ cls := "java/lang/StringLatin1", name := "charAt", desc := "([BI)C" } : Jvm.MethodName) jdk_43_method_2_code (2 : Nat) (Option.some Jvm.ClassFile.FieldType.char), Jvm.Cond.code ({ cls := "java/lang/String", name := "checkIndex", desc := "(II)V" } : Jvm.MethodName) jdk_42_method_155_code (2 : Nat) (Option.none : Option Jvm.ClassFile.FieldType), Jvm.Cond.code ({ cls := "jdk/internal/util/Preconditions", name := "checkIndex", desc := "(IILjava/util/function/BiFunction;)I" } : Jvm.MethodName) jdk_41_method_11_code (3 : Nat) (Option.some Jvm.ClassFile.FieldType.int), Jvm.Cond.code ({ cls := "java/lang/StringUTF16", name := "compress", desc := "([CII)[B" } : Jvm.MethodName) jdk_52_method_16_code (6 : Nat) (Option.some (Jvm.ClassFile.FieldType.array Jvm.ClassFile.FieldType.byte)), Jvm.Cond.code ({ cls := "java/lang/StringUTF16", name := "compress", desc := "([CI[BII)I" } : Jvm.MethodName) jdk_52_method_21_code (7 : Nat) (Option.some Jvm.ClassFile.FieldType.int), Jvm.Cond.code ({ cls := "java/lang/StringUTF16", name := "coderFromArrayLen", desc := "([BI)B" } : Jvm.MethodName) jdk_52_method_15_code (2 : Nat) (Option.some Jvm.ClassFile.FieldType.byte), Jvm.Cond.code ({ cls := "java/lang/String", name := "valueOf", desc := "(C)Ljava/lang/String;" } : Jvm.MethodName) jdk_42_method_139_code (1 : Nat) (Option.some (Jvm.ClassFile.FieldType.object "java/lang/String")), Jvm.Cond.code ({ cls := "java/lang/StringLatin1", name := "canEncode", desc := "(C)Z" } : Jvm.MethodName) jdk_43_method_3_code (1 : Nat) (Option.some Jvm.ClassFile.FieldType.boolean), Jvm.Cond.code ({ cls := "java/lang/StringLatin1", name := "toBytes", desc := "(C)[B" } : Jvm.MethodName) jdk_43_method_46_code (1 : Nat) (Option.some (Jvm.ClassFile.FieldType.array Jvm.ClassFile.FieldType.byte)), Jvm.Cond.code ({ cls := "java/lang/String", name := "<init>", desc := "([BB)V" } : Jvm.MethodName) jdk_42_method_151_code (3 : Nat) (Option.none : Option Jvm.ClassFile.FieldType)]
set_option maxRecDepth 65536 in
theorem codes_eq : words1.filter isCode = codes1 := rfl
theorem w_codes : ∀ c ∈ words1.filter isCode, c.before args0 about1 = true := by
  rw [codes_eq]
  intro c hc
  simp only [codes1, List.mem_cons, List.not_mem_nil, or_false] at hc
  rcases hc with rfl | rfl | rfl | rfl | rfl | rfl | rfl | rfl | rfl | rfl | rfl | rfl | rfl | rfl | rfl | rfl | rfl | rfl | rfl | rfl | rfl | rfl | rfl | rfl | rfl | rfl | rfl | rfl | rfl | rfl | rfl | rfl | rfl | rfl | rfl | rfl | rfl | rfl | rfl | rfl | rfl | rfl
  · exact w_c0
  · exact w_c1
  · exact w_c2
  · exact w_c3
  · exact w_c4
  · exact w_c5
  · exact w_c6
  · exact w_c7
  · exact w_c8
  · exact w_c9
  · exact w_c10
  · exact w_c11
  · exact w_c12
  · exact w_c13
  · exact w_c14
  · exact w_c15
  · exact w_c16
  · exact w_c17
  · exact w_c18
  · exact w_c19
  · exact w_c20
  · exact w_c21
  · exact w_c22
  · exact w_c23
  · exact w_c24
  · exact w_c25
  · exact w_c26
  · exact w_c27
  · exact w_c28
  · exact w_c29
  · exact w_c30
  · exact w_c31
  · exact w_c32
  · exact w_c33
  · exact w_c34
  · exact w_c35
  · exact w_c36
  · exact w_c37
  · exact w_c38
  · exact w_c39
  · exact w_c40
  · exact w_c41
set_option maxRecDepth 65536 in
theorem w_t1 : (words1.take 24).all (fun c => isCode c || c.before args0 about1) = true := by decide +kernel
set_option maxRecDepth 65536 in
theorem w_t2 : ((words1.drop 24).take 24).all (fun c => isCode c || c.before args0 about1) = true := by decide +kernel
set_option maxRecDepth 65536 in
theorem w_t3 : (((words1.drop 24).drop 24).take 24).all (fun c => isCode c || c.before args0 about1) = true := by decide +kernel
set_option maxRecDepth 65536 in
theorem w_t4 : ((((words1.drop 24).drop 24).drop 24).take 24).all (fun c => isCode c || c.before args0 about1) = true := by decide +kernel
set_option maxRecDepth 65536 in
theorem w_t5 : (((((words1.drop 24).drop 24).drop 24).drop 24).take 24).all (fun c => isCode c || c.before args0 about1) = true := by decide +kernel
set_option maxRecDepth 65536 in
theorem w_t6 : ((((((words1.drop 24).drop 24).drop 24).drop 24).drop 24).take 24).all (fun c => isCode c || c.before args0 about1) = true := by decide +kernel
set_option maxRecDepth 65536 in
theorem w_t7 : (((((((words1.drop 24).drop 24).drop 24).drop 24).drop 24).drop 24).take 24).all (fun c => isCode c || c.before args0 about1) = true := by decide +kernel
set_option maxRecDepth 65536 in
theorem w_t8 : ((((((((words1.drop 24).drop 24).drop 24).drop 24).drop 24).drop 24).drop 24).take 24).all (fun c => isCode c || c.before args0 about1) = true := by decide +kernel
set_option maxRecDepth 65536 in
theorem w_t9 : ((((((((words1.drop 24).drop 24).drop 24).drop 24).drop 24).drop 24).drop 24).drop 24).all (fun c => isCode c || c.before args0 about1) = true := by decide +kernel
theorem w_tables : (allAtoms (Jvm.Cond.code x code maxLocals ret :: tables_1)).before args0 about1 = true := by
  rw [allAtoms_all]
  show words1.all (fun c => c.before args0 about1) = true
  refine all_split ?_ w_codes
  rw [← List.take_append_drop 24 words1, List.all_append, w_t1, ← List.take_append_drop 24 (words1.drop 24), List.all_append, w_t2, ← List.take_append_drop 24 ((words1.drop 24).drop 24), List.all_append, w_t3, ← List.take_append_drop 24 (((words1.drop 24).drop 24).drop 24), List.all_append, w_t4, ← List.take_append_drop 24 ((((words1.drop 24).drop 24).drop 24).drop 24), List.all_append, w_t5, ← List.take_append_drop 24 (((((words1.drop 24).drop 24).drop 24).drop 24).drop 24), List.all_append, w_t6, ← List.take_append_drop 24 ((((((words1.drop 24).drop 24).drop 24).drop 24).drop 24).drop 24), List.all_append, w_t7, ← List.take_append_drop 24 (((((((words1.drop 24).drop 24).drop 24).drop 24).drop 24).drop 24).drop 24), List.all_append, w_t8, w_t9]
  rfl
set_option maxRecDepth 65536 in
theorem w_rest : rest_1_c.before args0 about1 = true := by decide +kernel
set_option maxRecDepth 65536 in
theorem w_case : (Jvm.Cond.and given_1 narrow_1).before args0 about1 = true := by decide +kernel
set_option maxRecDepth 65536 in
theorem w_consts : constsHeld consts_1 about1 := Jvm.Lit.constsHeldB_iff.mp (by decide +kernel)
theorem w_applies : (headSpec (Jvm.Cond.code x code maxLocals ret :: tables_1) room_1).applies x e0.platform about1 = true :=
  (Spec.applies_iff w_frames).mpr ⟨w_running, w_runnable, w_alone, w_named, w_hears, w_ripe, w_room, w_tables⟩
theorem atStart : AtStart classFile x code maxLocals ret World_1 tables_1 room_1 Calls_1 rest_1 Pre_1 launch0 p0 e0 about1 theMethod args0 below0 :=
  ⟨lists_1, trivial, launch0.admits_env _ _ _, launch0.least_env, fairChoices_fair.cas, fairChoices_fair.clock, w_frames, w_args, w_heap, w_applies, ⟨w_consts, trivial⟩, w_rest, w_case⟩
end start1
theorem witness_1 : WitnessClaimed_1 := ⟨start1.p0, start1.e0, start1.about1, start1.theMethod, start1.args0, start1.below0, start1.atStart⟩
end Jvm.Pilot.@@N@@
