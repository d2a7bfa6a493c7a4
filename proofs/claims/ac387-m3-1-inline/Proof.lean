import JvmDerived
import JvmDerived.Pilot.@@N@@Statement
import JvmDerived.Pilot.@@N@@Code
set_option linter.unusedVariables false
set_option linter.unusedSimpArgs false
namespace Jvm.OwnKit
open Sem ClassFile Op Lib Jvm.Stand Jvm.Free Jvm.LawKit Jvm.RoadKit
/-- the contract of a body: from these arguments at this heap it returns, and Q says what it left -/
abbrev Con (l : Launch) (Z : State) (y : MethodName) (bytes : ByteArray) (maxL : Nat) (ret : Option FieldType) (ws : List Jvm.Cond) (rm : Room) (as' : Array Value) (h0 : Heap) (Q : Option Value → Heap → List Loc → Prop) : Prop :=
  MetFree l y (head1 (Jvm.Cond.code y bytes maxL ret :: ws) rm) (fun a U => a = as' ∧ Z.Warmed39 U.vm ∧ U.heap = h0) (fun _ _ _ _ _ => True) (fun _ U o U' => ∃ v L, o = .returned v ∧ Q v U'.heap L ∧ FrameEnd U o U' L rm.cells rm.slots)
/-- how a body ends -/
abbrev EndQ (s : State) (rm : Room) (Q : Option Value → Heap → List Loc → Prop) : Outcome → State → Prop := fun o t => ∃ v L, o = .returned v ∧ Q v t.heap L ∧ FrameEnd s o t L rm.cells rm.slots
/-- from this frame on the body comes to its end, and Qe holds there -/
def OGo (p : Program) (e : Env) (below : List Frame) (Qe : Outcome → State → Prop) (T : State) (g : JFrame) : Prop :=
  ∃ s₂ o, Steps p.tables e below (T.setTop g) s₂ ∧ s₂.status = .running ∧ Ended s₂ below o ∧ Qe o s₂
section K
variable {p : Program} {l : Launch} {e : Env} {R : Room} {s : State} {m : MethodId} {args : Array Value} {below : List Frame} {meth : Method} {c : Code} {T T' : State} {locs : List Loc} {cells slots : Nat} {Qe : Outcome → State → Prop} {g g' : JFrame} {Z : State} {a0 : Array Value} {h : Heap}
theorem OGo.step (st : ∀ t, Steps p.tables e below (T'.setTop g') t → Steps p.tables e below (T.setTop g) t) (k : OGo p e below Qe T' g') : OGo p e below Qe T g := by
  obtain ⟨s₂, o, h1, h2⟩ := k
  exact ⟨s₂, o, st _ h1, h2⟩
theorem OGo.cast (q : g' = g) (k : OGo p e below Qe T g') : OGo p e below Qe T g := q ▸ k
theorem Con.intro {y : MethodName} {bytes : ByteArray} {maxL : Nat} {ret : Option FieldType} {ws : List Jvm.Cond} {rm : Room} {as' : Array Value} {h0 : Heap} {Q : Option Value → Heap → List Loc → Prop} (hpl : plainFor y = true)
    (body : ∀ (p : Program) (e : Env) (s : State) (m : MethodId) (below : List Frame) (meth : Method) (c : Code) (s₁ : State), p.tables.exec = Jvm.exec → c.code = bytes → c.maxLocals = maxL → s.vm.findClass y.cls = some m.cls →
      meth.sig.returnType = ret → meth.locks = false → Z.Warmed39 s.vm → meth.name = y.name → Stand p l e rm s m as' below meth c s₁ [] 0 0 → s₁.heap = h0 → OGo p e below (EndQ s rm Q) s₁ (entryFrame m as' maxL)) :
    Con l Z y bytes maxL ret ws rm as' h0 Q := by
  refine MetFree.of_bodySF hpl hisR ?_
  intro p e s m args below meth c s₁ Bd hml0 hP hK
  obtain ⟨rfl, hZ, hh⟩ := hP
  exact body p e s m below meth c s₁ Bd.exec Bd.bytes hml0 (findClass_of_methodNamed Bd.named) Bd.returns Bd.notSynchronized hZ (name_of_methodNamed Bd.named Bd.method).1 (Stand.of_body Bd) (by rw [← hh, Bd.state]; rfl)
theorem OGo.ret {Q : Option Value → Heap → List Loc → Prop} {rm : Room} (X : Stand p l e R s m args below meth c T locs cells slots) (hx : p.tables.exec = Jvm.exec) {pc : Nat} {Ls : Array Slot} {w : Value} {t : FieldType} {i : Instr} {rest : List Value} (hret : meth.sig.returnType = some t) (hlk : meth.locks = false) (hn : narrow t w = w)
    (hi : (i = .ireturn ∧ (t = .int ∨ t = .boolean ∨ t = .byte ∨ t = .char ∨ t = .short) ∧ ∃ z, w = .int z) ∨ (i = .lreturn ∧ t = .long ∧ ∃ z, w = .long z) ∨ (i = .dreturn ∧ t = .double ∧ ∃ z, w = .double z) ∨ (i = .freturn ∧ t = .float ∧ ∃ z, w = .float z) ∨ (i = .areturn ∧ t.isReference = true ∧ w.isRef = true))
    (hd : decode c.code pc = .ok (i, 1)) (hc : cells ≤ rm.cells) (hs : slots ≤ rm.slots) (hQ : Q (some w) T.heap locs) : OGo p e below (EndQ s rm Q) T (mkF m pc Ls (w :: rest)) := by
  obtain ⟨fs, hr, hrun, hended, hW, hsame⟩ := X.leave (v := some w) (fun h => by rw [hret] at h; cases h) hlk
  exact ⟨_, _, retOut X hx hret hn hi hd hr, hrun, hended, _, _, rfl, hQ, ⟨_, rfl⟩, hW, hsame.mono hc hs⟩
theorem OGo.retV {Q : Option Value → Heap → List Loc → Prop} {rm : Room} (X : Stand p l e R s m args below meth c T locs cells slots) (hx : p.tables.exec = Jvm.exec) {pc : Nat} {Ls : Array Slot} (hret : meth.sig.returnType = none) (hlk : meth.locks = false)
    (hd : decode c.code pc = .ok (.return_, 1)) (hc : cells ≤ rm.cells) (hs : slots ≤ rm.slots) (hQ : Q none T.heap locs) : OGo p e below (EndQ s rm Q) T (mkF m pc Ls []) := by
  obtain ⟨fs, hr, hrun, hended, hW, hsame⟩ := X.leave (v := none) (fun _ => rfl) hlk
  exact ⟨_, _, X.returnOut hx hret hd hr, hrun, hended, _, _, rfl, hQ, ⟨_, rfl⟩, hW, hsame.mono hc hs⟩
theorem riI {z : Int32} {t : FieldType} (ht : t = .int ∨ t = .boolean ∨ t = .byte ∨ t = .char ∨ t = .short) : (Instr.ireturn = .ireturn ∧ (t = .int ∨ t = .boolean ∨ t = .byte ∨ t = .char ∨ t = .short) ∧ ∃ y, Value.int z = .int y) ∨ (Instr.ireturn = .lreturn ∧ t = .long ∧ ∃ y, Value.int z = .long y) ∨ (Instr.ireturn = .dreturn ∧ t = .double ∧ ∃ y, Value.int z = .double y) ∨ (Instr.ireturn = .freturn ∧ t = .float ∧ ∃ y, Value.int z = .float y) ∨ (Instr.ireturn = .areturn ∧ t.isReference = true ∧ (Value.int z).isRef = true) := Or.inl ⟨rfl, ht, z, rfl⟩
/-- a static call by its contract -/
theorem scall (X : Stand p l e R s m args below meth c T locs cells slots) (hx : p.tables.exec = Jvm.exec) (hZ : Z.Warmed39 s.vm) {own : String} {index : Nat} {y : MethodName} {bytes : ByteArray} {maxL : Nat} {ret : Option FieldType} (hown : s.vm.findClass own = some m.cls)
    (w1 : (Jvm.Cond.methodLink own index y).before a0 Z = true) (w2 : (Jvm.Cond.static y).before a0 Z = true) (w3 : (Jvm.Cond.initialized y.cls).before a0 Z = true) (w4 : (Jvm.Cond.code y bytes maxL ret).before a0 Z = true) (hy : y.cls ≠ "java/lang/invoke/MethodHandle" ∧ y.cls ≠ "java/lang/invoke/VarHandle")
    {W : Nat} {rm : Room} {as' : Array Value} {Q : Option Value → Heap → List Loc → Prop} (hM : Con l Z y bytes maxL ret [] rm as' h Q) (eT : T.heap = h) (hf : rm.frames + 1 ≤ R.frames) (hl : W + (maxL + 11) + rm.locals ≤ R.locals) (hc : cells + rm.cells ≤ R.cells) (hs : slots + rm.slots ≤ R.slots)
    {g : JFrame} (hg : g.method = m) (hsize : g.locals.size = c.maxLocals) {argsL rest : List Value} {ps : List FieldType} {r : Option FieldType} (hpd : parseMethodDescriptor y.desc = some ⟨ps, r⟩) (hlen : argsL.length = ps.length) (hstack : g.stack = argsL.reverse ++ rest) (has : argsL.toArray = as') (hW : 2 * g.monitorRoom + (rest.map fun v => v.category).sum ≤ W)
    (hdg : decode c.code g.pc = .ok (.invokestatic index, 3)) :
    ∃ (v : Option Value) (T' : State) (L : List Loc), Stand p l e R s m args below meth c T' (locs ++ L) (cells + rm.cells) (slots + rm.slots) ∧ Q v T'.heap L ∧
      ∀ target, Steps p.tables e below (T'.setTop { g with pc := g.pc + 3, stack := v.toList ++ rest }) target → Steps p.tables e below (T.setTop g) target := by
  obtain ⟨v, vm₁, ⟨T', L', k', n'⟩, -, X', ⟨L, hQ, e1, e2, e3⟩, st⟩ := Jvm.LawKit.callS X hx hown (mvT hZ w1) (mvT hZ w2) (mvT hZ w3) (mvT hZ w4) hy (backOf (W := W) hM hZ w4 w3 hf hl) hg hsize (lenOf hpd hlen) hstack hW hdg (fun _ _ => ⟨has, eT, hc, hs⟩)
  dsimp only [Pt.U, Pt.locs, Pt.cells, Pt.slots] at X' e1 e2 e3 st hQ
  subst e1 e2 e3
  exact ⟨v, T', L, X', hQ, st⟩
/-- a constructor by its contract -/
theorem icall (X : Stand p l e R s m args below meth c T locs cells slots) (hx : p.tables.exec = Jvm.exec) (hZ : Z.Warmed39 s.vm) {own : String} {index : Nat} {y : MethodName} {bytes : ByteArray} {maxL : Nat} (hy1 : y.name = "<init>") (hown : s.vm.findClass own = some m.cls)
    (w1 : (Jvm.Cond.methodLink own index y).before a0 Z = true) (w2 : (Jvm.Cond.instanceMethod y).before a0 Z = true) (w3 : (Jvm.Cond.initialized y.cls).before a0 Z = true) (w4 : (Jvm.Cond.code y bytes maxL none).before a0 Z = true) (hy : y.cls ≠ "java/lang/invoke/MethodHandle" ∧ y.cls ≠ "java/lang/invoke/VarHandle")
    {W : Nat} {rm : Room} {as' : Array Value} {Q : Option Value → Heap → List Loc → Prop} (hM : Con l Z y bytes maxL none [] rm as' h Q) (eT : T.heap = h) (hf : rm.frames + 1 ≤ R.frames) (hl : W + (maxL + 11) + rm.locals ≤ R.locals) (hc : cells + rm.cells ≤ R.cells) (hs : slots + rm.slots ≤ R.slots)
    {g : JFrame} (hg : g.method = m) (hsize : g.locals.size = c.maxLocals) {a : Addr} {argsL rest : List Value} {ps : List FieldType} {r : Option FieldType} (hpd : parseMethodDescriptor y.desc = some ⟨ps, r⟩) (hlen : argsL.length = ps.length) (hstack : g.stack = argsL.reverse ++ .ref a :: rest) (has : (Value.ref a :: argsL).toArray = as') (hW : 2 * g.monitorRoom + (rest.map fun v => v.category).sum ≤ W)
    (hdg : decode c.code g.pc = .ok (.invokespecial index, 3)) :
    ∃ (v : Option Value) (T' : State) (L : List Loc), Stand p l e R s m args below meth c T' (locs ++ L) (cells + rm.cells) (slots + rm.slots) ∧ Q v T'.heap L ∧
      ∀ target, Steps p.tables e below (T'.setTop { g with pc := g.pc + 3, stack := v.toList ++ rest }) target → Steps p.tables e below (T.setTop g) target := by
  obtain ⟨v, vm₁, ⟨T', L', k', n'⟩, -, X', ⟨L, hQ, e1, e2, e3⟩, st⟩ := X.specialBack hx hy1 hown (mvT hZ w1) (mvT hZ w2) (mvT hZ w4) hy (backOf (W := W) hM hZ w4 w3 hf hl) hg hsize (Steps.refl _) (lenOf hpd hlen) hstack hW hdg (fun _ _ => ⟨has, eT, hc, hs⟩)
  dsimp only [Pt.U, Pt.locs, Pt.cells, Pt.slots] at X' e1 e2 e3 st hQ
  subst e1 e2 e3
  exact ⟨v, T', L, X', hQ, fun t k => st.trans k⟩
theorem own_nf {C : String} {x' y z : MethodName} (w : (Jvm.Cond.selects C x' z).before args s = true) (hz : z.cls = y.cls) : NotFace s y := fun r0 h0 => by
  obtain ⟨c2, r2, m2, q1, q2, q3, q4, kP, hkP, hkPi⟩ := Cond.selects_spec w
  have a := findClass_of_methodNamed q3
  have b := findClass_of_methodNamed h0
  rw [hz] at a
  have e : m2.cls = r0.cls := Option.some.inj (a.symm.trans b)
  exact ⟨kP, e ▸ hkP, hkPi⟩
/-- an instance method by the contract of the body that is selected -/
theorem vcall (X : Stand p l e R s m args below meth c T locs cells slots) (hx : p.tables.exec = Jvm.exec) (hZ : Z.Warmed39 s.vm) {own C : String} {index : Nat} {y z : MethodName} {bytes : ByteArray} {maxL : Nat} {ret : Option FieldType} (hown : s.vm.findClass own = some m.cls)
    (w1 : (Jvm.Cond.methodLink own index y).before a0 Z = true) (w2 : (Jvm.Cond.declares y).before a0 Z = true) {C2 : String} {x2 z2 : MethodName} (w7 : (Jvm.Cond.selects C2 x2 z2).before a0 Z = true) (h7 : z2.cls = y.cls) (w5 : (Jvm.Cond.selects C y z).before a0 Z = true) (w6 : (Jvm.Cond.instanceMethod z).before a0 Z = true) (w3 : (Jvm.Cond.initialized z.cls).before a0 Z = true) (w4 : (Jvm.Cond.code z bytes maxL ret).before a0 Z = true) (hy : y.cls ≠ "java/lang/invoke/MethodHandle" ∧ y.cls ≠ "java/lang/invoke/VarHandle")
    {W : Nat} {rm : Room} {as' : Array Value} {Q : Option Value → Heap → List Loc → Prop} (hM : Con l Z z bytes maxL ret [] rm as' h Q) (eT : T.heap = h) (hf : rm.frames + 1 ≤ R.frames) (hl : W + (maxL + 11) + rm.locals ≤ R.locals) (hc : cells + rm.cells ≤ R.cells) (hs : slots + rm.slots ≤ R.slots)
    {g : JFrame} (hg : g.method = m) (hsize : g.locals.size = c.maxLocals) {a : Addr} (E : Exa Z h a C) {argsL rest : List Value} {ps : List FieldType} {r : Option FieldType} (hpd : parseMethodDescriptor y.desc = some ⟨ps, r⟩) (hlen : argsL.length = ps.length) (hstack : g.stack = argsL.reverse ++ .ref a :: rest) (has : (Value.ref a :: argsL).toArray = as') (hW : 2 * g.monitorRoom + (rest.map fun v => v.category).sum ≤ W)
    (hdg : decode c.code g.pc = .ok (.invokevirtual index, 3)) :
    ∃ (v : Option Value) (T' : State) (L : List Loc), Stand p l e R s m args below meth c T' (locs ++ L) (cells + rm.cells) (slots + rm.slots) ∧ Q v T'.heap L ∧
      ∀ target, Steps p.tables e below (T'.setTop { g with pc := g.pc + 3, stack := v.toList ++ rest }) target → Steps p.tables e below (T.setTop g) target := by
  obtain ⟨cq, kq, qa, qb, qc⟩ := isOf hZ eT E
  obtain ⟨v, vm₁, ⟨T', L', k', n'⟩, -, X', ⟨L, hQ, e1, e2, e3⟩, st⟩ := X.virtualBack hx hown (mvT hZ w1) (mvT hZ w2) (own_nf (args := #[]) (mvT hZ w7) h7) (mvT hZ w5) (mvT hZ w6) hy (backOf (W := W) hM hZ w4 w3 hf hl) qa qc hg hsize (Steps.refl _) (lenOf hpd hlen) hstack hW hdg (fun _ _ => ⟨has, eT, hc, hs⟩)
  dsimp only [Pt.U, Pt.locs, Pt.cells, Pt.slots] at X' e1 e2 e3 st hQ
  subst e1 e2 e3
  exact ⟨v, T', L, X', hQ, fun t k => st.trans k⟩
/-- a private instance method by its contract -/
theorem pcall (X : Stand p l e R s m args below meth c T locs cells slots) (hx : p.tables.exec = Jvm.exec) (hZ : Z.Warmed39 s.vm) {own C C' : String} {index : Nat} {y : MethodName} {bytes : ByteArray} {maxL : Nat} {ret : Option FieldType} (hown : s.vm.findClass own = some m.cls)
    (w1 : (Jvm.Cond.methodLink own index y).before a0 Z = true) (w2 : (Jvm.Cond.instanceMethod y).before a0 Z = true) (w5 : (Jvm.Cond.selects C' y y).before a0 Z = true) (w6 : (Jvm.Cond.privateMethod y).before a0 Z = true) (w3 : (Jvm.Cond.initialized y.cls).before a0 Z = true) (w4 : (Jvm.Cond.code y bytes maxL ret).before a0 Z = true) (hy : y.cls ≠ "java/lang/invoke/MethodHandle" ∧ y.cls ≠ "java/lang/invoke/VarHandle")
    {W : Nat} {rm : Room} {as' : Array Value} {Q : Option Value → Heap → List Loc → Prop} (hM : Con l Z y bytes maxL ret [] rm as' h Q) (eT : T.heap = h) (hf : rm.frames + 1 ≤ R.frames) (hl : W + (maxL + 11) + rm.locals ≤ R.locals) (hc : cells + rm.cells ≤ R.cells) (hs : slots + rm.slots ≤ R.slots)
    {g : JFrame} (hg : g.method = m) (hsize : g.locals.size = c.maxLocals) {a : Addr} (E : Exa Z h a C) {argsL rest : List Value} {ps : List FieldType} {r : Option FieldType} (hpd : parseMethodDescriptor y.desc = some ⟨ps, r⟩) (hlen : argsL.length = ps.length) (hstack : g.stack = argsL.reverse ++ .ref a :: rest) (has : (Value.ref a :: argsL).toArray = as') (hW : 2 * g.monitorRoom + (rest.map fun v => v.category).sum ≤ W)
    (hdg : decode c.code g.pc = .ok (.invokevirtual index, 3)) :
    ∃ (v : Option Value) (T' : State) (L : List Loc), Stand p l e R s m args below meth c T' (locs ++ L) (cells + rm.cells) (slots + rm.slots) ∧ Q v T'.heap L ∧
      ∀ target, Steps p.tables e below (T'.setTop { g with pc := g.pc + 3, stack := v.toList ++ rest }) target → Steps p.tables e below (T.setTop g) target := by
  obtain ⟨cq, q1, q2⟩ := E.cell
  have hp := Cond.privateMethod_at (mvP hZ w6 (args := #[]))
  have hsel : (Jvm.Cond.selects y.cls y y).before args s = true := by
    have w5' : (Jvm.Cond.selects C' y y).before args s = true := mvT hZ w5
    obtain ⟨c2, r2, m2, -, -, q3, -, kP, hkP, hkPi⟩ := Cond.selects_spec w5'
    exact selects_self_of_private (findClass_of_methodNamed q3) hkP hkPi hp (mvT hZ w2) hy
  obtain ⟨v, vm₁, ⟨T', L', k', n'⟩, -, X', ⟨L, hQ, e1, e2, e3⟩, st⟩ := X.privateBack hx hown (mvT hZ w1) (mvT hZ w2) hsel hp (mvT hZ w4) hy (backOf (W := W) hM hZ w4 w3 hf hl) hg hsize (Steps.refl _) (by rw [eT]; exact q1) q2 (lenOf hpd hlen) hstack hW hdg (fun _ _ => ⟨has, eT, hc, hs⟩)
  dsimp only [Pt.U, Pt.locs, Pt.cells, Pt.slots] at X' e1 e2 e3 st hQ
  subst e1 e2 e3
  exact ⟨v, T', L, X', hQ, fun t k => st.trans k⟩
theorem own_same {C : String} {x' y z : MethodName} (w : (Jvm.Cond.selects C x' z).before a0 Z = true) (hz : z.cls = y.cls) (wi : (Jvm.Cond.instanceMethod y).before a0 Z = true) (hy : y.cls ≠ "java/lang/invoke/MethodHandle" ∧ y.cls ≠ "java/lang/invoke/VarHandle") : (Jvm.Cond.sameMethod y.cls y.cls y.name y.desc).before a0 Z = true := by
  obtain ⟨mk, methM, hnamed, hmethM, -, -⟩ := Cond.instanceMethod_spec wi
  obtain ⟨c2, r2, m2, -, -, q3, -, kP, hkP, hkPi⟩ := Cond.selects_spec w
  have hc := findClass_of_methodNamed hnamed
  have hc2 := findClass_of_methodNamed q3
  rw [hz] at hc2
  have e : m2.cls = mk.cls := Option.some.inj (hc2.symm.trans hc)
  rw [e] at hkP
  have hfound : Z.methodFound? y.cls y.name y.desc = some mk := State.methodFound?_of_named hnamed hy
  have hn : Z.methodNamed? ⟨y.cls, y.name, y.desc⟩ = some mk := hnamed
  simp only [Cond.before, Cond.holds, Cond.value, hc, hfound, hn, hkP]
  simp [hkPi]
/-- super.m(..) by its contract -/
theorem ucall (X : Stand p l e R s m args below meth c T locs cells slots) (hx : p.tables.exec = Jvm.exec) (hZ : Z.Warmed39 s.vm) {own C : String} {index : Nat} {y : MethodName} {bytes : ByteArray} {maxL : Nat} {ret : Option FieldType} (hown : s.vm.findClass own = some m.cls)
    (w1 : (Jvm.Cond.methodLink own index y).before a0 Z = true) (w2 : (Jvm.Cond.sameMethod y.cls y.cls y.name y.desc).before a0 Z = true) (w5 : (Jvm.Cond.instanceMethod y).before a0 Z = true) (w6 : (Jvm.Cond.superclass own y.cls).before a0 Z = true) (w3 : (Jvm.Cond.initialized y.cls).before a0 Z = true) (w4 : (Jvm.Cond.code y bytes maxL ret).before a0 Z = true) (hy : y.name ≠ "<init>")
    {W : Nat} {rm : Room} {as' : Array Value} {Q : Option Value → Heap → List Loc → Prop} (hM : Con l Z y bytes maxL ret [] rm as' h Q) (eT : T.heap = h) (hf : rm.frames + 1 ≤ R.frames) (hl : W + (maxL + 11) + rm.locals ≤ R.locals) (hc : cells + rm.cells ≤ R.cells) (hs : slots + rm.slots ≤ R.slots)
    {g : JFrame} (hg : g.method = m) (hsize : g.locals.size = c.maxLocals) {a : Addr} (E : Exa Z h a C) {argsL rest : List Value} {ps : List FieldType} {r : Option FieldType} (hpd : parseMethodDescriptor y.desc = some ⟨ps, r⟩) (hlen : argsL.length = ps.length) (hstack : g.stack = argsL.reverse ++ .ref a :: rest) (has : (Value.ref a :: argsL).toArray = as') (hW : 2 * g.monitorRoom + (rest.map fun v => v.category).sum ≤ W)
    (hdg : decode c.code g.pc = .ok (.invokespecial index, 3)) :
    ∃ (v : Option Value) (T' : State) (L : List Loc), Stand p l e R s m args below meth c T' (locs ++ L) (cells + rm.cells) (slots + rm.slots) ∧ Q v T'.heap L ∧
      ∀ target, Steps p.tables e below (T'.setTop { g with pc := g.pc + 3, stack := v.toList ++ rest }) target → Steps p.tables e below (T.setTop g) target := by
  obtain ⟨v, vm₁, ⟨T', L', k', n'⟩, -, X', ⟨L, hQ, e1, e2, e3⟩, st⟩ := superBack X hx hZ hown w1 w2 w5 w6 hy (backOf (W := W) hM hZ w4 w3 hf hl) eT (Ins.self E) hg hsize w4 (lenOf hpd hlen) hstack hW hdg (fun _ _ => ⟨has, eT, hc, hs⟩)
  dsimp only [Pt.U, Pt.locs, Pt.cells, Pt.slots] at X' e1 e2 e3 st hQ
  subst e1 e2 e3
  exact ⟨v, T', L, X', hQ, fun t k => st.trans k⟩
variable {a : Addr} {k : ClassId} {ty : FieldType} {z j : Int32} {vs : List Value} {dv v : Value}
theorem alenV (X : Stand p l e R s m args below meth c T locs cells slots) (hx : p.tables.exec = Jvm.exec) (hZ : Z.Warmed39 s.vm) (eT : T.heap = h) (F : Arv Z h a k ty z vs dv) {g : JFrame} (hg : g.method = m) {rest : List Value} (hst : g.stack = .ref a :: rest) (hd : decode c.code g.pc = .ok (.arraylength, 1)) (target : State)
    (hr : Steps p.tables e below (T.setTop { g with pc := g.pc + 1, stack := .int z :: rest }) target) : Steps p.tables e below (T.setTop g) target := by
  obtain ⟨cl, Ar, -, S, N, -, -⟩ := F
  refine X.arraylength hx (by rw [eT]; exact Ar.1) (State.isArrayOf_alike hZ.alike Ar.2.1) hg hst hd _ ?_
  rw [len_of S N]
  exact hr
theorem caloadV (X : Stand p l e R s m args below meth c T locs cells slots) (hx : p.tables.exec = Jvm.exec) (hZ : Z.Warmed39 s.vm) (eT : T.heap = h) (F : Arv Z h a k .char z vs dv) (hj : ¬ j < 0 ∧ j < z) (hat : vs.getD j.toNatClampNeg dv = v) {g : JFrame} (hg : g.method = m) {rest : List Value} (hst : g.stack = .int j :: .ref a :: rest) (hd : decode c.code g.pc = .ok (.caload, 1)) (target : State)
    (hr : Steps p.tables e below (T.setTop { g with pc := g.pc + 1, stack := v :: rest }) target) : Steps p.tables e below (T.setTop g) target := by
  obtain ⟨cl, Ar, -, S, N, H, -⟩ := F
  exact X.caload hx (by rw [eT]; exact Ar.1) (State.isArrayOf_alike hZ.alike Ar.2.1) Ar.2.2 (inb_of S hj) (H.at (inb_of S hj) hat) hg hst hd _ hr
theorem baloadV (X : Stand p l e R s m args below meth c T locs cells slots) (hx : p.tables.exec = Jvm.exec) (hZ : Z.Warmed39 s.vm) (eT : T.heap = h) (F : Arv Z h a k .byte z vs dv) (hj : ¬ j < 0 ∧ j < z) (hat : vs.getD j.toNatClampNeg dv = v) {g : JFrame} (hg : g.method = m) {rest : List Value} (hst : g.stack = .int j :: .ref a :: rest) (hd : decode c.code g.pc = .ok (.baload, 1)) (target : State)
    (hr : Steps p.tables e below (T.setTop { g with pc := g.pc + 1, stack := v :: rest }) target) : Steps p.tables e below (T.setTop g) target := by
  obtain ⟨cl, Ar, -, S, N, H, -⟩ := F
  exact X.baloadBytes hx (by rw [eT]; exact Ar.1) (State.isArrayOf_alike hZ.alike Ar.2.1) Ar.2.2 (inb_of S hj) (H.at (inb_of S hj) hat) hg hst hd _ hr
theorem ialoadV (X : Stand p l e R s m args below meth c T locs cells slots) (hx : p.tables.exec = Jvm.exec) (hZ : Z.Warmed39 s.vm) (eT : T.heap = h) (F : Arv Z h a k .int z vs dv) (hj : ¬ j < 0 ∧ j < z) (hat : vs.getD j.toNatClampNeg dv = v) {g : JFrame} (hg : g.method = m) {rest : List Value} (hst : g.stack = .int j :: .ref a :: rest) (hd : decode c.code g.pc = .ok (.iaload, 1)) (target : State)
    (hr : Steps p.tables e below (T.setTop { g with pc := g.pc + 1, stack := v :: rest }) target) : Steps p.tables e below (T.setTop g) target := by
  obtain ⟨cl, Ar, -, S, N, H, -⟩ := F
  exact X.iaload hx (by rw [eT]; exact Ar.1) (State.isArrayOf_alike hZ.alike Ar.2.1) Ar.2.2 (inb_of S hj) (H.at (inb_of S hj) hat) hg hst hd _ hr
theorem laloadV (X : Stand p l e R s m args below meth c T locs cells slots) (hx : p.tables.exec = Jvm.exec) (hZ : Z.Warmed39 s.vm) (eT : T.heap = h) (F : Arv Z h a k .long z vs dv) (hj : ¬ j < 0 ∧ j < z) (hat : vs.getD j.toNatClampNeg dv = v) {g : JFrame} (hg : g.method = m) {rest : List Value} (hst : g.stack = .int j :: .ref a :: rest) (hd : decode c.code g.pc = .ok (.laload, 1)) (target : State)
    (hr : Steps p.tables e below (T.setTop { g with pc := g.pc + 1, stack := v :: rest }) target) : Steps p.tables e below (T.setTop g) target := by
  obtain ⟨cl, Ar, -, S, N, H, -⟩ := F
  exact X.laload hx (by rw [eT]; exact Ar.1) (State.isArrayOf_alike hZ.alike Ar.2.1) Ar.2.2 (inb_of S hj) (H.at (inb_of S hj) hat) hg hst hd _ hr
theorem aaloadV (X : Stand p l e R s m args below meth c T locs cells slots) (hx : p.tables.exec = Jvm.exec) (hZ : Z.Warmed39 s.vm) (eT : T.heap = h) (F : Arv Z h a k ty z vs dv) (hty : ty.isReference = true) (hj : ¬ j < 0 ∧ j < z) (hat : vs.getD j.toNatClampNeg dv = v) {g : JFrame} (hg : g.method = m) {rest : List Value} (hst : g.stack = .int j :: .ref a :: rest) (hd : decode c.code g.pc = .ok (.aaload, 1)) (target : State)
    (hr : Steps p.tables e below (T.setTop { g with pc := g.pc + 1, stack := v :: rest }) target) : Steps p.tables e below (T.setTop g) target := by
  obtain ⟨cl, Ar, -, S, N, H, -⟩ := F
  exact X.aaload hx (by rw [eT]; exact Ar.1) (State.isArrayOf_alike hZ.alike Ar.2.1) hty Ar.2.2 (inb_of S hj) (H.at (inb_of S hj) hat) hg hst hd _ hr
theorem castoreV (X : Stand p l e R s m args below meth c T locs cells slots) (hx : p.tables.exec = Jvm.exec) (hZ : Z.Warmed39 s.vm) (eT : T.heap = h) (F : Arv Z h a k .char z vs dv) {j x : Int32} (hj : ¬ j < 0 ∧ j < z) (hi : j.toNatClampNeg < vs.length) {g : JFrame} (hg : g.method = m) {rest : List Value} (hst : g.stack = .int x :: .int j :: .ref a :: rest) (hd : decode c.code g.pc = .ok (.castore, 1)) :
    ∃ T' h', Stand p l e R s m args below meth c T' (locs ++ [⟨a, j.toNatClampNeg⟩]) cells slots ∧ T'.heap = h' ∧ Wr h h' a j.toNatClampNeg (.int (nar .char x)) ∧ Arv Z h' a k .char z (vs.set j.toNatClampNeg (.int (nar .char x))) dv ∧ ∀ target, Steps p.tables e below (T'.setTop { g with pc := g.pc + 1, stack := rest }) target → Steps p.tables e below (T.setTop g) target := by
  obtain ⟨cl, Ar, q, S, N, H, G⟩ := F
  obtain ⟨T', h', X', e', W, st⟩ := stC X hx hZ eT Ar (j := j) (x := x) (inb_of S hj) hg hst hd
  exact ⟨T', h', X', e', W, Arv.set Ar q S N H G (fits_nar_char _) W _ rfl hi, st⟩
theorem bastoreV (X : Stand p l e R s m args below meth c T locs cells slots) (hx : p.tables.exec = Jvm.exec) (hZ : Z.Warmed39 s.vm) (eT : T.heap = h) (F : Arv Z h a k .byte z vs dv) {j x : Int32} (hj : ¬ j < 0 ∧ j < z) (hi : j.toNatClampNeg < vs.length) {g : JFrame} (hg : g.method = m) {rest : List Value} (hst : g.stack = .int x :: .int j :: .ref a :: rest) (hd : decode c.code g.pc = .ok (.bastore, 1)) :
    ∃ T' h', Stand p l e R s m args below meth c T' (locs ++ [⟨a, j.toNatClampNeg⟩]) cells slots ∧ T'.heap = h' ∧ Wr h h' a j.toNatClampNeg (.int (nar .byte x)) ∧ Arv Z h' a k .byte z (vs.set j.toNatClampNeg (.int (nar .byte x))) dv ∧ ∀ target, Steps p.tables e below (T'.setTop { g with pc := g.pc + 1, stack := rest }) target → Steps p.tables e below (T.setTop g) target := by
  obtain ⟨cl, Ar, q, S, N, H, G⟩ := F
  obtain ⟨T', h', X', e', W, st⟩ := stB X hx hZ eT Ar (j := j) (x := x) (inb_of S hj) hg hst hd
  exact ⟨T', h', X', e', W, Arv.set Ar q S N H G (fits_nar_byte _) W _ rfl hi, st⟩
theorem lastoreV (X : Stand p l e R s m args below meth c T locs cells slots) (hx : p.tables.exec = Jvm.exec) (hZ : Z.Warmed39 s.vm) (eT : T.heap = h) (F : Arv Z h a k .long z vs dv) {j : Int32} {x : Int64} (hj : ¬ j < 0 ∧ j < z) (hi : j.toNatClampNeg < vs.length) {g : JFrame} (hg : g.method = m) {rest : List Value} (hst : g.stack = .long x :: .int j :: .ref a :: rest) (hd : decode c.code g.pc = .ok (.lastore, 1)) :
    ∃ T' h', Stand p l e R s m args below meth c T' (locs ++ [⟨a, j.toNatClampNeg⟩]) cells slots ∧ T'.heap = h' ∧ Wr h h' a j.toNatClampNeg (.long x) ∧ Arv Z h' a k .long z (vs.set j.toNatClampNeg (.long x)) dv ∧ ∀ target, Steps p.tables e below (T'.setTop { g with pc := g.pc + 1, stack := rest }) target → Steps p.tables e below (T.setTop g) target := by
  obtain ⟨cl, Ar, q, S, N, H, G⟩ := F
  obtain ⟨T', h', X', e', W, st⟩ := stJ X hx hZ eT Ar (j := j) (inb_of S hj) hg hst hd
  exact ⟨T', h', X', e', W, Arv.set Ar q S N H G rfl W _ rfl hi, st⟩
end K
end Jvm.OwnKit
namespace Jvm.OwnKit
open Sem ClassFile Op Lib Jvm.Stand Jvm.Free Jvm.LawKit Jvm.RoadKit
/-- the contract of a body that may load String constants: those of EL hold their text before and behind it -/
abbrev ConH (l : Launch) (Z : State) (EL : List (String × Nat)) (y : MethodName) (bytes : ByteArray) (maxL : Nat) (ret : Option FieldType) (ws : List Jvm.Cond) (rm : Room) (as' : Array Value) (h0 : Heap) (Q : Option Value → Heap → List Loc → Prop) : Prop :=
  MetFree l y (head1 (Jvm.Cond.code y bytes maxL ret :: ws) rm) (fun a U => a = as' ∧ Z.Warmed39 U.vm ∧ U.heap = h0 ∧ CHv Z EL U.vm h0) (fun _ _ _ _ _ => True) (fun _ U o U' => ∃ v L, o = .returned v ∧ Q v U'.heap L ∧ CHr Z EL U.vm U.heap U'.vm U'.heap ∧ ReturnedEndW U o U' L rm.cells rm.slots)
abbrev EndH (Z : State) (EL : List (String × Nat)) (s : State) (rm : Room) (Q : Option Value → Heap → List Loc → Prop) : Outcome → State → Prop := fun o t => ∃ v L, o = .returned v ∧ Q v t.heap L ∧ CHr Z EL s.vm s.heap t.vm t.heap ∧ ReturnedEndW s o t L rm.cells rm.slots
section K
variable {p : Program} {l : Launch} {e : Env} {R : Room} {s : State} {m : MethodId} {args : Array Value} {below : List Frame} {meth : Method} {c : Code} {T T' : State} {locs : List Loc} {cells slots : Nat} {Qe : Outcome → State → Prop} {g g' : JFrame} {Z : State} {a0 : Array Value} {h : Heap} {EL : List (String × Nat)} {vm : Vm} {k0 : Nat}
theorem ConH.intro {y : MethodName} {bytes : ByteArray} {maxL : Nat} {ret : Option FieldType} {ws : List Jvm.Cond} {rm : Room} {as' : Array Value} {h0 : Heap} {Q : Option Value → Heap → List Loc → Prop} (hpl : plainFor y = true)
    (body : ∀ (p : Program) (e : Env) (s : State) (m : MethodId) (below : List Frame) (meth : Method) (c : Code) (s₁ : State), p.tables.exec = Jvm.exec → c.code = bytes → c.maxLocals = maxL → s.vm.findClass y.cls = some m.cls →
      meth.sig.returnType = ret → meth.locks = false → Z.Warmed39 s.vm → meth.name = y.name → Stand p l e rm (s.setVm s.vm) m as' below meth c s₁ [] 0 0 → s₁.heap = h0 → s.heap = h0 → s.Since s.vm 0 → CHv Z EL s.vm h0 → CHr Z EL s.vm h0 s.vm h0 → OGo p e below (EndH Z EL s rm Q) s₁ (entryFrame m as' maxL)) :
    ConH l Z EL y bytes maxL ret ws rm as' h0 Q := by
  refine MetFree.of_bodySF hpl hisR ?_
  intro p e s m args below meth c s₁ Bd hml0 hP hK
  obtain ⟨rfl, hZ, hh, hH⟩ := hP
  exact body p e s m below meth c s₁ Bd.exec Bd.bytes hml0 (findClass_of_methodNamed Bd.named) Bd.returns Bd.notSynchronized hZ (name_of_methodNamed Bd.named Bd.method).1 (Stand.of_body Bd) (by rw [← hh, Bd.state]; rfl) hh ((State.WarmedH.refl s).since 0) hH (CHr.refl hH)
theorem OGo.retH {Q : Option Value → Heap → List Loc → Prop} {rm : Room} {h0 : Heap} (X : Stand p l e R (s.setVm vm) m args below meth c T locs cells slots) (hx : p.tables.exec = Jvm.exec) (hZ : Z.Warmed39 vm) (hEL : EW Z a0 EL) (hs0 : s.heap = h0) (eT : T.heap = h) (hS : s.Since vm k0) (hk : k0 ≤ h.size) (H : CHv Z EL vm h) (hR : CHr Z EL s.vm h0 vm h) {pc : Nat} {Ls : Array Slot} {w : Value} {t : FieldType} {i : Instr} {rest : List Value} (hret : meth.sig.returnType = some t) (hlk : meth.locks = false) (hn : narrow t w = w)
    (hi : (i = .ireturn ∧ (t = .int ∨ t = .boolean ∨ t = .byte ∨ t = .char ∨ t = .short) ∧ ∃ z, w = .int z) ∨ (i = .lreturn ∧ t = .long ∧ ∃ z, w = .long z) ∨ (i = .dreturn ∧ t = .double ∧ ∃ z, w = .double z) ∨ (i = .freturn ∧ t = .float ∧ ∃ z, w = .float z) ∨ (i = .areturn ∧ t.isReference = true ∧ w.isRef = true))
    (hd : decode c.code pc = .ok (i, 1)) (hc : cells ≤ rm.cells) (hs : slots ≤ rm.slots) (hQ : Q (some w) h locs) : OGo p e below (EndH Z EL s rm Q) T (mkF m pc Ls (w :: rest)) := by
  subst eT
  obtain ⟨fs, hr, hrun, hended, q1, q2, q3, q4⟩ := X.leaveW hS hk (v := some w) (fun h => by rw [hret] at h; cases h) hlk
  exact ⟨_, _, retOut X hx hret hn hi hd hr, hrun, hended, _, _, rfl, hQ, (by rw [hs0]; have q := hR.trans (CHv.at X hZ hEL H); exact q), q1, q2, q3, q4.mono hc hs⟩
theorem OGo.retHV {Q : Option Value → Heap → List Loc → Prop} {rm : Room} {h0 : Heap} (X : Stand p l e R (s.setVm vm) m args below meth c T locs cells slots) (hx : p.tables.exec = Jvm.exec) (hZ : Z.Warmed39 vm) (hEL : EW Z a0 EL) (hs0 : s.heap = h0) (eT : T.heap = h) (hS : s.Since vm k0) (hk : k0 ≤ h.size) (H : CHv Z EL vm h) (hR : CHr Z EL s.vm h0 vm h) {pc : Nat} {Ls : Array Slot} (hret : meth.sig.returnType = none) (hlk : meth.locks = false)
    (hd : decode c.code pc = .ok (.return_, 1)) (hc : cells ≤ rm.cells) (hs : slots ≤ rm.slots) (hQ : Q none h locs) : OGo p e below (EndH Z EL s rm Q) T (mkF m pc Ls []) := by
  subst eT
  obtain ⟨fs, hr, hrun, hended, q1, q2, q3, q4⟩ := X.leaveW hS hk (v := none) (fun _ => rfl) hlk
  exact ⟨_, _, X.returnOut hx hret hd hr, hrun, hended, _, _, rfl, hQ, (by rw [hs0]; have q := hR.trans (CHv.at X hZ hEL H); exact q), q1, q2, q3, q4.mono hc hs⟩
theorem scallH (X : Stand p l e R (s.setVm vm) m args below meth c T locs cells slots) (hx : p.tables.exec = Jvm.exec) (hZ : Z.Warmed39 vm) {own : String} {index : Nat} {y : MethodName} {bytes : ByteArray} {maxL : Nat} {ret : Option FieldType} (hown : vm.findClass own = some m.cls)
    (hEL : EW Z a0 EL) (hS : s.Since vm k0) (hk : k0 ≤ h.size) (H : CHv Z EL vm h)
    (w1 : (Jvm.Cond.methodLink own index y).before a0 Z = true) (w2 : (Jvm.Cond.static y).before a0 Z = true) (w3 : (Jvm.Cond.initialized y.cls).before a0 Z = true) (w4 : (Jvm.Cond.code y bytes maxL ret).before a0 Z = true) (hy : y.cls ≠ "java/lang/invoke/MethodHandle" ∧ y.cls ≠ "java/lang/invoke/VarHandle")
    {W : Nat} {rm : Room} {as' : Array Value} {Q : Option Value → Heap → List Loc → Prop} (hM : ConH l Z EL y bytes maxL ret [] rm as' h Q) (eT : T.heap = h) (hf : rm.frames + 1 ≤ R.frames) (hl : W + (maxL + 11) + rm.locals ≤ R.locals) (hc : cells + rm.cells ≤ R.cells) (hs : slots + rm.slots ≤ R.slots)
    {g : JFrame} (hg : g.method = m) (hsize : g.locals.size = c.maxLocals) {argsL rest : List Value} {ps : List FieldType} {r : Option FieldType} (hpd : parseMethodDescriptor y.desc = some ⟨ps, r⟩) (hlen : argsL.length = ps.length) (hstack : g.stack = argsL.reverse ++ rest) (has : argsL.toArray = as') (hW : 2 * g.monitorRoom + (rest.map fun v => v.category).sum ≤ W)
    (hdg : decode c.code g.pc = .ok (.invokestatic index, 3)) :
    ∃ (v : Option Value) (T' : State) (L : List Loc) (k1 : Nat), Stand p l e R (s.setVm T'.vm) m args below meth c T' (locs ++ L) (cells + rm.cells) (slots + rm.slots) ∧ s.Since T'.vm k1 ∧ k1 ≤ T'.heap.size ∧ Z.Warmed39 T'.vm ∧ T'.vm.findClass own = some m.cls ∧ CHr Z EL vm h T'.vm T'.heap ∧ Q v T'.heap L ∧
      ∀ target, Steps p.tables e below (T'.setTop { g with pc := g.pc + 3, stack := v.toList ++ rest }) target → Steps p.tables e below (T.setTop g) target := by
  subst eT
  obtain ⟨v, vm₁, ⟨T', L', k', n'⟩, -, X', hS', hgr, ⟨L, hQ, e1, e2, e3, hR⟩, st⟩ := callSS X hx hown (mvT (s := s.setVm vm) hZ w1) (mvT (s := s.setVm vm) hZ w2) (mvT (s := s.setVm vm) hZ w3) (mvT (s := s.setVm vm) hZ w4) hy (backOfSH (s := s) (W := W) hM hZ w4 w3 hf hl hEL H) hg hsize (lenOf hpd hlen) hstack hW hdg (fun _ _ => ⟨has, rfl, hc, hs⟩)
  dsimp only [Pt.U, Pt.locs, Pt.cells, Pt.slots] at X' e1 e2 e3 st hQ hS' hgr hR
  subst e1 e2 e3
  exact ⟨v, T', L, _, X', hS.trans hS' (Nat.le_trans hk hgr), Nat.le_refl _, State.Warmed39.trans (t := s.setVm vm) hZ hS'.1, by rw [hS'.1.alike.findClass]; exact hown, hR, hQ, fun t k => st.trans k⟩
theorem icallH (X : Stand p l e R (s.setVm vm) m args below meth c T locs cells slots) (hx : p.tables.exec = Jvm.exec) (hZ : Z.Warmed39 vm) {own : String} {index : Nat} {y : MethodName} {bytes : ByteArray} {maxL : Nat} (hy1 : y.name = "<init>") (hown : vm.findClass own = some m.cls)
    (hEL : EW Z a0 EL) (hS : s.Since vm k0) (hk : k0 ≤ h.size) (H : CHv Z EL vm h)
    (w1 : (Jvm.Cond.methodLink own index y).before a0 Z = true) (w2 : (Jvm.Cond.instanceMethod y).before a0 Z = true) (w3 : (Jvm.Cond.initialized y.cls).before a0 Z = true) (w4 : (Jvm.Cond.code y bytes maxL none).before a0 Z = true) (hy : y.cls ≠ "java/lang/invoke/MethodHandle" ∧ y.cls ≠ "java/lang/invoke/VarHandle")
    {W : Nat} {rm : Room} {as' : Array Value} {Q : Option Value → Heap → List Loc → Prop} (hM : ConH l Z EL y bytes maxL none [] rm as' h Q) (eT : T.heap = h) (hf : rm.frames + 1 ≤ R.frames) (hl : W + (maxL + 11) + rm.locals ≤ R.locals) (hc : cells + rm.cells ≤ R.cells) (hs : slots + rm.slots ≤ R.slots)
    {g : JFrame} (hg : g.method = m) (hsize : g.locals.size = c.maxLocals) {a : Addr} {argsL rest : List Value} {ps : List FieldType} {r : Option FieldType} (hpd : parseMethodDescriptor y.desc = some ⟨ps, r⟩) (hlen : argsL.length = ps.length) (hstack : g.stack = argsL.reverse ++ .ref a :: rest) (has : (Value.ref a :: argsL).toArray = as') (hW : 2 * g.monitorRoom + (rest.map fun v => v.category).sum ≤ W)
    (hdg : decode c.code g.pc = .ok (.invokespecial index, 3)) :
    ∃ (v : Option Value) (T' : State) (L : List Loc) (k1 : Nat), Stand p l e R (s.setVm T'.vm) m args below meth c T' (locs ++ L) (cells + rm.cells) (slots + rm.slots) ∧ s.Since T'.vm k1 ∧ k1 ≤ T'.heap.size ∧ Z.Warmed39 T'.vm ∧ T'.vm.findClass own = some m.cls ∧ CHr Z EL vm h T'.vm T'.heap ∧ Q v T'.heap L ∧
      ∀ target, Steps p.tables e below (T'.setTop { g with pc := g.pc + 3, stack := v.toList ++ rest }) target → Steps p.tables e below (T.setTop g) target := by
  subst eT
  obtain ⟨v, vm₁, ⟨T', L', k', n'⟩, -, X', hS', hgr, ⟨L, hQ, e1, e2, e3, hR⟩, st⟩ := X.specialBackS hx hy1 hown (mvT (s := s.setVm vm) hZ w1) (mvT (s := s.setVm vm) hZ w2) (mvT (s := s.setVm vm) hZ w4) hy (backOfSH (s := s) (W := W) hM hZ w4 w3 hf hl hEL H) hg hsize (Steps.refl _) (lenOf hpd hlen) hstack hW hdg (fun _ _ => ⟨has, rfl, hc, hs⟩)
  dsimp only [Pt.U, Pt.locs, Pt.cells, Pt.slots] at X' e1 e2 e3 st hQ hS' hgr hR
  subst e1 e2 e3
  exact ⟨v, T', L, _, X', hS.trans hS' (Nat.le_trans hk hgr), Nat.le_refl _, State.Warmed39.trans (t := s.setVm vm) hZ hS'.1, by rw [hS'.1.alike.findClass]; exact hown, hR, hQ, fun t k => st.trans k⟩
theorem vcallH (X : Stand p l e R (s.setVm vm) m args below meth c T locs cells slots) (hx : p.tables.exec = Jvm.exec) (hZ : Z.Warmed39 vm) {own C : String} {index : Nat} {y z : MethodName} {bytes : ByteArray} {maxL : Nat} {ret : Option FieldType} (hown : vm.findClass own = some m.cls)
    (hEL : EW Z a0 EL) (hS : s.Since vm k0) (hk : k0 ≤ h.size) (H : CHv Z EL vm h)
    (w1 : (Jvm.Cond.methodLink own index y).before a0 Z = true) (w2 : (Jvm.Cond.declares y).before a0 Z = true) {C2 : String} {x2 z2 : MethodName} (w7 : (Jvm.Cond.selects C2 x2 z2).before a0 Z = true) (h7 : z2.cls = y.cls) (w5 : (Jvm.Cond.selects C y z).before a0 Z = true) (w6 : (Jvm.Cond.instanceMethod z).before a0 Z = true) (w3 : (Jvm.Cond.initialized z.cls).before a0 Z = true) (w4 : (Jvm.Cond.code z bytes maxL ret).before a0 Z = true) (hy : y.cls ≠ "java/lang/invoke/MethodHandle" ∧ y.cls ≠ "java/lang/invoke/VarHandle")
    {W : Nat} {rm : Room} {as' : Array Value} {Q : Option Value → Heap → List Loc → Prop} (hM : ConH l Z EL z bytes maxL ret [] rm as' h Q) (eT : T.heap = h) (hf : rm.frames + 1 ≤ R.frames) (hl : W + (maxL + 11) + rm.locals ≤ R.locals) (hc : cells + rm.cells ≤ R.cells) (hs : slots + rm.slots ≤ R.slots)
    {g : JFrame} (hg : g.method = m) (hsize : g.locals.size = c.maxLocals) {a : Addr} (E : Exa Z h a C) {argsL rest : List Value} {ps : List FieldType} {r : Option FieldType} (hpd : parseMethodDescriptor y.desc = some ⟨ps, r⟩) (hlen : argsL.length = ps.length) (hstack : g.stack = argsL.reverse ++ .ref a :: rest) (has : (Value.ref a :: argsL).toArray = as') (hW : 2 * g.monitorRoom + (rest.map fun v => v.category).sum ≤ W)
    (hdg : decode c.code g.pc = .ok (.invokevirtual index, 3)) :
    ∃ (v : Option Value) (T' : State) (L : List Loc) (k1 : Nat), Stand p l e R (s.setVm T'.vm) m args below meth c T' (locs ++ L) (cells + rm.cells) (slots + rm.slots) ∧ s.Since T'.vm k1 ∧ k1 ≤ T'.heap.size ∧ Z.Warmed39 T'.vm ∧ T'.vm.findClass own = some m.cls ∧ CHr Z EL vm h T'.vm T'.heap ∧ Q v T'.heap L ∧
      ∀ target, Steps p.tables e below (T'.setTop { g with pc := g.pc + 3, stack := v.toList ++ rest }) target → Steps p.tables e below (T.setTop g) target := by
  subst eT
  obtain ⟨cq, kq, qa, qb, qc⟩ := isOf (s := s.setVm vm) hZ rfl E
  obtain ⟨v, vm₁, ⟨T', L', k', n'⟩, -, X', hS', hgr, ⟨L, hQ, e1, e2, e3, hR⟩, st⟩ := X.virtualBackS hx hown (mvT (s := s.setVm vm) hZ w1) (mvT (s := s.setVm vm) hZ w2) (own_nf (args := #[]) (mvT (s := s.setVm vm) hZ w7) h7) (mvT (s := s.setVm vm) hZ w5) (mvT (s := s.setVm vm) hZ w6) hy (backOfSH (s := s) (W := W) hM hZ w4 w3 hf hl hEL H) qa qc hg hsize (Steps.refl _) (lenOf hpd hlen) hstack hW hdg (fun _ _ => ⟨has, rfl, hc, hs⟩)
  dsimp only [Pt.U, Pt.locs, Pt.cells, Pt.slots] at X' e1 e2 e3 st hQ hS' hgr hR
  subst e1 e2 e3
  exact ⟨v, T', L, _, X', hS.trans hS' (Nat.le_trans hk hgr), Nat.le_refl _, State.Warmed39.trans (t := s.setVm vm) hZ hS'.1, by rw [hS'.1.alike.findClass]; exact hown, hR, hQ, fun t k => st.trans k⟩
/-- a String whose value is null yet is none of the booked constants -/
theorem own_safeNull {x : Addr} (hal : Z.vm.Alike vm) (E : Exa Z h x "java/lang/String") (F : Fld Z h x "java/lang/String" "value" "[B" .null) : Safe Z EL vm h x := fun B => by
  obtain ⟨cell, k, e1, e2, e3, -, -⟩ := E
  obtain ⟨cell', cf, k1, i1, f, g1, g2, -, -, -, -, g7⟩ := F
  cases g1.symm.trans e1
  have nm : ∀ {n : String} {c : ClassId}, vm.findClass n = some c → c = cell.cls → n = "java/lang/String" := fun {n c} f e => by
    subst e
    rw [hal.findClass] at f
    obtain ⟨k1, q1, q2⟩ := Vm.findClass_spec f
    obtain ⟨k2, q3, q4⟩ := Vm.findClass_spec e2
    cases q1.symm.trans q3
    exact q2.symm.trans q4
  obtain ⟨p, -, u, a, -, q, -, S, rfl | rfl⟩ := B
  · cases (show h[q.sa]? = some q.sC from S.ha).symm.trans e1
    obtain ⟨cS, ⟨L1, -⟩, -⟩ := S
    obtain ⟨-, -, -, ⟨c5, k5, i5, ff, -⟩, -, -, -, sv, -⟩ := L1
    obtain ⟨k6, zz⟩ := ff_back (Z := Z) (U := Wst Z vm h) hal ff
    cases zz.symm.trans g2
    rw [sv] at g7
    cases g7
  · cases (show h[q.sd]? = some q.SA from S.hd).symm.trans e1
    obtain ⟨cS, -, -, f, -⟩ := S
    exact absurd (nm f rfl) (by decide)
end K
end Jvm.OwnKit
namespace Jvm.OwnKit
open Sem ClassFile Op Lib Jvm.Stand Jvm.Free Jvm.LawKit Jvm.RoadKit
/-- the contract of a body that may load String constants and fill in a stack trace -/
abbrev ConK (l : Launch) (Z : State) (EL : List (String × Nat)) (y : MethodName) (bytes : ByteArray) (maxL : Nat) (ret : Option FieldType) (ws : List Jvm.Cond) (rm : Room) (as' : Array Value) (h0 : Heap) (Q : Option Value → Heap → List Loc → Prop) : Prop :=
  MetFree l y (head1 (Jvm.Cond.code y bytes maxL ret :: ws) rm) (fun a U => a = as' ∧ Z.Warmed39 U.vm ∧ U.heap = h0 ∧ CHv Z EL U.vm h0) (fun _ _ bl s _ => s.vm.MethodsKnown ∧ s.vm.FramesKnown bl) (fun _ U o U' => ∃ v L, o = .returned v ∧ Q v U'.heap L ∧ CHr Z EL U.vm U.heap U'.vm U'.heap ∧ ReturnedEndW U o U' L rm.cells rm.slots)
section KK
variable {p : Program} {l : Launch} {e : Env} {R : Room} {s : State} {m : MethodId} {args : Array Value} {below : List Frame} {meth : Method} {c : Code} {T T' : State} {locs : List Loc} {cells slots : Nat} {Qe : Outcome → State → Prop} {g g' : JFrame} {Z : State} {a0 : Array Value} {h : Heap} {EL : List (String × Nat)} {vm : Vm} {k0 : Nat}
theorem ConK.intro {y : MethodName} {bytes : ByteArray} {maxL : Nat} {ret : Option FieldType} {ws : List Jvm.Cond} {rm : Room} {as' : Array Value} {h0 : Heap} {Q : Option Value → Heap → List Loc → Prop} (hpl : plainFor y = true)
    (body : ∀ (p : Program) (e : Env) (s : State) (m : MethodId) (below : List Frame) (meth : Method) (c : Code) (s₁ : State), p.tables.exec = Jvm.exec → c.code = bytes → c.maxLocals = maxL → s.vm.findClass y.cls = some m.cls →
      meth.sig.returnType = ret → meth.locks = false → Z.Warmed39 s.vm → meth.name = y.name → Stand p l e rm (s.setVm s.vm) m as' below meth c s₁ [] 0 0 → s₁.heap = h0 → s.heap = h0 → s.Since s.vm 0 → CHv Z EL s.vm h0 → CHr Z EL s.vm h0 s.vm h0 → s.vm.MethodsKnown → s.vm.FramesKnown below → OGo p e below (EndH Z EL s rm Q) s₁ (entryFrame m as' maxL)) :
    ConK l Z EL y bytes maxL ret ws rm as' h0 Q := by
  refine MetFree.of_bodySF hpl hisR ?_
  intro p e s m args below meth c s₁ Bd hml0 hP hK
  obtain ⟨rfl, hZ, hh, hH⟩ := hP
  exact body p e s m below meth c s₁ Bd.exec Bd.bytes hml0 (findClass_of_methodNamed Bd.named) Bd.returns Bd.notSynchronized hZ (name_of_methodNamed Bd.named Bd.method).1 (Stand.of_body Bd) (by rw [← hh, Bd.state]; rfl) hh ((State.WarmedH.refl s).since 0) hH (CHr.refl hH) hK.1 hK.2
theorem scallK (X : Stand p l e R (s.setVm vm) m args below meth c T locs cells slots) (hx : p.tables.exec = Jvm.exec) (hZ : Z.Warmed39 vm) {own : String} {index : Nat} {y : MethodName} {bytes : ByteArray} {maxL : Nat} {ret : Option FieldType} (hown : vm.findClass own = some m.cls)
    (hEL : EW Z a0 EL) (hS : s.Since vm k0) (hk : k0 ≤ h.size) (H : CHv Z EL vm h) (hTK : s.vm.MethodsKnown) (hBl : s.vm.FramesKnown below)
    (w1 : (Jvm.Cond.methodLink own index y).before a0 Z = true) (w2 : (Jvm.Cond.static y).before a0 Z = true) (w3 : (Jvm.Cond.initialized y.cls).before a0 Z = true) (w4 : (Jvm.Cond.code y bytes maxL ret).before a0 Z = true) (hy : y.cls ≠ "java/lang/invoke/MethodHandle" ∧ y.cls ≠ "java/lang/invoke/VarHandle")
    {W : Nat} {rm : Room} {as' : Array Value} {Q : Option Value → Heap → List Loc → Prop} (hM : ConK l Z EL y bytes maxL ret [] rm as' h Q) (eT : T.heap = h) (hf : rm.frames + 1 ≤ R.frames) (hl : W + (maxL + 11) + rm.locals ≤ R.locals) (hc : cells + rm.cells ≤ R.cells) (hs : slots + rm.slots ≤ R.slots)
    {g : JFrame} (hg : g.method = m) (hsize : g.locals.size = c.maxLocals) {argsL rest : List Value} {ps : List FieldType} {r : Option FieldType} (hpd : parseMethodDescriptor y.desc = some ⟨ps, r⟩) (hlen : argsL.length = ps.length) (hstack : g.stack = argsL.reverse ++ rest) (has : argsL.toArray = as') (hW : 2 * g.monitorRoom + (rest.map fun v => v.category).sum ≤ W)
    (hdg : decode c.code g.pc = .ok (.invokestatic index, 3)) :
    ∃ (v : Option Value) (T' : State) (L : List Loc) (k1 : Nat), Stand p l e R (s.setVm T'.vm) m args below meth c T' (locs ++ L) (cells + rm.cells) (slots + rm.slots) ∧ s.Since T'.vm k1 ∧ k1 ≤ T'.heap.size ∧ Z.Warmed39 T'.vm ∧ T'.vm.findClass own = some m.cls ∧ CHr Z EL vm h T'.vm T'.heap ∧ Q v T'.heap L ∧
      ∀ target, Steps p.tables e below (T'.setTop { g with pc := g.pc + 3, stack := v.toList ++ rest }) target → Steps p.tables e below (T.setTop g) target := by
  subst eT
  obtain ⟨v, vm₁, ⟨T', L', k', n'⟩, -, X', hS', hgr, ⟨L, hQ, e1, e2, e3, hR⟩, st⟩ := callSS X hx hown (mvT (s := s.setVm vm) hZ w1) (mvT (s := s.setVm vm) hZ w2) (mvT (s := s.setVm vm) hZ w3) (mvT (s := s.setVm vm) hZ w4) hy (backOfSKH (s := s) (W := W) hM hZ w4 w3 hf hl hEL H (Vm.MethodsKnown.alikeC hS.1.alike hTK) (Vm.FramesKnown.alikeC hS.1.alike hBl)) hg hsize (lenOf hpd hlen) hstack hW hdg (fun _ _ => ⟨has, rfl, hc, hs⟩)
  dsimp only [Pt.U, Pt.locs, Pt.cells, Pt.slots] at X' e1 e2 e3 st hQ hS' hgr hR
  subst e1 e2 e3
  exact ⟨v, T', L, _, X', hS.trans hS' (Nat.le_trans hk hgr), Nat.le_refl _, State.Warmed39.trans (t := s.setVm vm) hZ hS'.1, by rw [hS'.1.alike.findClass]; exact hown, hR, hQ, fun t k => st.trans k⟩
theorem icallK (X : Stand p l e R (s.setVm vm) m args below meth c T locs cells slots) (hx : p.tables.exec = Jvm.exec) (hZ : Z.Warmed39 vm) {own : String} {index : Nat} {y : MethodName} {bytes : ByteArray} {maxL : Nat} (hy1 : y.name = "<init>") (hown : vm.findClass own = some m.cls)
    (hEL : EW Z a0 EL) (hS : s.Since vm k0) (hk : k0 ≤ h.size) (H : CHv Z EL vm h) (hTK : s.vm.MethodsKnown) (hBl : s.vm.FramesKnown below)
    (w1 : (Jvm.Cond.methodLink own index y).before a0 Z = true) (w2 : (Jvm.Cond.instanceMethod y).before a0 Z = true) (w3 : (Jvm.Cond.initialized y.cls).before a0 Z = true) (w4 : (Jvm.Cond.code y bytes maxL none).before a0 Z = true) (hy : y.cls ≠ "java/lang/invoke/MethodHandle" ∧ y.cls ≠ "java/lang/invoke/VarHandle")
    {W : Nat} {rm : Room} {as' : Array Value} {Q : Option Value → Heap → List Loc → Prop} (hM : ConK l Z EL y bytes maxL none [] rm as' h Q) (eT : T.heap = h) (hf : rm.frames + 1 ≤ R.frames) (hl : W + (maxL + 11) + rm.locals ≤ R.locals) (hc : cells + rm.cells ≤ R.cells) (hs : slots + rm.slots ≤ R.slots)
    {g : JFrame} (hg : g.method = m) (hsize : g.locals.size = c.maxLocals) {a : Addr} {argsL rest : List Value} {ps : List FieldType} {r : Option FieldType} (hpd : parseMethodDescriptor y.desc = some ⟨ps, r⟩) (hlen : argsL.length = ps.length) (hstack : g.stack = argsL.reverse ++ .ref a :: rest) (has : (Value.ref a :: argsL).toArray = as') (hW : 2 * g.monitorRoom + (rest.map fun v => v.category).sum ≤ W)
    (hdg : decode c.code g.pc = .ok (.invokespecial index, 3)) :
    ∃ (v : Option Value) (T' : State) (L : List Loc) (k1 : Nat), Stand p l e R (s.setVm T'.vm) m args below meth c T' (locs ++ L) (cells + rm.cells) (slots + rm.slots) ∧ s.Since T'.vm k1 ∧ k1 ≤ T'.heap.size ∧ Z.Warmed39 T'.vm ∧ T'.vm.findClass own = some m.cls ∧ CHr Z EL vm h T'.vm T'.heap ∧ Q v T'.heap L ∧
      ∀ target, Steps p.tables e below (T'.setTop { g with pc := g.pc + 3, stack := v.toList ++ rest }) target → Steps p.tables e below (T.setTop g) target := by
  subst eT
  obtain ⟨v, vm₁, ⟨T', L', k', n'⟩, -, X', hS', hgr, ⟨L, hQ, e1, e2, e3, hR⟩, st⟩ := X.specialBackS hx hy1 hown (mvT (s := s.setVm vm) hZ w1) (mvT (s := s.setVm vm) hZ w2) (mvT (s := s.setVm vm) hZ w4) hy (backOfSKH (s := s) (W := W) hM hZ w4 w3 hf hl hEL H (Vm.MethodsKnown.alikeC hS.1.alike hTK) (Vm.FramesKnown.alikeC hS.1.alike hBl)) hg hsize (Steps.refl _) (lenOf hpd hlen) hstack hW hdg (fun _ _ => ⟨has, rfl, hc, hs⟩)
  dsimp only [Pt.U, Pt.locs, Pt.cells, Pt.slots] at X' e1 e2 e3 st hQ hS' hgr hR
  subst e1 e2 e3
  exact ⟨v, T', L, _, X', hS.trans hS' (Nat.le_trans hk hgr), Nat.le_refl _, State.Warmed39.trans (t := s.setVm vm) hZ hS'.1, by rw [hS'.1.alike.findClass]; exact hown, hR, hQ, fun t k => st.trans k⟩
theorem vcallK (X : Stand p l e R (s.setVm vm) m args below meth c T locs cells slots) (hx : p.tables.exec = Jvm.exec) (hZ : Z.Warmed39 vm) {own C : String} {index : Nat} {y z : MethodName} {bytes : ByteArray} {maxL : Nat} {ret : Option FieldType} (hown : vm.findClass own = some m.cls)
    (hEL : EW Z a0 EL) (hS : s.Since vm k0) (hk : k0 ≤ h.size) (H : CHv Z EL vm h) (hTK : s.vm.MethodsKnown) (hBl : s.vm.FramesKnown below)
    (w1 : (Jvm.Cond.methodLink own index y).before a0 Z = true) (w2 : (Jvm.Cond.declares y).before a0 Z = true) {C2 : String} {x2 z2 : MethodName} (w7 : (Jvm.Cond.selects C2 x2 z2).before a0 Z = true) (h7 : z2.cls = y.cls) (w5 : (Jvm.Cond.selects C y z).before a0 Z = true) (w6 : (Jvm.Cond.instanceMethod z).before a0 Z = true) (w3 : (Jvm.Cond.initialized z.cls).before a0 Z = true) (w4 : (Jvm.Cond.code z bytes maxL ret).before a0 Z = true) (hy : y.cls ≠ "java/lang/invoke/MethodHandle" ∧ y.cls ≠ "java/lang/invoke/VarHandle")
    {W : Nat} {rm : Room} {as' : Array Value} {Q : Option Value → Heap → List Loc → Prop} (hM : ConK l Z EL z bytes maxL ret [] rm as' h Q) (eT : T.heap = h) (hf : rm.frames + 1 ≤ R.frames) (hl : W + (maxL + 11) + rm.locals ≤ R.locals) (hc : cells + rm.cells ≤ R.cells) (hs : slots + rm.slots ≤ R.slots)
    {g : JFrame} (hg : g.method = m) (hsize : g.locals.size = c.maxLocals) {a : Addr} (E : Exa Z h a C) {argsL rest : List Value} {ps : List FieldType} {r : Option FieldType} (hpd : parseMethodDescriptor y.desc = some ⟨ps, r⟩) (hlen : argsL.length = ps.length) (hstack : g.stack = argsL.reverse ++ .ref a :: rest) (has : (Value.ref a :: argsL).toArray = as') (hW : 2 * g.monitorRoom + (rest.map fun v => v.category).sum ≤ W)
    (hdg : decode c.code g.pc = .ok (.invokevirtual index, 3)) :
    ∃ (v : Option Value) (T' : State) (L : List Loc) (k1 : Nat), Stand p l e R (s.setVm T'.vm) m args below meth c T' (locs ++ L) (cells + rm.cells) (slots + rm.slots) ∧ s.Since T'.vm k1 ∧ k1 ≤ T'.heap.size ∧ Z.Warmed39 T'.vm ∧ T'.vm.findClass own = some m.cls ∧ CHr Z EL vm h T'.vm T'.heap ∧ Q v T'.heap L ∧
      ∀ target, Steps p.tables e below (T'.setTop { g with pc := g.pc + 3, stack := v.toList ++ rest }) target → Steps p.tables e below (T.setTop g) target := by
  subst eT
  obtain ⟨cq, kq, qa, qb, qc⟩ := isOf (s := s.setVm vm) hZ rfl E
  obtain ⟨v, vm₁, ⟨T', L', k', n'⟩, -, X', hS', hgr, ⟨L, hQ, e1, e2, e3, hR⟩, st⟩ := X.virtualBackS hx hown (mvT (s := s.setVm vm) hZ w1) (mvT (s := s.setVm vm) hZ w2) (own_nf (args := #[]) (mvT (s := s.setVm vm) hZ w7) h7) (mvT (s := s.setVm vm) hZ w5) (mvT (s := s.setVm vm) hZ w6) hy (backOfSKH (s := s) (W := W) hM hZ w4 w3 hf hl hEL H (Vm.MethodsKnown.alikeC hS.1.alike hTK) (Vm.FramesKnown.alikeC hS.1.alike hBl)) qa qc hg hsize (Steps.refl _) (lenOf hpd hlen) hstack hW hdg (fun _ _ => ⟨has, rfl, hc, hs⟩)
  dsimp only [Pt.U, Pt.locs, Pt.cells, Pt.slots] at X' e1 e2 e3 st hQ hS' hgr hR
  subst e1 e2 e3
  exact ⟨v, T', L, _, X', hS.trans hS' (Nat.le_trans hk hgr), Nat.le_refl _, State.Warmed39.trans (t := s.setVm vm) hZ hS'.1, by rw [hS'.1.alike.findClass]; exact hown, hR, hQ, fun t k => st.trans k⟩
end KK
end Jvm.OwnKit
namespace Jvm.OwnKit
open Sem ClassFile Op Lib Bundle Jvm.Stand Jvm.Free Jvm.Free.Exc Jvm.LawKit Jvm.RoadKit LibCode.Throwable
/-- the words on Throwable that the sheet bears: its fields laid in the class rc -/
def own_thrAtoms (rc : String) : List Cond :=
  [.initialized tN, .superclass tN "java/lang/Object", .instanceMethod tFill, .codeSync tFill Fill.code 1 (some (.object tN)), .instanceMethod tFill0, .native tFill0, .instanceMethod tInit0, .code tInit0 Init0.code 1 none,
   .instanceMethod oInit, .code oInit ⟨#[0xb1]⟩ 1 none, .methodLink tN 1 oInit, .methodLink tN 27 tFill, .methodLink tN 202 tFill0,
   .fieldLink tN 7 tN "cause" thD, .lays rc tN "cause" thD, .fieldLink tN 17 tN "stackTrace" steD, .lays rc tN "stackTrace" steD, .fieldLink tN 24 tN "suppressedExceptions" listD, .lays rc tN "suppressedExceptions" listD,
   .fieldLink tN 13 tN "UNASSIGNED_STACK" steD, .laysStatic tN "UNASSIGNED_STACK" steD, .fieldLink tN 20 tN "SUPPRESSED_SENTINEL" listD, .laysStatic tN "SUPPRESSED_SENTINEL" listD,
   .fieldLink tN 31 tN "detailMessage" msgD, .lays rc tN "detailMessage" msgD]
/-- two fields laid in one class and named apart have slots apart -/
theorem own_apart {args : Array Value} {s : State} {rc O n1 d1 n2 d2 : String} {c1 c2 i1 i2 : Nat} {k1 k2 : Class} {f1 f2 : Field} (w1 : (Cond.lays rc O n1 d1).before args s = true) (w2 : (Cond.lays rc O n2 d2).before args s = true) (e1 : s.fieldFound? O n1 d1 = some (c1, k1, i1, f1)) (e2 : s.fieldFound? O n2 d2 = some (c2, k2, i2, f2)) (hn : f1.name ≠ f2.name) : f1.slot ≠ f2.slot := fun he => by
  obtain ⟨c, -, _, _, _, g1, hc, -, x1, -, -, -, -, d1, y1, -, z1, -⟩ := Cond.lays_spec w1
  obtain ⟨c', -, _, _, _, g2, hc', -, x2, -, -, -, -, d2, y2, -, z2, -⟩ := Cond.lays_spec w2
  cases x1.symm.trans e1
  cases x2.symm.trans e2
  cases hc.symm.trans hc'
  rw [he] at y1
  cases y1.symm.trans y2
  exact hn (z1.symm.trans z2)
theorem own_nopar {y : MethodName} {ps : List FieldType} {sig : MethodDescriptor} (h : parseMethodDescriptor y.desc = some sig) (q : (parseMethodDescriptor y.desc).map (·.parameters) = some ps) : sig.parameters = ps := by
  rw [h] at q; simpa using q
theorem own_thr {args : Array Value} {s : State} {pl : Platform} {rc : String} (howns : pl.frameOwnsMonitors = true) (hfin : pl.finalization = false) (hpl : pl.magicAccessors = ({} : Platform).magicAccessors) (w : ∀ d ∈ own_thrAtoms rc, d.before args s = true) :
    ∃ T : ThrowableC, T.Links pl s ∧ s.vm.findClass tN = some T.cT ∧ s.methodNamed? tFill = some T.fill ∧ s.methodNamed? tFill0 = some T.fill0 ∧ s.fieldFound? tN "stackTrace" steD = some (T.cT, T.kT, T.i17, T.fStack) ∧ T.fStack.type = .array (.object "java/lang/StackTraceElement") ∧ T.fStack.name = "stackTrace" ∧ s.fieldFound? tN "UNASSIGNED_STACK" steD = some (T.cT, T.kT, T.i13, T.fUnassigned) := by
  -- the fields
  have wcl := w (.lays rc tN "cause" thD) (by simp [own_thrAtoms])
  have wsl := w (.lays rc tN "stackTrace" steD) (by simp [own_thrAtoms])
  have wpl := w (.lays rc tN "suppressedExceptions" listD) (by simp [own_thrAtoms])
  have wml := w (.lays rc tN "detailMessage" msgD) (by simp [own_thrAtoms])
  obtain ⟨mf, xf, nf, of, -⟩ := Cond.native_spec (w (.native tFill0) (by simp [own_thrAtoms]))
  obtain ⟨kt, hkt, hname⟩ := Vm.findClass_spec (findClass_of_methodNamed nf)
  obtain ⟨cT, i0⟩ := mf
  have hc : s.vm.findClass tN = some cT := findClass_of_methodNamed nf
  obtain ⟨ci7, i7, f7, l7, r7, a7, s7, n7, nm7, -, ff7⟩ := Cond.ownField (t := .object tN) hc hkt (by decide +kernel) (w (.fieldLink tN 7 tN "cause" thD) (by simp [own_thrAtoms])) wcl pl hpl
  obtain ⟨ci17, i17, f17, l17, r17, a17, s17, n17, nm17, ty17, ff17⟩ := Cond.ownField (t := .array (.object "java/lang/StackTraceElement")) hc hkt (by decide +kernel) (w (.fieldLink tN 17 tN "stackTrace" steD) (by simp [own_thrAtoms])) wsl pl hpl
  obtain ⟨ci24, i24, f24, l24, r24, a24, s24, n24, nm24, -, ff24⟩ := Cond.ownField (t := .object "java/util/List") hc hkt (by decide +kernel) (w (.fieldLink tN 24 tN "suppressedExceptions" listD) (by simp [own_thrAtoms])) wpl pl hpl
  obtain ⟨ci31, i31, f31, -, -, a31, s31, n31, -, -, ff31⟩ := Cond.ownField (t := .object "java/lang/String") hc hkt (by decide +kernel) (w (.fieldLink tN 31 tN "detailMessage" msgD) (by simp [own_thrAtoms])) wml pl hpl
  obtain ⟨ci13, i13, f13, aS, -, l13, r13, a13, s13, -, -, hst, -, -, -, -, ff13⟩ := Cond.ownStatic (t := .array (.object "java/lang/StackTraceElement")) hc hkt (by decide +kernel) (w (.fieldLink tN 13 tN "UNASSIGNED_STACK" steD) (by simp [own_thrAtoms])) (w (.laysStatic tN "UNASSIGNED_STACK" steD) (by simp [own_thrAtoms])) pl hpl
  obtain ⟨ci20, i20, f20, -, -, l20, r20, a20, s20, -⟩ := Cond.ownStatic (t := .object "java/util/List") hc hkt (by decide +kernel) (w (.fieldLink tN 20 tN "SUPPRESSED_SENTINEL" listD) (by simp [own_thrAtoms])) (w (.laysStatic tN "SUPPRESSED_SENTINEL" listD) (by simp [own_thrAtoms])) pl hpl
  have hap := own_apart wsl wpl ff17 ff24 (by rw [nm17, nm24]; decide)
  -- the methods
  have hi := Cond.initialized_spec hc hkt (w (.initialized tN) (by simp [own_thrAtoms]))
  have hni : kt.isInterface = false := by
    obtain ⟨_, k', _, -, hk', -, -, -, -, q⟩ := Cond.superclass_spec hc (w (.superclass tN "java/lang/Object") (by simp [own_thrAtoms]))
    cases hk'.symm.trans hkt; exact q
  obtain ⟨jF, xF, nF, oF, aF, sF, bF, -, -⟩ := Cond.ownMethod (x := tFill) hc hkt (w (.instanceMethod tFill) (by simp [own_thrAtoms]))
  obtain ⟨yF, cF, oF', kF, tF, mF, rF, lF, -, gF⟩ := Cond.codeSync_spec nF (w (.codeSync tFill Fill.code 1 (some (.object tN))) (by simp [own_thrAtoms]))
  cases oF'.symm.trans oF
  obtain ⟨jN, xN, nN, oN, aN, sN, bN, mN, dN⟩ := Cond.ownMethod (x := tFill0) hc hkt (w (.instanceMethod tFill0) (by simp [own_thrAtoms]))
  obtain ⟨mN', xN', nN', oN', natN, codN, lkN, gN⟩ := Cond.native_spec (w (.native tFill0) (by simp [own_thrAtoms]))
  cases nN'.symm.trans nN
  cases oN'.symm.trans oN
  obtain ⟨jI, xI, nI, oI', aI, -⟩ := Cond.ownMethod (x := tInit0) hc hkt (w (.instanceMethod tInit0) (by simp [own_thrAtoms]))
  obtain ⟨yI, cI, oI'', kI, -⟩ := Cond.code_spec nI (w (.code tInit0 Init0.code 1 none) (by simp [own_thrAtoms]))
  cases oI''.symm.trans oI'
  obtain ⟨mO, xO, nO, oO, sO, bO⟩ := Cond.instanceMethod_spec (w (.instanceMethod oInit) (by simp [own_thrAtoms]))
  obtain ⟨yO, cO, oO', kO, tO, -, -, lO, -, gO⟩ := Cond.code_spec nO (w (.code oInit ⟨#[0xb1]⟩ 1 none) (by simp [own_thrAtoms]))
  cases oO'.symm.trans oO
  obtain ⟨kObj, hkObj, hnObj⟩ := Vm.findClass_spec (findClass_of_methodNamed nO)
  obtain ⟨mnO, mdO⟩ := name_of_methodNamed nO oO
  obtain ⟨c1, p1, cf, u1, v1, hcf, q1⟩ := Cond.linkedMethod hc hkt nO (w (.methodLink tN 1 oInit) (by simp [own_thrAtoms])) pl hpl
  obtain ⟨c27, p27, cf2, u27, v27, hcf2, q27⟩ := Cond.linkedMethod hc hkt nF (w (.methodLink tN 27 tFill) (by simp [own_thrAtoms])) pl hpl
  cases hcf2.symm.trans hcf
  obtain ⟨c202, p202, cf3, u202, v202, hcf3, q202⟩ := Cond.linkedMethod hc hkt nN (w (.methodLink tN 202 tFill0) (by simp [own_thrAtoms])) pl hpl
  cases hcf3.symm.trans hcf
  let T : ThrowableC := { cT := cT, kT := kt, cO := cT, aS := aS, fillIdx := jF, fill0Idx := jN, initSIdx := jI, obj := mO, kObj := kObj, methFill := xF, methFill0 := xN, methInitS := xI, methObj := xO, codeFill := cF, codeInitS := cI, codeObj := cO, fBack := f7, fDepth := f7, fStack := f17, fCause := f7, fSupp := f24, fMsg := f31, fUnassigned := f13, fSentinel := f20, cfT := cf, ci1 := c1, n1 := p1, ci27 := c27, n27 := p27, ci202 := c202, n202 := p202, ci7 := ci7, i7 := i7, ci13 := ci13, i13 := i13, ci17 := ci17, i17 := i17, ci20 := ci20, i20 := i20, ci24 := ci24, i24 := i24 }
  refine ⟨T, ?_, hc, nF, nN, ff17, ty17, nm17, ff13⟩
  have hpO : xO.sig.parameters = [] := own_nopar gO (by decide +kernel)
  constructor
  case fillParams => exact own_nopar gF (by decide +kernel)
  case fill0Params => exact own_nopar gN (by decide +kernel)
  case objParams => show xO.sig.parameters.length = 0; rw [hpO]; rfl
  case objFound => show lookupSpecial s.vm mO.cls "<init>" xO.desc = _; rw [mdO]; exact lookupSpecial_of_named nO oO sO
  case boot => exact Vm.findClass_boot hc hkt
  all_goals assumption
def own_fillAtoms (rc : String) : List Cond := own_thrAtoms rc ++ [.declares tFill, .selects rc tFill0 tFill0, .selects rc tFill tFill, .fieldLink tN 198 tN "backtrace" obD, .lays rc tN "backtrace" obD, .arrayOver (.object "java/lang/Object"), .soleField tN "backtrace", .soleField tN "depth", .lays rc tN "depth" "I"]
/-- fillInStackTrace, called on an object of the class rc whose backtrace is null yet -/
theorem own_fill {p : Program} {l : Launch} {e : Env} {R : Room} {s : State} {m : MethodId} {args : Array Value} {below : List Frame} {meth : Method} {c : Code} {T : State} {locs : List Loc} {cells slots : Nat}
    (X : Stand p l e R s m args below meth c T locs cells slots) (hexec : p.tables.exec = Jvm.exec) (hl : l.stackTraces = true) (hown : s.vm.findClass tN = some m.cls) {rc : String} (W : ∀ d ∈ own_fillAtoms rc, d.before args s = true) (hTK : s.vm.MethodsKnown) (hBelow : s.vm.FramesKnown below)
    {a : Addr} {cell : Cell} {kX : Class} (hcell : T.heap[a]? = some cell) (hfound : s.vm.findClass rc = some cell.cls) (hk : s.vm.classes[cell.cls]? = some kX) (hord : kX.kind = .ordinary) (hsz : cell.slots.size = kX.instanceTypes.size) (hvm : cell.vm = .none) (hmon : cell.monitor = {}) {u0 : RefV}
    (hst : ∀ c k i f, s.fieldFound? tN "stackTrace" steD = some (c, k, i, f) → cell.slots[f.slot]? = some u0.v) (hbk : ∀ c k i f, s.fieldFound? tN "backtrace" obD = some (c, k, i, f) → cell.slots[f.slot]? = some .null)
    (hun : ∀ (c : ClassId) (k : Class) (i : Nat) (f : Field) (st : Addr), s.fieldFound? tN "UNASSIGNED_STACK" steD = some (c, k, i, f) → k.statics = some st → ∃ cS : Cell, T.heap[st]? = some cS ∧ cS.vm.isStatics = true ∧ cS.vm ≠ .unknown ∧ cS.slots[f.slot]? = some u0.v)
    {g : JFrame} (hg : g.method = m) (hsize : g.locals.size = c.maxLocals) {rest : List Value} (hs : g.stack = .ref a :: rest) (hd : decode c.code g.pc = .ok (.invokevirtual 27, 3)) (hf : 3 ≤ R.frames) {w : Nat} (hw : 2 * g.monitorRoom + (rest.map fun v => v.category).sum ≤ w) (hlo : w + 42 ≤ R.locals) (hc : cells + 1 ≤ R.cells) (hsl : slots + 2752 ≤ R.slots) :
    ∃ (T' : State) (C : Cell) (fb fd fs : Field) (c1 c2 c3 i1 i2 i3 : Nat) (k1 k2 k3 : Class), s.fieldFound? tN "backtrace" obD = some (c1, k1, i1, fb) ∧ s.fieldFound? tN "depth" "I" = some (c2, k2, i2, fd) ∧ s.fieldFound? tN "stackTrace" steD = some (c3, k3, i3, fs) ∧
      Stand p l e R s m args below meth c T' (locs ++ [⟨a, fb.slot⟩, ⟨a, fd.slot⟩, ⟨a, fs.slot⟩]) (cells + 1) (slots + 2752) ∧ T'.heap[a]? = some C ∧ C.cls = cell.cls ∧ C.vm = cell.vm ∧ C.slots.size = cell.slots.size ∧ (∀ i, i ≠ fb.slot → i ≠ fd.slot → i ≠ fs.slot → C.slots[i]? = cell.slots[i]?) ∧
      ∀ target, Steps p.tables e below (T'.setTop { g with pc := g.pc + 3, stack := .ref a :: rest }) target → Steps p.tables e below (T.setTop g) target := by
  have htr : e.platform.stackTraces = true := by rw [X.admits.platform]; exact hl
  have hpl : e.platform.magicAccessors = ({} : Platform).magicAccessors := by rw [X.admits.platform]
  have V : ∀ d ∈ own_thrAtoms rc, d.before args s = true := fun d q => W d (List.mem_append_left _ q)
  obtain ⟨Th, L, hT, nF, nN, ff17, ty17, nm17, ff13⟩ := own_thr (pl := e.platform) (by rw [X.admits.platform]) (by rw [X.admits.platform]) hpl V
  obtain ⟨cS, hcS, isS, unS, hvU⟩ := hun _ _ _ _ _ ff13 L.statics
  have hsel0 : selectMethod e.platform s.vm cell.cls Th.fill0 = .method Th.fill0 := by
    obtain ⟨c2, r2, m2, q1, q2, q3, q4, -⟩ := Cond.selects_spec (W (.selects rc tFill0 tFill0) (by simp [own_fillAtoms]))
    cases q1.symm.trans hfound
    cases q2.symm.trans (State.methodFound?_of_named nN (by decide))
    cases q3.symm.trans nN
    rw [Launch.admits_selectMethod X.admits]; exact q4
  have hneS : Th.aS ≠ a := fun q => by
    rw [q, hcell] at hcS; cases hcS; rw [hvm] at isS; cases isS
  have wD := W (.lays rc tN "depth" "I") (by simp [own_fillAtoms])
  obtain ⟨ci198, i198, fB, l198, r198, a198, sB, -, nmB, tyB, ffB⟩ := Cond.ownField (t := .object "java/lang/Object") hT L.cls (by decide +kernel) (W (.fieldLink tN 198 tN "backtrace" obD) (by simp [own_fillAtoms])) (W (.lays rc tN "backtrace" obD) (by simp [own_fillAtoms])) e.platform hpl
  obtain ⟨_, _, cD, kD, iD, fD, -, -, ffD, sD, -⟩ := Cond.lays_spec wD
  cases (Cond.lays_declared wD ffD).symm.trans hT
  obtain ⟨hkD, atD⟩ := State.fieldFound?_spec ffD
  cases hkD.symm.trans L.cls
  obtain ⟨nmD, tyD⟩ := State.fieldFound?_type ffD (t := .int) (by decide +kernel)
  have hfb := Cond.soleField_find hT L.cls (W (.soleField tN "backtrace") (by simp [own_fillAtoms])) a198 nmB sB
  have hfd := Cond.soleField_find hT L.cls (W (.soleField tN "depth") (by simp [own_fillAtoms])) atD nmD sD
  obtain ⟨comp, cO, kO, -, -, hkO, hkindO, hO⟩ := Cond.arrayOver_spec (W (.arrayOver (.object "java/lang/Object")) (by simp [own_fillAtoms]))
  obtain ⟨zS, -⟩ := Cond.laysAt hfound hk ff17 (V (.lays rc tN "stackTrace" steD) (by simp [own_thrAtoms]))
  obtain ⟨zB, -⟩ := Cond.laysAt hfound hk ffB (W (.lays rc tN "backtrace" obD) (by simp [own_fillAtoms]))
  obtain ⟨zD, -⟩ := Cond.laysAt hfound hk ffD wD
  have tk : ∀ {f : Field} {v : Value}, kX.instanceTypes[f.slot]? = some f.type → fits f.type v = true → Jvm.Takes s cell f v := fun {f v} h1 h2 => by
    obtain ⟨q1, q2⟩ := Takes.of_laid (v := v) hk hord h1 h2
    exact ⟨by rw [hsz]; simpa using q1, by rw [hvm]; exact q2⟩
  have hSE := W (.selects rc tFill tFill) (by simp [own_fillAtoms])
  obtain ⟨v6, vm6, ⟨T6, L6, c6, n6⟩, -, X6, ⟨hv6, C6, n, hn, hD6, q1, q2, q3, q4, hL6, hc6, hn6⟩, come⟩ := X.virtualBack hexec (own := tN) (C := rc) (index := 27) (y := tFill) (z := tFill) hown (V (.methodLink tN 27 tFill) (by simp [own_thrAtoms])) (W (.declares tFill) (by simp [own_fillAtoms])) (notFace_of_selects hSE) hSE (V (.instanceMethod tFill) (by simp [own_thrAtoms])) (by decide)
    (fillPaysAny (l := l) (W := w) hexec htr Th L nF (u0 := u0) (self := a) (cell := cell) (cellS := cS) (fun _ => by rw [hvm]; simp) (by rw [hvm]; simp) (by rw [hmon]) (by rw [hmon]) (hst _ _ _ _ ff17) hsel0 hneS unS hvU (tk zS (by rw [ty17]; exact fits_refV_array _ u0))
      ⟨{ ci198 := ci198, i198 := i198, fBack := fB }, ⟨l198, r198, a198, sB⟩, hbk _ _ _ _ ffB⟩ hTK hBelow hT hO hkO hkindO hfb hfd (fun x => tk zB (by rw [tyB]; rfl)) (fun x => tk zD (by rw [tyD]; rfl)) (by omega) hlo)
    (b := a) (cB := cell.cls) hfound ⟨cell, hcell, rfl, by rw [hvm]; rfl⟩ (g := g) hg hsize (Steps.refl _) (argsL := []) (rest := rest)
    (fun sig h => by rw [show parseMethodDescriptor tFill.desc = some ⟨[], some (.object tN)⟩ from by decide +kernel] at h; rw [← Option.some.inj h]; rfl) hs hw hd
    (fun vmx hWx => ⟨rfl, hc, hsl, hcell, hcS⟩)
  dsimp only [Pt.U, Pt.locs, Pt.cells, Pt.slots] at X6 hD6 hL6 hc6 hn6 come
  subst hv6 hL6 hc6 hn6
  exact ⟨T6, C6, fB, fD, Th.fStack, _, _, _, _, _, _, _, _, _, ffB, ffD, ff17, X6.more (Nat.le_refl _) (Nat.add_le_add_left hn _), hD6, q1, q2, q3, q4, fun t k => come.trans k⟩
theorem own_keepS {s T : State} {locs : List Loc} {cells slots : Nat} {a : Addr} (S : s.sameButNew (T.setVm s.vm) locs cells slots) (hb : ∀ x ∈ locs, x.base = a) : Keep s.heap T.heap [a] := by
  obtain ⟨-, h1, -, -, -, h2⟩ := S
  refine ⟨h1, fun x c q hx => ?_, fun x c q => ?_⟩
  · obtain ⟨c', g1, g2, -, g4⟩ := h2 x c q
    have e : c'.slots = c.slots := Array.ext_getElem? fun i => g4 i fun hm => hx (List.mem_singleton.mpr (hb _ hm))
    rw [e] at g2
    rw [show T.heap[x]? = some c' from g1, g2]
  · obtain ⟨c', g1, g2, g3, -⟩ := h2 x c q
    exact ⟨c', g1, by rw [g2], by rw [g2], g3⟩
theorem own_untS {s T : State} {locs : List Loc} {cells slots : Nat} {a : Addr} (S : s.sameButNew (T.setVm s.vm) locs cells slots) (N : Unt s.heap a) : Unt T.heap a := by
  obtain ⟨-, -, -, -, -, h2⟩ := S
  obtain ⟨c, q1, q2, q3⟩ := N
  obtain ⟨c', g1, g2, -, -⟩ := h2 a c q1
  exact ⟨c', g1, by rw [g2]; exact q2, by rw [g2]; exact q3⟩
theorem own_slot {Z s : State} {h : Heap} {a : Addr} {cell : Cell} {C n d : String} {v : Value} (hal : Z.vm.Alike s.vm) (hc : h[a]? = some cell) (F : Fld Z h a C n d v) : ∀ c k i f, s.fieldFound? C n d = some (c, k, i, f) → cell.slots[f.slot]? = some v := fun c k i f q => by
  obtain ⟨cell', cf, k', i', f', h1, h2, -, -, -, -, h7⟩ := F
  cases h1.symm.trans hc
  obtain ⟨k2, z⟩ := ff_back (Z := Z) (U := s) hal q
  cases z.symm.trans h2
  exact h7
theorem own_sta {Z s : State} {h : Heap} {C n d : String} {v : Value} (hZ : Z.Warmed39 s.vm) (F : Sta Z h C n d v) : ∀ (c : ClassId) (k : Class) (i : Nat) (f : Field) (st : Addr), s.fieldFound? C n d = some (c, k, i, f) → k.statics = some st → ∃ cS : Cell, h[st]? = some cS ∧ cS.vm.isStatics = true ∧ cS.vm ≠ .unknown ∧ cS.slots[f.slot]? = some v := fun c k i f st q hs => by
  obtain ⟨cf, i', k', f', st', cell, g1, g2, g3, g4, g5, g6, g7⟩ := F
  obtain ⟨k2, z⟩ := ff_back (Z := Z) (U := s) hZ.alike q
  cases z.symm.trans g1
  have e : st = st' := by
    have a1 := (State.fieldFound?_spec q).1
    have a2 := (State.fieldFound?_spec g1).1
    obtain ⟨k3, b1, b2⟩ := hZ.alike.2.2 _ _ a2
    cases b1.symm.trans a1
    have e2 : k'.statics = some st := by rw [← hs, b2]
    exact Option.some.inj (e2.symm.trans g4)
  subst e
  exact ⟨cell, g5, g6, fun q => (by rw [q] at g6; cases g6), g7⟩
theorem own_b0 {a : Addr} : ∀ x ∈ ([] : List Loc), x.base = a := fun _ q => nomatch q
theorem own_b1 {a : Addr} {sl : Nat} {locs : List Loc} (h : ∀ x ∈ locs, x.base = a) : ∀ x ∈ locs ++ [(⟨a, sl⟩ : Loc)], x.base = a := fun x q => (List.mem_append.mp q).elim (h x) fun z => by cases List.mem_singleton.mp z; rfl
theorem own_frb {n0 : Nat} {a : Addr} {locs : List Loc} (h : ∀ x ∈ locs, x.base = a) (q : n0 ≤ a) : Fr n0 locs := fun y hy => by rw [h y hy]; exact q
theorem own_slotne {args : Array Value} {s : State} {rc O n1 d1 n2 d2 : String} {c1 c2 i1 i2 : Nat} {k1 k2 : Class} {f1 f2 : Field} {t1 t2 : FieldType} (w1 : (Cond.lays rc O n1 d1).before args s = true) (w2 : (Cond.lays rc O n2 d2).before args s = true) (e1 : s.fieldFound? O n1 d1 = some (c1, k1, i1, f1)) (e2 : s.fieldFound? O n2 d2 = some (c2, k2, i2, f2)) (p1 : parseFieldDescriptor d1 = some t1) (p2 : parseFieldDescriptor d2 = some t2) (hn : n1 ≠ n2) : f1.slot ≠ f2.slot :=
  own_apart w1 w2 e1 e2 (by rw [(State.fieldFound?_type e1 p1).1, (State.fieldFound?_type e2 p2).1]; exact hn)
/-- fillInStackTrace in terms of the walk's facts: its places have base a, cause and message stay -/
theorem own_fillF {p : Program} {l : Launch} {e : Env} {R : Room} {s : State} {m : MethodId} {args : Array Value} {below : List Frame} {meth : Method} {c : Code} {T : State} {locs : List Loc} {cells slots : Nat} {Z : State} {a0 : Array Value} {h h0 : Heap}
    (X : Stand p l e R s m args below meth c T locs cells slots) (hx : p.tables.exec = Jvm.exec) (hl : l.stackTraces = true) (hZ : Z.Warmed39 s.vm) (hown : s.vm.findClass tN = some m.cls) {rc : String} {nn : Nat} (W : ∀ d ∈ own_fillAtoms rc, d.before a0 Z = true) (wi : (Cond.instantiable rc nn).before a0 Z = true) (hT0 : ThS Z h0) (hTK : s.vm.MethodsKnown) (hBl : s.vm.FramesKnown below)
    (hs0 : s.heap = h0) (eT : T.heap = h) {a : Addr} (hb : ∀ x ∈ locs, x.base = a) (E0 : Exa Z h0 a rc) (N0 : Unt h0 a) (N : Unt h a) {u0 : RefV} {v3 v4 : Value} (F1 : Fld Z h a tN "stackTrace" steD u0.v) (F2 : Fld Z h a tN "backtrace" obD .null) (F3 : Fld Z h a tN "cause" thD v3) (F4 : Fld Z h a tN "detailMessage" msgD v4) (S : Sta Z h tN "UNASSIGNED_STACK" steD u0.v) (E : Exa Z h a rc)
    {g : JFrame} (hg : g.method = m) (hsize : g.locals.size = c.maxLocals) {rest : List Value} (hs : g.stack = .ref a :: rest) (hd : decode c.code g.pc = .ok (.invokevirtual 27, 3)) (hf : 3 ≤ R.frames) {w : Nat} (hw : 2 * g.monitorRoom + (rest.map fun v => v.category).sum ≤ w) (hlo : w + 42 ≤ R.locals) (hc : cells + 1 ≤ R.cells) (hsl : slots + 2752 ≤ R.slots) :
    ∃ (T' : State) (L : List Loc), Stand p l e R s m args below meth c T' (locs ++ L) (cells + 1) (slots + 2752) ∧ (∀ x ∈ locs ++ L, x.base = a) ∧ Keep h0 T'.heap [a] ∧ Unt T'.heap a ∧ Exa Z T'.heap a rc ∧ Fld Z T'.heap a tN "cause" thD v3 ∧ Fld Z T'.heap a tN "detailMessage" msgD v4 ∧
      ∀ target, Steps p.tables e below (T'.setTop { g with pc := g.pc + 3, stack := .ref a :: rest }) target → Steps p.tables e below (T.setTop g) target := by
  subst eT hs0
  obtain ⟨cell, hcell, hvm, hmon⟩ := N
  obtain ⟨cell', k, e1, e2, e3, e4, e5⟩ := E
  cases e1.symm.trans hcell
  obtain ⟨c2, k2, i1, i2, i3, -⟩ := Cond.instantiable_spec wi
  cases e2.symm.trans i1
  cases e3.symm.trans i2
  obtain ⟨kX, hk, ek⟩ := hZ.alike.2.2 _ _ e3
  have W' : ∀ d ∈ own_fillAtoms rc, d.before args s = true := fun d q => mvX hT0 hZ (List.all_eq_true.mp (show (own_fillAtoms rc).all xOk = true from rfl) d q) (W d q)
  obtain ⟨T', C, fb, fd, fs, c1, c2, c3, i1, i2, i3', k1, k2, k3, f1, f2, f3, X', hC, q1, q2, q3, q4, st⟩ := own_fill X hx hl hown W' hTK hBl hcell (by rw [hZ.alike.findClass]; exact e2) hk (by rw [ek]; exact i3) (by rw [ek]; exact e5 i3) hvm hmon (own_slot hZ.alike hcell F1) (own_slot hZ.alike hcell F2) (own_sta hZ S) hg hsize hs hd hf hw hlo hc hsl
  have hb' : ∀ x ∈ locs ++ [(⟨a, fb.slot⟩ : Loc), ⟨a, fd.slot⟩, ⟨a, fs.slot⟩], x.base = a := fun x q => by
    rcases List.mem_append.mp q with q | q
    · exact hb x q
    · simp only [List.mem_cons, List.not_mem_nil, or_false] at q
      rcases q with rfl | rfl | rfl <;> rfl
  have K := own_keepS X'.same hb'
  have wB := W' (.lays rc tN "backtrace" obD) (by simp [own_fillAtoms])
  have wD := W' (.lays rc tN "depth" "I") (by simp [own_fillAtoms])
  have wS := W' (.lays rc tN "stackTrace" steD) (by simp [own_fillAtoms, own_thrAtoms])
  have wC := W' (.lays rc tN "cause" thD) (by simp [own_fillAtoms, own_thrAtoms])
  have wM := W' (.lays rc tN "detailMessage" msgD) (by simp [own_fillAtoms, own_thrAtoms])
  have stay : ∀ {n d : String} {t : FieldType} {v : Value}, (Cond.lays rc tN n d).before args s = true → parseFieldDescriptor d = some t → n ≠ "backtrace" → n ≠ "depth" → n ≠ "stackTrace" → Fld Z T.heap a tN n d v → Fld Z T'.heap a tN n d v := fun {n d t v} wl pt n1 n2 n3 F => by
    obtain ⟨c', cf, kf, i, f, g1, g2, g3, g4, g5, g6, g7⟩ := F
    cases g1.symm.trans hcell
    obtain ⟨k', hi, -⟩ := State.fieldFound?_setVm hZ.alike g2
    refine ⟨C, cf, kf, i, f, hC, g2, g3, by rw [q2]; exact g4, by rw [q2]; exact g5, by rw [q1]; exact g6, ?_⟩
    rw [q4 f.slot (own_slotne wl wB hi f1 pt (t2 := .object "java/lang/Object") (by decide +kernel) n1) (own_slotne wl wD hi f2 pt (t2 := .int) (by decide +kernel) n2) (own_slotne wl wS hi f3 pt (t2 := .array (.object "java/lang/StackTraceElement")) (by decide +kernel) n3)]
    exact g7
  exact ⟨T', _, X', hb', K, own_untS X'.same N0, E0.keep K, stay wC (t := .object "java/lang/Throwable") (by decide +kernel) (by decide) (by decide) (by decide) F3, stay wM (t := .object "java/lang/String") (by decide +kernel) (by decide) (by decide) (by decide) F4, st⟩
/-- getCause() of an object whose cause is itself yet: null -/
theorem own_gc {p : Program} {l : Launch} {e : Env} {R : Room} {s : State} {m : MethodId} {args : Array Value} {below : List Frame} {meth : Method} {c : Code} {T : State} {locs : List Loc} {cells slots : Nat} {Z : State} {a0 : Array Value} {h : Heap}
    (X : Stand p l e R s m args below meth c T locs cells slots) (hx : p.tables.exec = Jvm.exec) (hZ : Z.Warmed39 s.vm) {own C : String} {index : Nat} {y : String} (hown : s.vm.findClass own = some m.cls)
    (w1 : (Cond.methodLink own index ⟨y, "getCause", "()Ljava/lang/Throwable;"⟩).before a0 Z = true) (w2 : (Cond.sameMethod y tN "getCause" "()Ljava/lang/Throwable;").before a0 Z = true) (w3 : (Cond.declares Jvm.RoadKit.gcN).before a0 Z = true) (w5 : (Cond.selects C ⟨y, "getCause", "()Ljava/lang/Throwable;"⟩ Jvm.RoadKit.gcN).before a0 Z = true) (wi : (Cond.instanceMethod Jvm.RoadKit.gcN).before a0 Z = true)
    (wc : (Cond.codeSync Jvm.RoadKit.gcN Jvm.RoadKit.gcB 1 (some (.object tN))).before a0 Z = true) (wz : (Cond.initialized tN).before a0 Z = true) (wf : (Cond.fieldLink tN 7 tN "cause" thD).before a0 Z = true) (hmh : y ≠ "java/lang/invoke/MethodHandle" ∧ y ≠ "java/lang/invoke/VarHandle") (eT : T.heap = h) {a : Addr} (E : Exa Z h a C) (N : Unt h a) (F : Fld Z h a tN "cause" thD (.ref a))
    {g : JFrame} (hg : g.method = m) (hsize : g.locals.size = c.maxLocals) {rest : List Value} (hs : g.stack = .ref a :: rest) {W : Nat} (hW : 2 * g.monitorRoom + (rest.map fun v => v.category).sum ≤ W) (hd : decode c.code g.pc = .ok (.invokevirtual index, 3)) (hf : 1 ≤ R.frames) (hl : W + 12 ≤ R.locals) (hc : cells ≤ R.cells) (hsl : slots ≤ R.slots) :
    ∃ T', Stand p l e R s m args below meth c T' locs cells slots ∧ T'.heap = h ∧ ∀ target, Steps p.tables e below (T'.setTop { g with pc := g.pc + 3, stack := .null :: rest }) target → Steps p.tables e below (T.setTop g) target := by
  obtain ⟨cq, kq, qa, qb, qc⟩ := isOf hZ eT E
  obtain ⟨v, vm₁, ⟨T', L', k', n'⟩, -, X', ⟨hv, hh, e1, e2, e3⟩, st⟩ := X.virtualBackUp hx (owner := tN) (x := ⟨y, "getCause", "()Ljava/lang/Throwable;"⟩) (y := Jvm.RoadKit.gcN) hown (mvT hZ w1) (mvT hZ w2) (mvT hZ w3) (by decide) (mvT hZ w5) (mvT hZ wi)
    (gcBackPure (rm := { frames := 0, cells := 0, slots := 0, locals := 0 }) (W := W) (h := h) hZ wc wi wz wf N F rfl (by simpa using hf) (by simpa using hl)) qa qc hg hsize (Steps.refl _) (argsL := []) (rest := rest) (fun sig h => by rw [show parseMethodDescriptor "()Ljava/lang/Throwable;" = some ⟨[], some (.object tN)⟩ from by decide +kernel] at h; rw [← Option.some.inj h]; rfl) hs hW hd (fun _ _ => ⟨rfl, eT, by simpa using hc, by simpa using hsl⟩)
  dsimp only [Pt.U, Pt.locs, Pt.cells, Pt.slots] at X' e1 e2 e3 st hh
  subst e1 e2 e3 hv
  refine ⟨T', X', hh, fun t k => st.trans ?_⟩
  have q : gcV a (.ref a) = .null := if_pos rfl
  rw [q]
  exact k
/-- an inherited instance method by the contract of the body that is selected -/
theorem upcall {p : Program} {l : Launch} {e : Env} {R : Room} {s : State} {m : MethodId} {args : Array Value} {below : List Frame} {meth : Method} {c : Code} {T : State} {locs : List Loc} {cells slots : Nat} {Z : State} {a0 : Array Value} {h : Heap}
    (X : Stand p l e R s m args below meth c T locs cells slots) (hx : p.tables.exec = Jvm.exec) (hZ : Z.Warmed39 s.vm) {own C O : String} {index : Nat} {y z : MethodName} {bytes : ByteArray} {maxL : Nat} {ret : Option FieldType} (hown : s.vm.findClass own = some m.cls)
    (w1 : (Jvm.Cond.methodLink own index y).before a0 Z = true) (ws : (Jvm.Cond.sameMethod y.cls O y.name y.desc).before a0 Z = true) (w2 : (Jvm.Cond.declares ⟨O, y.name, y.desc⟩).before a0 Z = true) (w5 : (Jvm.Cond.selects C y z).before a0 Z = true) (w6 : (Jvm.Cond.instanceMethod z).before a0 Z = true) (w3 : (Jvm.Cond.initialized z.cls).before a0 Z = true) (w4 : (Jvm.Cond.code z bytes maxL ret).before a0 Z = true) (hy : y.cls ≠ "java/lang/invoke/MethodHandle" ∧ y.cls ≠ "java/lang/invoke/VarHandle") (hO : O ≠ "java/lang/invoke/MethodHandle" ∧ O ≠ "java/lang/invoke/VarHandle")
    {W : Nat} {rm : Room} {as' : Array Value} {Q : Option Value → Heap → List Loc → Prop} (hM : Con l Z z bytes maxL ret [] rm as' h Q) (eT : T.heap = h) (hf : rm.frames + 1 ≤ R.frames) (hl : W + (maxL + 11) + rm.locals ≤ R.locals) (hc : cells + rm.cells ≤ R.cells) (hs : slots + rm.slots ≤ R.slots)
    {g : JFrame} (hg : g.method = m) (hsize : g.locals.size = c.maxLocals) {a : Addr} (E : Exa Z h a C) {argsL rest : List Value} {ps : List FieldType} {r : Option FieldType} (hpd : parseMethodDescriptor y.desc = some ⟨ps, r⟩) (hlen : argsL.length = ps.length) (hstack : g.stack = argsL.reverse ++ .ref a :: rest) (has : (Value.ref a :: argsL).toArray = as') (hW : 2 * g.monitorRoom + (rest.map fun v => v.category).sum ≤ W)
    (hdg : decode c.code g.pc = .ok (.invokevirtual index, 3)) :
    ∃ (v : Option Value) (T' : State) (L : List Loc), Stand p l e R s m args below meth c T' (locs ++ L) (cells + rm.cells) (slots + rm.slots) ∧ Q v T'.heap L ∧
      ∀ target, Steps p.tables e below (T'.setTop { g with pc := g.pc + 3, stack := v.toList ++ rest }) target → Steps p.tables e below (T.setTop g) target := by
  obtain ⟨cq, kq, qa, qb, qc⟩ := isOf hZ eT E
  obtain ⟨v, vm₁, ⟨T', L', k', n'⟩, -, X', ⟨L, hQ, e1, e2, e3⟩, st⟩ := X.virtualBackUp hx hown (mvT hZ w1) (mvT hZ ws) (mvT hZ w2) hO (mvT hZ w5) (mvT hZ w6) (backOf (W := W) hM hZ w4 w3 hf hl) qa qc hg hsize (Steps.refl _) (lenOf hpd hlen) hstack hW hdg (fun _ _ => ⟨has, eT, hc, hs⟩)
  dsimp only [Pt.U, Pt.locs, Pt.cells, Pt.slots] at X' e1 e2 e3 st hQ
  subst e1 e2 e3
  exact ⟨v, T', L, X', hQ, fun t k => st.trans k⟩
end Jvm.OwnKit
namespace Jvm.Pilot.@@N@@
open Jvm Jvm.ClassFile Sem Op Lib Jvm.Free Jvm.Stand Jvm.LawKit Jvm.RoadKit Jvm.OwnKit Bundle Jvm.Pilot.@@N@@.Jvm.D
theorem own_g {Z : State} {a0 : Array Value} (hw : ∀ d ∈ tables_1, d.before a0 Z = true) {d : Jvm.Cond} (i : Nat) (h : tables_1[i]? = some d) : d.before a0 Z = true := hw _ (List.mem_of_getElem? h)
theorem os {p : Program} {e : Env} {below : List Frame} {Qe : Outcome → State → Prop} {T T' : State} {g g' : JFrame} (st : ∀ t, Steps p.tables e below (T'.setTop g') t → Steps p.tables e below (T.setTop g) t) (k : OGo p e below Qe T' g') : OGo p e below Qe T g := OGo.step st k

theorem own_toInt {n : Nat} (h : n < 2147483648) : (Int32.ofNat n).toInt = (n : Int) := Int32.toInt_ofNat_of_lt h
theorem own_nn {n : Nat} (h : n < 2147483648) : ¬ (Int32.ofNat n) < 0 := by
  rw [Int32.lt_iff_toInt_lt, own_toInt h]; show ¬ (n : Int) < 0; omega
theorem own_cl {n : Nat} (h : n < 2147483648) : (Int32.ofNat n).toNatClampNeg = n := by
  show (Int32.ofNat n).toInt.toNat = n
  rw [own_toInt h]; omega
theorem own_lt {a b : Nat} (ha : a < 2147483648) (hb : b < 2147483648) : Int32.ofNat a < Int32.ofNat b ↔ a < b := by
  rw [Int32.lt_iff_toInt_lt, own_toInt ha, own_toInt hb]; omega
theorem own_shr0 (x : Int32) : x >>> ((0 : Int32) &&& 31) = x := by
  apply Int32.toInt_inj.mp
  have h := c_ishr x 0 0 (by decide)
  rw [h]; simp
theorem own_shl0 (x : Int32) : x <<< ((0 : Int32) &&& 31) = x := by
  have h := c_ishl x 0 0 (by decide)
  have h1 := rng32 x
  have h2 := rng32 (x <<< ((0 : Int32) &&& 31))
  exact Int32.toInt_inj.mp (by omega)
theorem own_range (us : List Value) (d : Value) : ((List.range us.length).map fun i => us.getD (0 + i) d) = us := by
  apply List.ext_getElem
  · simp
  · intro i h1 h2
    simp at h1 h2 ⊢
    simp [h2]
/-- a String at a, its bytes us in the array d -/
def STI (Z : State) (h : Heap) (a d : Addr) (k : ClassId) (us : List Value) : Prop := Exa Z h a "java/lang/String" ∧ Fld Z h a "java/lang/String" "coder" "B" (.int (0 : Int32)) ∧ Fld Z h a "java/lang/String" "value" "[B" (.ref d) ∧ Arv Z h d k .byte (Int32.ofNat us.length) us (.int (0 : Int32))
/-- a StringBuilder at b that holds the bytes bs in the array d of length z -/
def SBI (Z : State) (h : Heap) (b d : Addr) (k : ClassId) (z : Int32) (bs : List Value) : Prop := Exa Z h b "java/lang/StringBuilder" ∧ Fld Z h b "java/lang/AbstractStringBuilder" "value" "[B" (.ref d) ∧ Fld Z h b "java/lang/AbstractStringBuilder" "coder" "B" (.int (0 : Int32)) ∧ Fld Z h b "java/lang/AbstractStringBuilder" "count" "I" (.int (Int32.ofNat bs.length)) ∧ Arv Z h d k .byte z bs (.int (0 : Int32)) ∧ Exa Z h d "[B"
/-- what the named sets say of the JDK's statics -/
def own_SS (Z : State) (zc : Int32) (wf : Value) : Prop := zc ≠ 0 ∧ Sta Z Z.heap "java/lang/String" "COMPACT_STRINGS" "Z" (.int zc) ∧ wf.isRef = true ∧ Sta Z Z.heap "jdk/internal/util/Preconditions" "SIOOBE_FORMATTER" "Ljava/util/function/BiFunction;" wf
theorem own_cp {p : Program} {l : Launch} {e : Env} {R : Room} {s : State} {m : MethodId} {args : Array Value} {below : List Frame} {meth : Method} {c : Code} {T : State} {locs : List Loc} {cells slots : Nat} {Z : State} {a0 : Array Value} {h : Heap} {a b : Addr} {k k' : ClassId}
    (X : Stand p l e R s m args below meth c T locs cells slots) (hx : p.tables.exec = Jvm.exec) (hZ : Z.Warmed39 s.vm) {own : String} {index : Nat} (hown : s.vm.findClass own = some m.cls)
    (w1 : (Jvm.Cond.methodLink own index Jvm.Stand.acN).before a0 Z = true) (w2 : (Jvm.Cond.native Jvm.Stand.acN).before a0 Z = true) (w3 : (Jvm.Cond.static Jvm.Stand.acN).before a0 Z = true) (w4 : (Jvm.Cond.initialized "java/lang/System").before a0 Z = true) (eT : T.heap = h)
    {zs z : Int32} {us bs : List Value} (A : Arv Z h a k .byte zs us (.int (0 : Int32))) (B : Arv Z h b k' .byte z bs (.int (0 : Int32))) (hs1 : us.length ≤ zs.toNatClampNeg) (hs2 : bs.length + us.length ≤ z.toNatClampNeg) (hb : us.length < 2147483648) (hb2 : bs.length < 2147483648)
    {n0 : Nat} (N : Fr n0 locs) (ge : n0 ≤ b) {g : JFrame} (hg : g.method = m) (hsize : g.locals.size = c.maxLocals) {rest : List Value} (hs : g.stack = .int (Int32.ofNat us.length) :: .int (Int32.ofNat bs.length) :: .ref b :: .int (0 : Int32) :: .ref a :: rest) (hd : decode c.code g.pc = .ok (.invokestatic index, 3))
    (hf : 1 ≤ R.frames) {W : Nat} (hW : 2 * g.monitorRoom + (rest.map fun v => v.category).sum ≤ W) (hlo : W + (nativeFrameWords "java/lang/System" "arraycopy" 5 + 11) ≤ R.locals) :
    ∃ T' h' L, Stand p l e R s m args below meth c T' L cells slots ∧ T'.heap = h' ∧ Fr n0 L ∧ Keep h h' [b] ∧ Arv Z h' b k' .byte z (bs ++ us) (.int (0 : Int32)) ∧
      ∀ target, Steps p.tables e below (T'.setTop { g with pc := g.pc + 3, stack := rest }) target → Steps p.tables e below (T.setTop g) target := by
  have c1 := own_cl hb
  have c2 := own_cl hb2
  have c0 : (0 : Int32).toNatClampNeg = 0 := by decide
  have B' : Arv Z h b k' .byte z (bs ++ List.replicate us.length (.int (0 : Int32))) (.int (0 : Int32)) := B.pad (pad_rep _ _ _)
  obtain ⟨T', h', L, X', e', N', K', V', st⟩ := cpA X hx hZ hown w1 w2 w3 w4 eT (sp := 0) (dp := Int32.ofNat bs.length) (nn := Int32.ofNat us.length) (us := us) A B' (Or.inl ⟨rfl, rfl⟩) (by decide) (own_nn hb2) (own_nn hb) (by rw [c1, c0]; omega) (by rw [c1, c2]; exact hs2) (by rw [c1, c0]; exact (own_range us _).symm) (by rw [c1, c2]; simp) N ge hg hsize hs hd hf hW hlo
  refine ⟨T', h', L, X', e', N', K', ?_, st⟩
  rw [c1, c2] at V'
  have e1 : (bs ++ List.replicate us.length (Value.int (0 : Int32))).take bs.length ++ us ++ (bs ++ List.replicate us.length (Value.int (0 : Int32))).drop (bs.length + us.length) = bs ++ us := by
    simp [List.drop_append, List.take_append]
  rw [e1] at V'
  exact V'
theorem own_nar255 (x : Int32) : narrow .char (.int (x &&& 255)) = .int (x &&& 255) := by
  have h := Jvm.Free.XT.narrow_c (x &&& 255)
  rw [i2c_mask] at h
  exact h
theorem own_sub0 (x : Int32) : x - (0 : Int32) = x := by
  have h := c_isub x 0
  have h0 : (0 : Int32).toInt = 0 := rfl
  have h1 := rng32 x
  have h2 := rng32 (x - 0)
  exact Int32.toInt_inj.mp (by omega)
theorem own_addln {bs us : List Value} : Int32.ofNat bs.length + Int32.ofNat us.length = Int32.ofNat (bs ++ us).length := by
  rw [List.length_append, Int32.ofNat_add]
theorem own_clz {z : Int32} (h : ¬ z < 0) : z.toInt = (z.toNatClampNeg : Int) := nat_of h
theorem own_noroom {bs us : List Value} {z : Int32} (h : bs.length + us.length ≤ z.toNatClampNeg) (h0 : ¬ z < 0) : ¬ (0 : Int32) < (Int32.ofNat bs.length + Int32.ofNat us.length) - z := by
  have q := own_clz h0
  have r := rng32 z
  have hl : bs.length + us.length < 2147483648 := by omega
  rw [← Int32.ofNat_add, Int32.lt_iff_toInt_lt]
  have e := own_toInt hl
  have c := c_isub (Int32.ofNat (bs.length + us.length)) z
  have r2 := rng32 (Int32.ofNat (bs.length + us.length) - z)
  show ¬ (0 : Int) < _
  omega
def own_b8 (cs : List Int32) : List Value := cs.map fun x => Value.int x.toInt8.toInt32
def own_ok8 (cs : List Int32) : Prop := ∀ x ∈ cs, ¬ x < 0 ∧ ¬ (255 : Int32) < x
theorem own_b8_len (cs : List Int32) : (own_b8 cs).length = cs.length := by simp [own_b8]
theorem own_inc (i : Nat) : Int32.ofNat i + (1 : Int32) = Int32.ofNat (i + 1) := by rw [Int32.ofNat_add]; rfl
theorem own_i8i8 (x : Int32) : nar .byte x.toInt8.toInt32 = x.toInt8.toInt32 := by
  show x.toInt8.toInt32.toInt8.toInt32 = x.toInt8.toInt32
  rw [Int8.toInt8_toInt32]
theorem own_at {cs : List Int32} {i : Nat} {x d : Int32} (hi : cs[i]? = some x) (hb : i < 2147483648) : (cs.map Value.int).getD (Int32.ofNat i).toNatClampNeg (.int d) = .int x := by
  rw [own_cl hb]; simp [List.getD, hi]
theorem own_set {cs : List Int32} {i : Nat} {x : Int32} (hi : cs[i]? = some x) : (own_b8 (cs.take i) ++ List.replicate 1 (Value.int (0 : Int32))).set i (.int (nar .byte x.toInt8.toInt32)) = own_b8 (cs.take (i + 1)) := by
  obtain ⟨h, rfl⟩ := List.getElem?_eq_some_iff.mp hi
  have hl : (own_b8 (cs.take i)).length = i := by rw [own_b8_len]; simp; omega
  rw [own_i8i8, List.set_append_right _ _ (by omega), hl]
  simp only [Nat.sub_self, List.replicate, List.set_cons_zero]
  rw [List.take_succ_eq_append_getElem h]
  simp only [own_b8, List.map_append, List.map_cons, List.map_nil]
theorem own_cfal (n : Int32) : ((((n - n).toUInt32 >>> ((31 : Int32) &&& 31).toUInt32).toInt32).toInt8.toInt32) = (0 : Int32) := by
  have h : n - n = 0 := by
    have h1 := c_isub n n
    have h2 := rng32 (n - n)
    exact Int32.toInt_inj.mp (by show (n - n).toInt = 0; omega)
  rw [h]; decide
theorem own_one {ca b : Addr} {x1 x3 x4 x5 v : Int32} {s6 : Slot} (h : One s6) : storeLocals #[.val (.ref ca), .val (.int x1), .val (.ref b), .val (.int x3), .val (.int x4), .val (.int x5), s6] 6 (.int v) = some #[.val (.ref ca), .val (.int x1), .val (.ref b), .val (.int x3), .val (.int x4), .val (.int x5), .val (.int v)] := by
  rcases h with rfl | ⟨w, rfl, hw⟩
  · rfl
  · cases w <;> first | rfl | (simp [Value.category] at hw)
def own_cap (z n : Nat) : Nat := if n ≤ z then z else max n (2 * z + 2)
theorem own_cap_ge (z n : Nat) : n ≤ own_cap z n := by unfold own_cap; split <;> omega
theorem own_nen {x d d' : Addr} {n : Nat} (hx : x < n) (hne : x ≠ d) (hd : d' = d ∨ n ≤ d') : x ≠ d' := by
  rcases hd with rfl | h
  · exact hne
  · exact Nat.ne_of_lt (Nat.lt_of_lt_of_le hx h)
theorem own_subn {a b : Nat} (h : b ≤ a) (hb : a < 2147483648) : Int32.ofNat a - Int32.ofNat b = Int32.ofNat (a - b) := by
  have c := c_isub (Int32.ofNat a) (Int32.ofNat b)
  have e1 := own_toInt hb
  have e2 := own_toInt (show b < 2147483648 by omega)
  have e3 := own_toInt (show a - b < 2147483648 by omega)
  have r := rng32 (Int32.ofNat a - Int32.ofNat b)
  exact Int32.toInt_inj.mp (by omega)
theorem own_addn (a b : Nat) : Int32.ofNat a + Int32.ofNat b = Int32.ofNat (a + b) := by rw [Int32.ofNat_add]
theorem own_addk (a : Nat) : Int32.ofNat a + (2 : Int32) = Int32.ofNat (a + 2) := by rw [Int32.ofNat_add]; rfl
theorem own_shl0b : (2 : Int32) <<< ((0 : Int32) &&& 31) = 2 := by decide
theorem own_safeAlt {Z : State} {EL : List (String × Nat)} {vm : Vm} {h : Heap} {d d' : Addr} (S : Safe Z EL vm h d) (hd : d' = d ∨ h.size ≤ d') : Safe Z EL vm h d' := hd.elim (fun e => e ▸ S) Safe.new
theorem own_gelt {n a : Nat} (hn : n < 2147483648) (ha : a < 2147483648) (h : n ≤ a) : ¬ Int32.ofNat a < Int32.ofNat n := fun q => by
  have := (own_lt ha hn).mp q; omega
theorem own_nd {z n : Nat} (hz : z < 2147483648) (hn : n < 2147483648) : ((0 : Int32) < Int32.ofNat n - Int32.ofNat z) ↔ z < n := by
  have c := c_isub (Int32.ofNat n) (Int32.ofNat z)
  have e1 := own_toInt hz
  have e2 := own_toInt hn
  have r := rng32 (Int32.ofNat n - Int32.ofNat z)
  have e0 : (0 : Int32).toInt = 0 := rfl
  rw [Int32.lt_iff_toInt_lt]
  omega

theorem own_mk {s : State} (h : tablesKnown s = true) : s.vm.MethodsKnown := fun m x hx => by
  unfold Vm.method? at hx
  cases hk : s.vm.classes[m.cls]? with
  | none => rw [hk] at hx; cases hx
  | some k =>
    rw [hk] at hx
    refine ⟨k, hk, fun cf hcf => ?_⟩
    obtain ⟨hi, he⟩ := Array.getElem?_eq_some_iff.mp hk
    have q := Array.all_eq_true.mp h _ hi
    rw [he, hcf] at q
    have q' : k.methods.size = cf.methods.size := by simpa using q
    obtain ⟨hj, -⟩ := Array.getElem?_eq_some_iff.mp (show k.methods[m.idx]? = some x from hx)
    rw [q'] at hj
    rw [Array.getElem?_eq_getElem hj]; rfl
theorem own_fk {s : State} {f : Frame} {below : List Frame} (hf : s.frames = f :: below) (h : framesKnown s = true) : s.vm.FramesKnown below := fun y hy m' hm' => by
  unfold framesKnown at h
  rw [hf] at h
  have q := List.all_eq_true.mp h y (List.mem_cons_of_mem _ hy)
  have g : ∀ m, methodKnown s.vm m = true → s.vm.knowsMethod m := fun m q => by
    unfold methodKnown at q
    cases hk : s.vm.classes[m.cls]? with
    | none => rw [hk] at q; cases q
    | some k =>
      rw [hk] at q
      refine ⟨k, hk, fun cf hcf => ?_⟩
      simp only [hcf] at q
      exact q
  cases y with
  | java j => cases hm'; exact g _ q
  | native j => cases hm'; exact g _ q
  | _ => cases hm'

theorem own_ca0 {P : Jvm.Cond → Prop} : ∀ d ∈ ([] : List Jvm.Cond), P d := fun _ q => nomatch q
theorem own_caS {P : Jvm.Cond → Prop} {x : Jvm.Cond} {r : List Jvm.Cond} (a : P x) (b : ∀ d ∈ r, P d) : ∀ d ∈ x :: r, P d := fun d q => by
  rcases List.mem_cons.mp q with rfl | q
  · exact a
  · exact b d q
theorem own_caA {P : Jvm.Cond → Prop} {l r : List Jvm.Cond} (a : ∀ d ∈ l, P d) (b : ∀ d ∈ r, P d) : ∀ d ∈ l ++ r, P d := fun d q => (List.mem_append.mp q).elim (a d) (b d)
def own_pc (pc0 i : Nat) : Nat := if i ≤ 6 then pc0 + 5 * i else pc0 + 6 * i - 6
def own_il (i : Nat) : Nat := if i ≤ 5 then 1 else 2
def own_ix (i : Nat) : Instr := if i ≤ 5 then .iconst i else .bipush i
def own_dk (code : ByteArray) (pc0 : Nat) (vis : List Instr) (i : Nat) : Bool :=
  decide (decode code (own_pc pc0 i) = .ok (.dup, 1)) && (decide (decode code (own_pc pc0 i + 1) = .ok (own_ix i, own_il i)) && (decide (decode code (own_pc pc0 i + 1 + own_il i) = .ok (vis.getD i .nop, 2)) && decide (decode code (own_pc pc0 i + 1 + own_il i + 2) = .ok (.castore, 1))))
def own_push (Ls : Array Slot) (v : Instr) (x : Int32) : Prop := (∃ z : Int, v = .bipush z ∧ x = (Int8.ofInt z).toInt32) ∨ ∃ k : Nat, v = .iload k ∧ Ls[k]? = some (.val (.int x))
def own_pv (Ls : Array Slot) : List Instr → List Int32 → Prop
  | _, [] => True
  | [], _ :: _ => False
  | v :: vs, x :: xs => own_push Ls v x ∧ own_pv Ls vs xs
theorem own_pvat {Ls : Array Slot} : ∀ {vis : List Instr} {cs : List Int32}, own_pv Ls vis cs → ∀ i x, cs[i]? = some x → own_push Ls (vis.getD i .nop) x
  | _, [], _, i, x, q => by simp at q
  | [], _ :: _, h, _, _, _ => h.elim
  | v :: vs, y :: ys, h, 0, x, q => by simp at q; subst q; exact h.1
  | v :: vs, y :: ys, h, i + 1, x, q => by
    have := own_pvat h.2 i x (by simpa using q)
    simpa using this
theorem own_ici : ∀ i : Nat, i < 128 → Int32.ofInt (i : Int) = Int32.ofNat i := by decide +kernel
theorem own_icb : ∀ i : Nat, i < 128 → (Int8.ofInt (i : Int)).toInt32 = Int32.ofNat i := by decide +kernel
theorem own_setc {cs : List Int32} {i : Nat} {x : Int32} (hi : cs[i]? = some x) (hn : nar .char x = x) : ((cs.take i).map Value.int ++ List.replicate 1 (Value.int (0 : Int32))).set i (.int (nar .char x)) = (cs.take (i + 1)).map Value.int := by
  obtain ⟨h, rfl⟩ := List.getElem?_eq_some_iff.mp hi
  have hl : ((cs.take i).map Value.int).length = i := by simp; omega
  rw [hn, List.set_append_right _ _ (by omega), hl]
  simp only [Nat.sub_self, List.replicate, List.set_cons_zero]
  rw [List.take_succ_eq_append_getElem h]
  simp only [List.map_append, List.map_cons, List.map_nil]
theorem own_frm {a b : Nat} {L : List Loc} (N : Fr b L) (h : a ≤ b) : Fr a L := fun y hy => Nat.le_trans h (N y hy)
theorem own_ok0 : own_ok8 [] := fun _ q => nomatch q
theorem own_okS {x : Int32} {r : List Int32} (h : ¬ x < 0 ∧ ¬ (255 : Int32) < x) (q : own_ok8 r) : own_ok8 (x :: r) := fun z hz => by
  rcases List.mem_cons.mp hz with rfl | hz
  · exact h
  · exact q z hz
theorem own_narc {x : Int32} (h : ¬ x < 0 ∧ ¬ (255 : Int32) < x) : nar .char x = x := by
  obtain ⟨h0, h1⟩ := h
  rw [Int32.lt_iff_toInt_lt] at h0 h1
  have e0 : (0 : Int32).toInt = 0 := rfl
  have e1 : (255 : Int32).toInt = 255 := rfl
  have q := c_i2c x
  have r := rng32 (nar .char x)
  apply Int32.toInt_inj.mp
  show x.toUInt32.toUInt16.toUInt32.toInt32.toInt = x.toInt
  omega
theorem own_cfill {p : Program} {l : Launch} {e : Env} {R : Room} {s : State} {m : MethodId} {args : Array Value} {below : List Frame} {meth : Method} {c : Code} {cells slots : Nat} {Z : State} (hx : p.tables.exec = Jvm.exec) (hZ : Z.Warmed39 s.vm) {cs : List Int32} {vis : List Instr} {b : Addr} {k : ClassId} {Ls : Array Slot} {rest : List Value} {pc0 : Nat} (hn : cs.length ≤ 127) (hok : own_ok8 cs) (hD : ∀ i, i < cs.length → own_dk c.code pc0 vis i = true) (hP : ∀ i x, cs[i]? = some x → own_push Ls (vis.getD i .nop) x) :
    ∀ (r i : Nat) (T : State) (h : Heap) (locs : List Loc), i + r = cs.length → Stand p l e R s m args below meth c T locs cells slots → T.heap = h → Arv Z h b k .char (Int32.ofNat cs.length) ((cs.take i).map Value.int) (.int (0 : Int32)) →
      ∃ (T' : State) (L : List Loc), Stand p l e R s m args below meth c T' (locs ++ L) cells slots ∧ Fr b L ∧ Keep h T'.heap [b] ∧ Arv Z T'.heap b k .char (Int32.ofNat cs.length) (cs.map Value.int) (.int (0 : Int32)) ∧
        ∀ target, Steps p.tables e below (T'.setTop (mkF m (own_pc pc0 cs.length) Ls (.ref b :: rest))) target → Steps p.tables e below (T.setTop (mkF m (own_pc pc0 i) Ls (.ref b :: rest))) target := by
  intro r
  induction r with
  | zero =>
    intro i T h locs hi X eT V
    have hi' : i = cs.length := by omega
    subst hi'
    rw [List.take_length] at V
    exact ⟨T, [], by rw [List.append_nil]; exact X, Fr.nil _, by rw [eT]; exact Keep.refl _ _, by rw [eT]; exact V, fun t q => q⟩
  | succ r ih =>
    intro i T h locs hi X eT V
    have hil : i < cs.length := by omega
    obtain ⟨x, hxi⟩ : ∃ x, cs[i]? = some x := ⟨_, List.getElem?_eq_getElem hil⟩
    have hd := hD i hil
    simp only [own_dk, Bool.and_eq_true, decide_eq_true_eq] at hd
    obtain ⟨d1, d2, d3, d4⟩ := hd
    have V' : Arv Z h b k .char (Int32.ofNat cs.length) ((cs.take i).map Value.int ++ List.replicate 1 (.int (0 : Int32))) (.int (0 : Int32)) := V.pad (pad_rep _ _ 1)
    obtain ⟨T1, h1, X1, e1, W1, V1, st1⟩ := castoreV X hx hZ eT V' (j := Int32.ofNat i) (x := x) ⟨own_nn (by omega), (own_lt (by omega) (by omega)).mpr hil⟩ (by rw [own_cl (by omega)]; simp; omega) (g := mkF m (own_pc pc0 i + 1 + own_il i + 2) Ls (.int x :: .int (Int32.ofNat i) :: .ref b :: .ref b :: rest)) rfl rfl d4
    rw [own_cl (show i < 2147483648 by omega), own_setc hxi (own_narc (hok x (List.mem_of_getElem? hxi)))] at V1
    obtain ⟨T2, L2, X2, N2, K2, V2, st2⟩ := ih (i + 1) T1 h1 _ (by omega) X1 e1 V1
    rw [List.append_assoc] at X2
    refine ⟨T2, _, X2, ?_, (Keep.of_wr W1).trans K2 (fun z hz => Or.inl hz), V2, fun t q => ?_⟩
    · intro y hy
      rcases List.mem_append.mp hy with hy | hy
      · cases List.mem_singleton.mp hy; exact Nat.le_refl _
      · exact N2 y hy
    have hpc : own_pc pc0 (i + 1) = own_pc pc0 i + 1 + own_il i + 2 + 1 := by
      unfold own_pc own_il
      split <;> split <;> (try split) <;> omega
    have q1 := st1 _ (by have z := st2 t q; rw [hpc] at z; exact z)
    refine XS.dup X.here hx rfl d1 rfl rfl ?_
    show Steps p.tables e below (T.setTop (mkF m (own_pc pc0 i + 1) Ls (.ref b :: .ref b :: rest))) t
    have q2 : Steps p.tables e below (T.setTop (mkF m (own_pc pc0 i + 1 + own_il i) Ls (.int (Int32.ofNat i) :: .ref b :: .ref b :: rest))) t := by
      rcases hP i x hxi with ⟨z, ez, rfl⟩ | ⟨kk, ez, hk⟩
      · rw [ez] at d3
        exact XS.bipush X.here hx rfl d3 q1
      · rw [ez] at d3
        exact XS.iload X.here hx rfl d3 hk q1
    by_cases q5 : i ≤ 5
    · have a1 : own_il i = 1 := if_pos q5
      have a2 : own_ix i = .iconst i := if_pos q5
      rw [a1, a2] at d2
      rw [a1] at q2
      refine XS.iconst X.here hx rfl d2 ?_
      rw [own_ici i (by omega)]
      exact q2
    · have a1 : own_il i = 2 := if_neg q5
      have a2 : own_ix i = .bipush i := if_neg q5
      rw [a1, a2] at d2
      rw [a1] at q2
      refine XS.bipush X.here hx rfl d2 ?_
      rw [own_icb i (by omega)]
      exact q2
def own_w (n : Nat) : Nat := if n < 10 then 1 else if n < 100 then 2 else if n < 1000 then 3 else if n < 10000 then 4 else if n < 100000 then 5 else if n < 1000000 then 6 else if n < 10000000 then 7 else if n < 100000000 then 8 else if n < 1000000000 then 9 else 10
def own_dig : Nat → Nat → List Value
  | 0, _ => []
  | t + 1, n => .int (Int32.ofNat (48 + n / 10 ^ t % 10)) :: own_dig t n
def own_L (bs : List Value) (w t n : Nat) : List Value := bs ++ (List.replicate (w - t) (Value.int (0 : Int32)) ++ own_dig t n)
theorem own_diglen (n : Nat) : ∀ t, (own_dig t n).length = t
  | 0 => rfl
  | t + 1 => by simp [own_dig, own_diglen n t]
theorem own_Llen {bs : List Value} {w t n : Nat} (h : t ≤ w) : (own_L bs w t n).length = bs.length + w := by
  simp [own_L, own_diglen]; omega
theorem own_Lset {bs : List Value} {w t n : Nat} (h : t < w) : (own_L bs w t n).set (bs.length + (w - t - 1)) (.int (Int32.ofNat (48 + n / 10 ^ t % 10))) = own_L bs w (t + 1) n := by
  obtain ⟨k, hk⟩ : ∃ k, w - t = k + 1 := ⟨w - t - 1, by omega⟩
  have hk2 : w - (t + 1) = k := by omega
  unfold own_L
  rw [hk2, show w - t - 1 = k by omega, hk, List.set_append_right _ _ (by omega), Nat.add_sub_cancel_left, List.replicate_succ', List.append_assoc, List.set_append_right _ _ (by simp)]
  simp [own_dig]
theorem own_L0 (bs : List Value) (w n : Nat) : own_L bs w 0 n = bs ++ List.replicate w (Value.int (0 : Int32)) := by simp [own_L, own_dig]
theorem own_Lw (bs : List Value) (w n : Nat) : own_L bs w w n = bs ++ own_dig w n := by simp [own_L]
theorem own_digat (n : Nat) : ∀ (w k : Nat), k < w → (own_dig w n)[k]? = some (.int (Int32.ofNat (48 + n / 10 ^ (w - 1 - k) % 10)))
  | w + 1, 0, _ => by simp [own_dig]
  | w + 1, k + 1, h => by
    have := own_digat n w k (by omega)
    rw [own_dig, List.getElem?_cons_succ, this, show w + 1 - 1 - (k + 1) = w - 1 - k by omega]
theorem own_divp (n t : Nat) : n / 10 ^ t / 100 = n / 10 ^ (t + 2) := by rw [Nat.div_div_eq_div_mul, Nat.pow_add]
theorem own_divq (n t : Nat) : n / 10 ^ t / 10 = n / 10 ^ (t + 1) := by rw [Nat.div_div_eq_div_mul, Nat.pow_succ]
theorem own_ones {m : Nat} : m % 100 % 10 = m % 10 := by omega
theorem own_tens {m : Nat} : m % 100 / 10 = m / 10 % 10 := by omega
theorem own_plt {m r : Nat} (h : m < 10 ^ (r + 2)) : m / 100 < 10 ^ r := by
  rw [Nat.pow_add] at h
  exact Nat.div_lt_of_lt_mul (by rw [Nat.mul_comm]; exact h)
theorem own_ple {m r : Nat} (h : 10 ^ (r + 2) ≤ m) : 10 ^ r ≤ m / 100 := by
  rw [Nat.pow_add] at h
  exact (Nat.le_div_iff_mul_le (by decide)).mpr h
theorem own_r3 {m r : Nat} (h : m < 10 ^ r) (h1 : 100 ≤ m) : 3 ≤ r := Nat.lt_of_not_le fun q => by
  have := Nat.pow_le_pow_right (show 0 < 10 by decide) q
  omega
theorem own_r1 {m r : Nat} (h : 1 ≤ r) (h1 : 2 ≤ r → 10 ^ (r - 1) ≤ m) (h2 : m < 10) : r = 1 := by
  rcases Nat.lt_or_ge r 2 with q | q
  · omega
  · have a := h1 q
    have b := Nat.pow_le_pow_right (show 0 < 10 by decide) (show 1 ≤ r - 1 by omega)
    omega
theorem own_r2 {m r : Nat} (h : m < 10 ^ r) (h1 : 2 ≤ r → 10 ^ (r - 1) ≤ m) (h2 : 10 ≤ m) (h3 : m < 100) : r = 2 := by
  have h4 : 2 ≤ r := Nat.lt_of_not_le fun q => by
    have := Nat.pow_le_pow_right (show 0 < 10 by decide) q
    omega
  rcases Nat.lt_or_ge r 3 with q | q
  · omega
  · have a := h1 h4
    have b := Nat.pow_le_pow_right (show 0 < 10 by decide) (show 2 ≤ r - 1 by omega)
    omega
theorem own_dpow {n : Nat} (h : n < 2147483648) : n < 10 ^ own_w n ∧ (2 ≤ own_w n → 10 ^ (own_w n - 1) ≤ n) ∧ 1 ≤ own_w n ∧ own_w n ≤ 10 := by
  unfold own_w
  repeat' split
  all_goals (refine ⟨?_, ?_, ?_, ?_⟩ <;> simp <;> omega)
theorem own_negn {n : Nat} (h : n < 2147483648) : -(Int32.ofNat n) = Jvm.Free.SBG.negI n := by rw [← Jvm.Free.SBG.neg_negI h, Int32.neg_neg]
theorem own_dec {k : Nat} (h : 1 ≤ k) : Int32.ofNat k + (-1 : Int32) = Int32.ofNat (k - 1) := Jvm.Free.SBG.GetChars.dec1 h
theorem own_nard : ∀ x : Nat, x < 128 → nar .byte (Int32.ofNat x) = Int32.ofNat x := by
  show ∀ x : Nat, x < 128 → (Int32.ofNat x).toInt8.toInt32 = Int32.ofNat x
  decide +kernel
def own_onel : List Value := (List.range 100).map fun r => Value.int (Int32.ofNat (48 + r % 10))
def own_tenl : List Value := (List.range 100).map fun r => Value.int (Int32.ofNat (48 + r / 10))
theorem own_oneat {r : Nat} {d : Value} (h : r < 100) : own_onel.getD (Int32.ofNat r).toNatClampNeg d = .int (Int32.ofNat (48 + r % 10)) := by
  rw [own_cl (by omega)]; simp [own_onel, List.getD, h]
theorem own_tenat {r : Nat} {d : Value} (h : r < 100) : own_tenl.getD (Int32.ofNat r).toNatClampNeg d = .int (Int32.ofNat (48 + r / 10)) := by
  rw [own_cl (by omega)]; simp [own_tenl, List.getD, h]
/-- Integer's tables of digits -/
def own_SI (Z : State) (d1 d2 : Addr) (k1 k2 : ClassId) : Prop := Sta Z Z.heap "java/lang/Integer" "DigitOnes" "[B" (.ref d1) ∧ Arv Z Z.heap d1 k1 .byte (100 : Int32) own_onel (.int (0 : Int32)) ∧ Sta Z Z.heap "java/lang/Integer" "DigitTens" "[B" (.ref d2) ∧ Arv Z Z.heap d2 k2 .byte (100 : Int32) own_tenl (.int (0 : Int32))
theorem own_st3 {v0 v1 v2 v5 v6 : Value} {s3 s4 : Slot} {v : Int32} (h : One s3) (h0 : v0.category = 1) (h1 : v1.category = 1) (h2 : v2.category = 1) : storeLocals #[.val v0, .val v1, .val v2, s3, s4, .val v5, .val v6] 3 (.int v) = some #[.val v0, .val v1, .val v2, .val (.int v), s4, .val v5, .val v6] := by
  rcases h with rfl | ⟨w, rfl, hw⟩
  · cases v2 <;> first | rfl | (simp [Value.category] at h2)
  · cases w <;> cases v2 <;> first | rfl | (simp [Value.category] at hw h2)
theorem own_st4 {v0 v1 v2 v5 v6 : Value} {s4 : Slot} {u v : Int32} (h : One s4) : storeLocals #[.val v0, .val v1, .val v2, .val (.int u), s4, .val v5, .val v6] 4 (.int v) = some #[.val v0, .val v1, .val v2, .val (.int u), .val (.int v), .val v5, .val v6] := by
  rcases h with rfl | ⟨w, rfl, hw⟩
  · rfl
  · cases w <;> first | rfl | (simp [Value.category] at hw)

/-- a table of bytes that the sheet's word `all` describes -/
theorem own_tbl {Z : State} {args : Array Value} {t F : Term} {a : Addr} {c : Cell} {n : Nat} {val : Nat → Int32} (hn : n < 2147483648) (et : ∀ idx, t.eval args Z none idx Z = some (.ref a)) (A : Arr Z Z.heap a c .byte) (q : c.slots.size = n)
    (h : (Cond.all t (.eq (.elem t (.index 0)) F)).value args Z none Z [] = some true) (hF : ∀ i, i < n → F.eval args Z none [i] Z = some (.int (val i))) (hv : ∀ i, i < n → fits .byte (.int (val i)) = true) : Arv Z Z.heap a c.cls .byte (Int32.ofNat n) ((List.range n).map fun i => Value.int (val i)) (.int (0 : Int32)) := by
  have key : ∀ i, i < n → c.slots[i]? = some (.int (val i)) := fun i hi => by
    have u := Cond.all_elim (et []) (A.fin (Vm.Alike.refl _)) h i (by rw [q]; exact hi)
    obtain ⟨x, y, e1, e2, k1, k2⟩ := cmp_v (Or.inl u)
    cases (hF i hi).symm.trans e2
    have e3 := (elem_f (j := Int32.ofNat i) (et [i]) (by have := idx_at (args := args) (s := Z) (first := Z) (o := none) (j := Int32.ofNat i) (own_nn (by omega)); rw [own_cl (by omega)] at this; exact this) (A.fin (Vm.Alike.refl _)) (own_nn (by omega))).symm.trans e1
    rw [own_cl (by omega)] at e3
    obtain ⟨z, rfl⟩ : ∃ z, x = .int z := k2
    have := gotT (Cond.eq_ints e1 (hF i hi)) u
    rw [e3, this]
  have hg : ∀ i, i < n → ((List.range n).map fun i => Value.int (val i)).getD i (.int (0 : Int32)) = .int (val i) := fun i hi => by simp [List.getD, hi]
  refine ⟨c, A, rfl, by rw [q, own_cl hn], own_nn hn, fun i hi => ?_, fun i hi => ?_⟩
  · rw [q] at hi; rw [hg i hi]; exact key i hi
  · rw [q] at hi; rw [hg i hi]; exact hv i hi
theorem own_arrX {Z : State} {a0 : Array Value} {a : Addr} {cell : Cell} (E : Exa Z Z.heap a "[B") (ha : Z.arrayAt? a = some cell) (w : (Cond.arrayClass .byte).before a0 Z = true) : Arr Z Z.heap a cell .byte := by
  obtain ⟨c1, k1, e1, e2, e3, e4, -⟩ := E
  obtain ⟨h1, h2, h3, -⟩ := State.arrayAt?_spec ha
  cases e1.symm.trans h1
  obtain ⟨c, k, comp, f1, f2, f3⟩ := Cond.arrayClass_spec w
  cases e2.symm.trans (show Z.vm.findClass "[B" = some c from f1)
  exact ⟨h1, ⟨fun kk q => (by rw [q] at e4; cases e4), k, f2, comp, f3⟩, h2⟩
theorem own_tblS {Z : State} {args a0 : Array Value} {C n d : String} {F : Term} {k : Nat} {val : Nat → Int32} (hk : k < 2147483648) (hX : (Cond.exactly (.static C n d) "[B").before args Z = true) (hL : (Cond.eq (.length (.static C n d)) (.int (Int32.ofNat k))).before args Z = true) (hA : (Cond.all (.static C n d) (.eq (.elem (.static C n d) (.index 0)) F)).before args Z = true) (w : (Cond.arrayClass .byte).before a0 Z = true)
    (hF : ∀ i, i < k → F.eval args Z none [i] Z = some (.int (val i))) (hv : ∀ i, i < k → fits .byte (.int (val i)) = true) : ∃ a kd, (Term.static C n d).eval args Z none [] Z = some (.ref a) ∧ Arv Z Z.heap a kd .byte (Int32.ofNat k) ((List.range k).map fun i => Value.int (val i)) (.int (0 : Int32)) := by
  obtain ⟨a, ea⟩ := exa_v (Cond.before_iff.mp hX)
  have X1 : Exa Z Z.heap a "[B" := exa_at ea (Cond.before_iff.mp hX)
  have hL' := Cond.before_iff.mp hL
  obtain ⟨x, y, e1, e2, -, -⟩ := cmp_v (Or.inl hL')
  obtain ⟨b, cell, eb, hb, rfl⟩ := Term.length_spec e1
  cases ea.symm.trans eb
  have hlt := Jvm.Free.SBG.length_lt ea hb e1
  have hsz : cell.slots.size.toInt32 = Int32.ofNat k := gotT (Cond.eq_ints e1 (Term.int_eval (Int32.ofNat k))) hL'
  have hs : cell.slots.size = k := by
    have q := congrArg Int32.toNatClampNeg hsz
    rw [own_cl hk, show cell.slots.size.toInt32 = Int32.ofNat cell.slots.size from rfl, own_cl (by omega)] at q
    exact q
  exact ⟨a, cell.cls, ea, own_tbl hk (fun idx => ea) (own_arrX X1 hb w) hs (Cond.before_iff.mp hA) hF hv⟩
theorem own_oneE : (List.range 100).map (fun i => Value.int ((48 : Int32) + i.toInt32 % 10)) = own_onel := by
  have h : ∀ i, i < 100 → (48 : Int32) + i.toInt32 % 10 = Int32.ofNat (48 + i % 10) := by decide +kernel
  exact List.map_congr_left fun i hi => by rw [h i (List.mem_range.mp hi)]
theorem own_tenE : (List.range 100).map (fun i => Value.int ((48 : Int32) + i.toInt32 / 10)) = own_tenl := by
  have h : ∀ i, i < 100 → (48 : Int32) + i.toInt32 / 10 = Int32.ofNat (48 + i / 10) := by decide +kernel
  exact List.map_congr_left fun i hi => by rw [h i (List.mem_range.mp hi)]
def own_TS (Z : State) (u0 u1 : RefV) : Prop := Sta Z Z.heap "java/lang/Throwable" "UNASSIGNED_STACK" "[Ljava/lang/StackTraceElement;" u0.v ∧ Sta Z Z.heap "java/lang/Throwable" "SUPPRESSED_SENTINEL" "Ljava/util/List;" u1.v
def own_EL : List (String × Nat) := [("com/example/slackline/slackline/instance/InputException", 7), ("com/example/slackline/slackline/instance/InputException", 16), ("com/example/slackline/slackline/instance/InputException", 37)]
theorem own_hEL {Z : State} {a0 : Array Value} (hw : ∀ d ∈ tables_1, d.before a0 Z = true) : EW Z a0 own_EL := (EW.cons (own_g hw 230 rfl) (by decide) (EW.cons (own_g hw 158 rfl) (by decide) (EW.cons (own_g hw 249 rfl) (by decide) EW.nil)))
theorem own_wS {Z : State} {a0 : Array Value} (hw : ∀ d ∈ tables_1, d.before a0 Z = true) : ∀ a ∈ Bundle.stringAtoms, a.before a0 Z = true := fun a ha => by
  simp only [Bundle.stringAtoms, List.mem_cons, List.not_mem_nil, or_false] at ha
  rcases ha with rfl | rfl | rfl | rfl | rfl | rfl | rfl
  · exact (own_g hw 3 rfl)
  · exact (own_g hw 2 rfl)
  · exact (own_g hw 19 rfl)
  · exact (own_g hw 29 rfl)
  · exact (own_g hw 27 rfl)
  · exact (own_g hw 159 rfl)
  · exact (own_g hw 160 rfl)
theorem d42_152_0 : decode jdk_42_method_152_code 0 = .ok (.getstatic 38, 3) := by decide +kernel
theorem d42_152_3 : decode jdk_42_method_152_code 3 = .ok (.ifCond .eq 10, 3) := by decide +kernel
theorem d42_152_6 : decode jdk_42_method_152_code 6 = .ok (.aload_n 0, 1) := by decide +kernel
theorem d42_152_7 : decode jdk_42_method_152_code 7 = .ok (.getfield 15, 3) := by decide +kernel
theorem d42_152_10 : decode jdk_42_method_152_code 10 = .ok (.goto 4, 3) := by decide +kernel
theorem d42_152_14 : decode jdk_42_method_152_code 14 = .ok (.ireturn, 1) := by decide +kernel
theorem opl_rm_coder : plainFor (⟨"java/lang/String", "coder", "()B"⟩ : MethodName) = true := plainFor_of_name (by first | (simp [plainName, overriddenIn]; done) | decide +kernel)
set_option maxRecDepth 65536 in
set_option maxHeartbeats 40000000 in
theorem rm_coder (l : Launch) (Z : State) (a0 : Array Value) (hw : ∀ d ∈ tables_1, d.before a0 Z = true) (ws : List Jvm.Cond) (a : Addr) (zc : Int32) (wf : Value) (n0 : Nat) (h0 : Heap) (SS : own_SS Z zc wf) (O : Old Z n0 h0) (C : Fld Z h0 a "java/lang/String" "coder" "B" (.int (0 : Int32))) :
    Con l Z (⟨"java/lang/String", "coder", "()B"⟩ : MethodName) jdk_42_method_152_code 1 (some .byte) ws ({ frames := 0, cells := 0, slots := 0, locals := 0 } : Room) #[(.ref a)] h0 (fun v h L => v = some (.int (0 : Int32)) ∧ L = [] ∧ h = h0) := by
  refine Con.intro opl_rm_coder ?_
  intro p e s m below meth c s₁ hx hby hml hown hret hlk hZ hnm X0 e0
  obtain ⟨hzc, SC, hwf, SF⟩ := SS
  have Z0 : n0 ≤ h0.size := O.1 ▸ O.2.1
  have N0 := Fr.nil n0
  refine OGo.cast (g' := (mkF m 0 #[.val (.ref a)] [])) (by first | (simp [entryFrame, mkF, argsToLocals, Value.category]; done) | rfl) ?_
  show OGo p e below _ s₁ (mkF m 0 #[.val (.ref a)] [])
  obtain ⟨T1, X1, e1, st1⟩ := getS2 X0 hx hZ hown (host := "") (Or.inl (own_g hw 14 rfl)) Via.refl e0 (SC.ext O.2) (g := (mkF m 0 #[.val (.ref a)] [])) rfl (hb hby d42_152_0)
  refine os st1 ?_
  show OGo p e below _ T1 (mkF m 3 #[.val (.ref a)] [(.int zc)])
  refine os (fun _ k => XS.ifNo X1.here hx rfl (hb hby d42_152_3) rfl ((if0 _ _).trans (feq hzc).1) k) ?_
  show OGo p e below _ T1 (mkF m 6 #[.val (.ref a)] [])
  refine os (fun _ k => XS.aloadN X1.here hx rfl (hb hby d42_152_6) rfl rfl k) ?_
  show OGo p e below _ T1 (mkF m 7 #[.val (.ref a)] [(.ref a)])
  obtain ⟨T2, X2, e2, st2⟩ := getF X1 hx hZ hown (host := "") (Or.inl (own_g hw 26 rfl)) Via.refl e1 C (g := (mkF m 7 #[.val (.ref a)] [(.ref a)])) rfl rfl (hb hby d42_152_7)
  refine os st2 ?_
  show OGo p e below _ T2 (mkF m 10 #[.val (.ref a)] [(.int (0 : Int32))])
  refine os (fun _ k => XS.goto X2.here hx rfl (pc0 := 10) (pc' := 14) rfl (hb hby d42_152_10) (by decide) (by decide) k) ?_
  show OGo p e below _ T2 (mkF m 14 #[.val (.ref a)] [(.int (0 : Int32))])
  exact OGo.ret X2 hx (t := .byte) hret hlk rfl (Or.inl ⟨rfl, by simp, _, rfl⟩) (hb hby d42_152_14) (by decide) (by decide) ⟨rfl, rfl, e2⟩
theorem d42_54_0 : decode jdk_42_method_54_code 0 = .ok (.aload_n 0, 1) := by decide +kernel
theorem d42_54_1 : decode jdk_42_method_54_code 1 = .ok (.getfield 9, 3) := by decide +kernel
theorem d42_54_4 : decode jdk_42_method_54_code 4 = .ok (.arraylength, 1) := by decide +kernel
theorem d42_54_5 : decode jdk_42_method_54_code 5 = .ok (.aload_n 0, 1) := by decide +kernel
theorem opd_0 : parseMethodDescriptor "()B" = some ⟨[], some .byte⟩ := by decide +kernel
theorem d42_54_6 : decode jdk_42_method_54_code 6 = .ok (.invokevirtual 335, 3) := by decide +kernel
theorem d42_54_9 : decode jdk_42_method_54_code 9 = .ok (.ishr, 1) := by decide +kernel
theorem d42_54_10 : decode jdk_42_method_54_code 10 = .ok (.ireturn, 1) := by decide +kernel
theorem opl_rm_length : plainFor (⟨"java/lang/String", "length", "()I"⟩ : MethodName) = true := plainFor_of_name (by first | (simp [plainName, overriddenIn]; done) | decide +kernel)
set_option maxRecDepth 65536 in
set_option maxHeartbeats 40000000 in
theorem rm_length (l : Launch) (Z : State) (a0 : Array Value) (hw : ∀ d ∈ tables_1, d.before a0 Z = true) (ws : List Jvm.Cond) (a d : Addr) (k : ClassId) (us : List Value) (zc : Int32) (wf : Value) (n0 : Nat) (h0 : Heap) (SS : own_SS Z zc wf) (O : Old Z n0 h0) (I : STI Z h0 a d k us) :
    Con l Z (⟨"java/lang/String", "length", "()I"⟩ : MethodName) jdk_42_method_54_code 1 (some .int) ws ({ frames := 1, cells := 0, slots := 0, locals := 13 } : Room) #[(.ref a)] h0 (fun v h L => v = some (.int (Int32.ofNat us.length)) ∧ L = [] ∧ h = h0) := by
  refine Con.intro opl_rm_length ?_
  intro p e s m below meth c s₁ hx hby hml hown hret hlk hZ hnm X0 e0
  have SS' := SS
  obtain ⟨hzc, SC, hwf, SF⟩ := SS
  have Z0 : n0 ≤ h0.size := O.1 ▸ O.2.1
  have N0 := Fr.nil n0
  obtain ⟨IE, IC, IF, IV⟩ := I
  refine OGo.cast (g' := (mkF m 0 #[.val (.ref a)] [])) (by first | (simp [entryFrame, mkF, argsToLocals, Value.category]; done) | rfl) ?_
  show OGo p e below _ s₁ (mkF m 0 #[.val (.ref a)] [])
  refine os (fun _ k => XS.aloadN X0.here hx rfl (hb hby d42_54_0) rfl rfl k) ?_
  show OGo p e below _ s₁ (mkF m 1 #[.val (.ref a)] [(.ref a)])
  obtain ⟨T3, X3, e3, st3⟩ := getF X0 hx hZ hown (host := "") (Or.inl (own_g hw 28 rfl)) Via.refl e0 IF (g := (mkF m 1 #[.val (.ref a)] [(.ref a)])) rfl rfl (hb hby d42_54_1)
  refine os st3 ?_
  show OGo p e below _ T3 (mkF m 4 #[.val (.ref a)] [(.ref d)])
  refine os (fun _ k => alenV X3 hx hZ e3 IV (g := (mkF m 4 #[.val (.ref a)] [(.ref d)])) rfl rfl (hb hby d42_54_4) _ k) ?_
  show OGo p e below _ T3 (mkF m 5 #[.val (.ref a)] [(.int (Int32.ofNat us.length))])
  refine os (fun _ k => XS.aloadN X3.here hx rfl (hb hby d42_54_5) rfl rfl k) ?_
  show OGo p e below _ T3 (mkF m 6 #[.val (.ref a)] [(.ref a), (.int (Int32.ofNat us.length))])
  obtain ⟨v4, T4, L4, X4, hQ4, st4⟩ := vcall X3 hx hZ hown (own_g hw 126 rfl) (own_g hw 127 rfl) (own_g hw 129 rfl) rfl (own_g hw 129 rfl) (own_g hw 128 rfl) (own_g hw 3 rfl) (own_g hw 130 rfl) (by decide) (W := 1) (rm_coder l Z a0 hw [] a zc wf n0 h0 SS' O IC) e3 (by decide) (by decide) (by decide) (by decide) (g := (mkF m 6 #[.val (.ref a)] [(.ref a), (.int (Int32.ofNat us.length))])) rfl (by rw [hml]; rfl) IE (argsL := []) (rest := [(.int (Int32.ofNat us.length))]) opd_0 rfl rfl rfl (by show 2 * 0 + _ ≤ _; exact Nat.le_of_eq rfl) (hb hby d42_54_6)
  obtain ⟨rfl, rfl, e4⟩ := hQ4
  rw [List.append_nil] at X4
  refine os st4 ?_
  show OGo p e below _ T4 (mkF m 9 #[.val (.ref a)] [(.int (0 : Int32)), (.int (Int32.ofNat us.length))])
  refine os (fun _ k => XS.ishr X4.here hx rfl (hb hby d42_54_9) rfl k) ?_
  show OGo p e below _ T4 (mkF m 10 #[.val (.ref a)] [(.int ((Int32.ofNat us.length) >>> ((0 : Int32) &&& 31)))])
  rw [own_shr0]
  show OGo p e below _ T4 (mkF m 10 #[.val (.ref a)] [(.int (Int32.ofNat us.length))])
  exact OGo.ret X4 hx (t := .int) hret hlk rfl (Or.inl ⟨rfl, by simp, _, rfl⟩) (hb hby d42_54_10) (by decide) (by decide) ⟨rfl, rfl, e4⟩
theorem d42_154_0 : decode jdk_42_method_154_code 0 = .ok (.getstatic 38, 3) := by decide +kernel
theorem d42_154_3 : decode jdk_42_method_154_code 3 = .ok (.ifCond .eq 14, 3) := by decide +kernel
theorem d42_154_6 : decode jdk_42_method_154_code 6 = .ok (.aload_n 0, 1) := by decide +kernel
theorem d42_154_7 : decode jdk_42_method_154_code 7 = .ok (.getfield 15, 3) := by decide +kernel
theorem d42_154_10 : decode jdk_42_method_154_code 10 = .ok (.ifCond .ne 7, 3) := by decide +kernel
theorem d42_154_13 : decode jdk_42_method_154_code 13 = .ok (.iconst 1, 1) := by decide +kernel
theorem d42_154_14 : decode jdk_42_method_154_code 14 = .ok (.goto 4, 3) := by decide +kernel
theorem d42_154_18 : decode jdk_42_method_154_code 18 = .ok (.ireturn, 1) := by decide +kernel
theorem opl_rm_isLatin1 : plainFor (⟨"java/lang/String", "isLatin1", "()Z"⟩ : MethodName) = true := plainFor_of_name (by first | (simp [plainName, overriddenIn]; done) | decide +kernel)
set_option maxRecDepth 65536 in
set_option maxHeartbeats 40000000 in
theorem rm_isLatin1 (l : Launch) (Z : State) (a0 : Array Value) (hw : ∀ d ∈ tables_1, d.before a0 Z = true) (ws : List Jvm.Cond) (a : Addr) (zc : Int32) (wf : Value) (n0 : Nat) (h0 : Heap) (SS : own_SS Z zc wf) (O : Old Z n0 h0) (C : Fld Z h0 a "java/lang/String" "coder" "B" (.int (0 : Int32))) :
    Con l Z (⟨"java/lang/String", "isLatin1", "()Z"⟩ : MethodName) jdk_42_method_154_code 1 (some .boolean) ws ({ frames := 0, cells := 0, slots := 0, locals := 0 } : Room) #[(.ref a)] h0 (fun v h L => v = some (.int (1 : Int32)) ∧ L = [] ∧ h = h0) := by
  refine Con.intro opl_rm_isLatin1 ?_
  intro p e s m below meth c s₁ hx hby hml hown hret hlk hZ hnm X0 e0
  obtain ⟨hzc, SC, hwf, SF⟩ := SS
  have Z0 : n0 ≤ h0.size := O.1 ▸ O.2.1
  have N0 := Fr.nil n0
  refine OGo.cast (g' := (mkF m 0 #[.val (.ref a)] [])) (by first | (simp [entryFrame, mkF, argsToLocals, Value.category]; done) | rfl) ?_
  show OGo p e below _ s₁ (mkF m 0 #[.val (.ref a)] [])
  obtain ⟨T5, X5, e5, st5⟩ := getS2 X0 hx hZ hown (host := "") (Or.inl (own_g hw 14 rfl)) Via.refl e0 (SC.ext O.2) (g := (mkF m 0 #[.val (.ref a)] [])) rfl (hb hby d42_154_0)
  refine os st5 ?_
  show OGo p e below _ T5 (mkF m 3 #[.val (.ref a)] [(.int zc)])
  refine os (fun _ k => XS.ifNo X5.here hx rfl (hb hby d42_154_3) rfl ((if0 _ _).trans (feq hzc).1) k) ?_
  show OGo p e below _ T5 (mkF m 6 #[.val (.ref a)] [])
  refine os (fun _ k => XS.aloadN X5.here hx rfl (hb hby d42_154_6) rfl rfl k) ?_
  show OGo p e below _ T5 (mkF m 7 #[.val (.ref a)] [(.ref a)])
  obtain ⟨T6, X6, e6, st6⟩ := getF X5 hx hZ hown (host := "") (Or.inl (own_g hw 26 rfl)) Via.refl e5 C (g := (mkF m 7 #[.val (.ref a)] [(.ref a)])) rfl rfl (hb hby d42_154_7)
  refine os st6 ?_
  show OGo p e below _ T6 (mkF m 10 #[.val (.ref a)] [(.int (0 : Int32))])
  refine os (fun _ k => XS.ifNo X6.here hx rfl (hb hby d42_154_10) rfl ((if0 _ _).trans (teq (rfl : (0 : Int32) = 0)).2) k) ?_
  show OGo p e below _ T6 (mkF m 13 #[.val (.ref a)] [])
  refine os (fun _ k => XS.iconst X6.here hx rfl (hb hby d42_154_13) k) ?_
  show OGo p e below _ T6 (mkF m 14 #[.val (.ref a)] [(.int (1 : Int32))])
  refine os (fun _ k => XS.goto X6.here hx rfl (pc0 := 14) (pc' := 18) rfl (hb hby d42_154_14) (by decide) (by decide) k) ?_
  show OGo p e below _ T6 (mkF m 18 #[.val (.ref a)] [(.int (1 : Int32))])
  exact OGo.ret X6 hx (t := .boolean) hret hlk rfl (Or.inl ⟨rfl, by simp, _, rfl⟩) (hb hby d42_154_18) (by decide) (by decide) ⟨rfl, rfl, e6⟩
theorem d41_11_0 : decode jdk_41_method_11_code 0 = .ok (.iload_n 0, 1) := by decide +kernel
theorem d41_11_1 : decode jdk_41_method_11_code 1 = .ok (.ifCond .lt 8, 3) := by decide +kernel
theorem d41_11_4 : decode jdk_41_method_11_code 4 = .ok (.iload_n 0, 1) := by decide +kernel
theorem d41_11_5 : decode jdk_41_method_11_code 5 = .ok (.iload_n 1, 1) := by decide +kernel
theorem d41_11_6 : decode jdk_41_method_11_code 6 = .ok (.if_icmp .lt 10, 3) := by decide +kernel
theorem d41_11_16 : decode jdk_41_method_11_code 16 = .ok (.iload_n 0, 1) := by decide +kernel
theorem d41_11_17 : decode jdk_41_method_11_code 17 = .ok (.ireturn, 1) := by decide +kernel
theorem opl_rm_pci : plainFor (⟨"jdk/internal/util/Preconditions", "checkIndex", "(IILjava/util/function/BiFunction;)I"⟩ : MethodName) = true := plainFor_of_name (by first | (simp [plainName, overriddenIn]; done) | decide +kernel)
set_option maxRecDepth 65536 in
set_option maxHeartbeats 40000000 in
theorem rm_pci (l : Launch) (Z : State) (a0 : Array Value) (hw : ∀ d ∈ tables_1, d.before a0 Z = true) (ws : List Jvm.Cond) (i n : Int32) (wf : Value) (h0 : Heap) (hwf : wf.isRef = true) (hi0 : ¬ i < 0) (hi1 : i < n) :
    Con l Z (⟨"jdk/internal/util/Preconditions", "checkIndex", "(IILjava/util/function/BiFunction;)I"⟩ : MethodName) jdk_41_method_11_code 3 (some .int) ws ({ frames := 0, cells := 0, slots := 0, locals := 0 } : Room) #[(.int i), (.int n), wf] h0 (fun v h L => v = some (.int i) ∧ L = [] ∧ h = h0) := by
  refine Con.intro opl_rm_pci ?_
  intro p e s m below meth c s₁ hx hby hml hown hret hlk hZ hnm X0 e0
  refine OGo.cast (g' := (mkF m 0 #[.val (.int i), .val (.int n), .val wf] [])) (by rcases ref_cases hwf with rfl | ⟨f, rfl⟩ <;> simp [entryFrame, mkF, argsToLocals, Value.category]) ?_
  show OGo p e below _ s₁ (mkF m 0 #[.val (.int i), .val (.int n), .val wf] [])
  refine os (fun _ k => XS.iloadN X0.here hx rfl (hb hby d41_11_0) rfl k) ?_
  show OGo p e below _ s₁ (mkF m 1 #[.val (.int i), .val (.int n), .val wf] [(.int i)])
  refine os (fun _ k => XS.ifNo X0.here hx rfl (hb hby d41_11_1) rfl ((if0 _ _).trans (flt hi0).1) k) ?_
  show OGo p e below _ s₁ (mkF m 4 #[.val (.int i), .val (.int n), .val wf] [])
  refine os (fun _ k => XS.iloadN X0.here hx rfl (hb hby d41_11_4) rfl k) ?_
  show OGo p e below _ s₁ (mkF m 5 #[.val (.int i), .val (.int n), .val wf] [(.int i)])
  refine os (fun _ k => XS.iloadN X0.here hx rfl (hb hby d41_11_5) rfl k) ?_
  show OGo p e below _ s₁ (mkF m 6 #[.val (.int i), .val (.int n), .val wf] [(.int n), (.int i)])
  refine os (fun _ k => XS.icmpYes X0.here hx rfl (pc0 := 6) (pc' := 16) rfl (hb hby d41_11_6) rfl (tlt hi1).1 (by decide) (by decide) k) ?_
  show OGo p e below _ s₁ (mkF m 16 #[.val (.int i), .val (.int n), .val wf] [])
  refine os (fun _ k => XS.iloadN X0.here hx rfl (hb hby d41_11_16) rfl k) ?_
  show OGo p e below _ s₁ (mkF m 17 #[.val (.int i), .val (.int n), .val wf] [(.int i)])
  exact OGo.ret X0 hx (t := .int) hret hlk rfl (Or.inl ⟨rfl, by simp, _, rfl⟩) (hb hby d41_11_17) (by decide) (by decide) ⟨rfl, rfl, e0⟩
theorem d42_155_0 : decode jdk_42_method_155_code 0 = .ok (.iload_n 0, 1) := by decide +kernel
theorem d42_155_1 : decode jdk_42_method_155_code 1 = .ok (.iload_n 1, 1) := by decide +kernel
theorem d42_155_2 : decode jdk_42_method_155_code 2 = .ok (.getstatic 1053, 3) := by decide +kernel
theorem opd_1 : parseMethodDescriptor "(IILjava/util/function/BiFunction;)I" = some ⟨[.int, .int, (.object "java/util/function/BiFunction")], some .int⟩ := by decide +kernel
theorem d42_155_5 : decode jdk_42_method_155_code 5 = .ok (.invokestatic 1059, 3) := by decide +kernel
theorem d42_155_8 : decode jdk_42_method_155_code 8 = .ok (.pop, 1) := by decide +kernel
theorem d42_155_9 : decode jdk_42_method_155_code 9 = .ok (.return_, 1) := by decide +kernel
theorem opl_rm_sci : plainFor (⟨"java/lang/String", "checkIndex", "(II)V"⟩ : MethodName) = true := plainFor_of_name (by first | (simp [plainName, overriddenIn]; done) | decide +kernel)
set_option maxRecDepth 65536 in
set_option maxHeartbeats 40000000 in
theorem rm_sci (l : Launch) (Z : State) (a0 : Array Value) (hw : ∀ d ∈ tables_1, d.before a0 Z = true) (ws : List Jvm.Cond) (i n : Int32) (zc : Int32) (wf : Value) (n0 : Nat) (h0 : Heap) (SS : own_SS Z zc wf) (O : Old Z n0 h0) (hi0 : ¬ i < 0) (hi1 : i < n) :
    Con l Z (⟨"java/lang/String", "checkIndex", "(II)V"⟩ : MethodName) jdk_42_method_155_code 2 none ws ({ frames := 1, cells := 0, slots := 0, locals := 14 } : Room) #[(.int i), (.int n)] h0 (fun v h L => v = none ∧ L = [] ∧ h = h0) := by
  refine Con.intro opl_rm_sci ?_
  intro p e s m below meth c s₁ hx hby hml hown hret hlk hZ hnm X0 e0
  obtain ⟨hzc, SC, hwf, SF⟩ := SS
  have Z0 : n0 ≤ h0.size := O.1 ▸ O.2.1
  have N0 := Fr.nil n0
  refine OGo.cast (g' := (mkF m 0 #[.val (.int i), .val (.int n)] [])) (by first | (simp [entryFrame, mkF, argsToLocals, Value.category]; done) | rfl) ?_
  show OGo p e below _ s₁ (mkF m 0 #[.val (.int i), .val (.int n)] [])
  refine os (fun _ k => XS.iloadN X0.here hx rfl (hb hby d42_155_0) rfl k) ?_
  show OGo p e below _ s₁ (mkF m 1 #[.val (.int i), .val (.int n)] [(.int i)])
  refine os (fun _ k => XS.iloadN X0.here hx rfl (hb hby d42_155_1) rfl k) ?_
  show OGo p e below _ s₁ (mkF m 2 #[.val (.int i), .val (.int n)] [(.int n), (.int i)])
  obtain ⟨T7, X7, e7, st7⟩ := getS2 X0 hx hZ hown (host := "") (Or.inl (own_g hw 224 rfl)) Via.refl e0 (SF.ext O.2) (g := (mkF m 2 #[.val (.int i), .val (.int n)] [(.int n), (.int i)])) rfl (hb hby d42_155_2)
  refine os st7 ?_
  show OGo p e below _ T7 (mkF m 5 #[.val (.int i), .val (.int n)] [wf, (.int n), (.int i)])
  obtain ⟨v8, T8, L8, X8, hQ8, st8⟩ := scall X7 hx hZ hown (own_g hw 226 rfl) (own_g hw 227 rfl) (own_g hw 225 rfl) (own_g hw 228 rfl) (by decide) (W := 0) (rm_pci l Z a0 hw [] i n wf h0 hwf hi0 hi1) e7 (by decide) (by decide) (by decide) (by decide) (g := (mkF m 5 #[.val (.int i), .val (.int n)] [wf, (.int n), (.int i)])) rfl (by rw [hml]; rfl) (argsL := [(.int i), (.int n), wf]) (rest := []) opd_1 rfl rfl rfl (by show 2 * 0 + _ ≤ _; exact Nat.le_of_eq rfl) (hb hby d42_155_5)
  obtain ⟨rfl, rfl, e8⟩ := hQ8
  rw [List.append_nil] at X8
  refine os st8 ?_
  show OGo p e below _ T8 (mkF m 8 #[.val (.int i), .val (.int n)] [(.int i)])
  refine os (fun _ k => XS.pop X8.here hx rfl (hb hby d42_155_8) rfl rfl k) ?_
  show OGo p e below _ T8 (mkF m 9 #[.val (.int i), .val (.int n)] [])
  exact OGo.retV X8 hx hret hlk (hb hby d42_155_9) (by decide) (by decide) ⟨rfl, rfl, e8⟩
theorem d43_2_0 : decode jdk_43_method_2_code 0 = .ok (.iload_n 1, 1) := by decide +kernel
theorem d43_2_1 : decode jdk_43_method_2_code 1 = .ok (.aload_n 0, 1) := by decide +kernel
theorem d43_2_2 : decode jdk_43_method_2_code 2 = .ok (.arraylength, 1) := by decide +kernel
theorem opd_2 : parseMethodDescriptor "(II)V" = some ⟨[.int, .int], none⟩ := by decide +kernel
theorem d43_2_3 : decode jdk_43_method_2_code 3 = .ok (.invokestatic 9, 3) := by decide +kernel
theorem d43_2_6 : decode jdk_43_method_2_code 6 = .ok (.aload_n 0, 1) := by decide +kernel
theorem d43_2_7 : decode jdk_43_method_2_code 7 = .ok (.iload_n 1, 1) := by decide +kernel
theorem d43_2_8 : decode jdk_43_method_2_code 8 = .ok (.baload, 1) := by decide +kernel
theorem d43_2_9 : decode jdk_43_method_2_code 9 = .ok (.sipush 255, 3) := by decide +kernel
theorem d43_2_12 : decode jdk_43_method_2_code 12 = .ok (.iand, 1) := by decide +kernel
theorem d43_2_13 : decode jdk_43_method_2_code 13 = .ok (.i2c, 1) := by decide +kernel
theorem d43_2_14 : decode jdk_43_method_2_code 14 = .ok (.ireturn, 1) := by decide +kernel
theorem opl_rm_lca : plainFor (⟨"java/lang/StringLatin1", "charAt", "([BI)C"⟩ : MethodName) = true := plainFor_of_name (by first | (simp [plainName, overriddenIn]; done) | decide +kernel)
set_option maxRecDepth 65536 in
set_option maxHeartbeats 40000000 in
theorem rm_lca (l : Launch) (Z : State) (a0 : Array Value) (hw : ∀ d ∈ tables_1, d.before a0 Z = true) (ws : List Jvm.Cond) (d : Addr) (k : ClassId) (z i b : Int32) (us : List Value) (zc : Int32) (wf : Value) (n0 : Nat) (h0 : Heap) (SS : own_SS Z zc wf) (O : Old Z n0 h0) (V : Arv Z h0 d k .byte z us (.int (0 : Int32))) (hi0 : ¬ i < 0) (hi1 : i < z) (hat : us.getD i.toNatClampNeg (.int (0 : Int32)) = .int b) :
    Con l Z (⟨"java/lang/StringLatin1", "charAt", "([BI)C"⟩ : MethodName) jdk_43_method_2_code 2 (some .char) ws ({ frames := 2, cells := 0, slots := 0, locals := 27 } : Room) #[(.ref d), (.int i)] h0 (fun v h L => v = some (.int (b &&& 255)) ∧ L = [] ∧ h = h0) := by
  refine Con.intro opl_rm_lca ?_
  intro p e s m below meth c s₁ hx hby hml hown hret hlk hZ hnm X0 e0
  have SS' := SS
  obtain ⟨hzc, SC, hwf, SF⟩ := SS
  have Z0 : n0 ≤ h0.size := O.1 ▸ O.2.1
  have N0 := Fr.nil n0
  refine OGo.cast (g' := (mkF m 0 #[.val (.ref d), .val (.int i)] [])) (by first | (simp [entryFrame, mkF, argsToLocals, Value.category]; done) | rfl) ?_
  show OGo p e below _ s₁ (mkF m 0 #[.val (.ref d), .val (.int i)] [])
  refine os (fun _ k => XS.iloadN X0.here hx rfl (hb hby d43_2_0) rfl k) ?_
  show OGo p e below _ s₁ (mkF m 1 #[.val (.ref d), .val (.int i)] [(.int i)])
  refine os (fun _ k => XS.aloadN X0.here hx rfl (hb hby d43_2_1) rfl rfl k) ?_
  show OGo p e below _ s₁ (mkF m 2 #[.val (.ref d), .val (.int i)] [(.ref d), (.int i)])
  refine os (fun _ k => alenV X0 hx hZ e0 V (g := (mkF m 2 #[.val (.ref d), .val (.int i)] [(.ref d), (.int i)])) rfl rfl (hb hby d43_2_2) _ k) ?_
  show OGo p e below _ s₁ (mkF m 3 #[.val (.ref d), .val (.int i)] [(.int z), (.int i)])
  obtain ⟨v9, T9, L9, X9, hQ9, st9⟩ := scall X0 hx hZ hown (own_g hw 221 rfl) (own_g hw 222 rfl) (own_g hw 3 rfl) (own_g hw 223 rfl) (by decide) (W := 0) (rm_sci l Z a0 hw [] i z zc wf n0 h0 SS' O hi0 hi1) e0 (by decide) (by decide) (by decide) (by decide) (g := (mkF m 3 #[.val (.ref d), .val (.int i)] [(.int z), (.int i)])) rfl (by rw [hml]; rfl) (argsL := [(.int i), (.int z)]) (rest := []) opd_2 rfl rfl rfl (by show 2 * 0 + _ ≤ _; exact Nat.le_of_eq rfl) (hb hby d43_2_3)
  obtain ⟨rfl, rfl, e9⟩ := hQ9
  rw [List.append_nil] at X9
  refine os st9 ?_
  show OGo p e below _ T9 (mkF m 6 #[.val (.ref d), .val (.int i)] [])
  refine os (fun _ k => XS.aloadN X9.here hx rfl (hb hby d43_2_6) rfl rfl k) ?_
  show OGo p e below _ T9 (mkF m 7 #[.val (.ref d), .val (.int i)] [(.ref d)])
  refine os (fun _ k => XS.iloadN X9.here hx rfl (hb hby d43_2_7) rfl k) ?_
  show OGo p e below _ T9 (mkF m 8 #[.val (.ref d), .val (.int i)] [(.int i), (.ref d)])
  refine os (fun _ k => baloadV X9 hx hZ e9 V ⟨hi0, hi1⟩ hat (g := (mkF m 8 #[.val (.ref d), .val (.int i)] [(.int i), (.ref d)])) rfl rfl (hb hby d43_2_8) _ k) ?_
  show OGo p e below _ T9 (mkF m 9 #[.val (.ref d), .val (.int i)] [(.int b)])
  refine os (fun _ k => XS.sipush X9.here hx rfl (hb hby d43_2_9) k) ?_
  show OGo p e below _ T9 (mkF m 12 #[.val (.ref d), .val (.int i)] [(.int (255 : Int32)), (.int b)])
  refine os (fun _ k => XS.iand X9.here hx rfl (hb hby d43_2_12) rfl k) ?_
  show OGo p e below _ T9 (mkF m 13 #[.val (.ref d), .val (.int i)] [(.int (b &&& (255 : Int32)))])
  refine os (fun _ k => XS.i2c X9.here hx rfl (hb hby d43_2_13) rfl k) ?_
  show OGo p e below _ T9 (mkF m 14 #[.val (.ref d), .val (.int i)] [(.int ((b &&& (255 : Int32)).toUInt32.toUInt16.toUInt32.toInt32))])
  exact OGo.ret X9 hx (t := .char) hret hlk (by rw [i2c_mask]; exact own_nar255 _) (Or.inl ⟨rfl, by simp, _, rfl⟩) (hb hby d43_2_14) (by decide) (by decide) ⟨by rw [i2c_mask], rfl, e9⟩
theorem d42_56_0 : decode jdk_42_method_56_code 0 = .ok (.aload_n 0, 1) := by decide +kernel
theorem opd_3 : parseMethodDescriptor "()Z" = some ⟨[], some .boolean⟩ := by decide +kernel
theorem d42_56_1 : decode jdk_42_method_56_code 1 = .ok (.invokevirtual 492, 3) := by decide +kernel
theorem d42_56_4 : decode jdk_42_method_56_code 4 = .ok (.ifCond .eq 12, 3) := by decide +kernel
theorem d42_56_7 : decode jdk_42_method_56_code 7 = .ok (.aload_n 0, 1) := by decide +kernel
theorem d42_56_8 : decode jdk_42_method_56_code 8 = .ok (.getfield 9, 3) := by decide +kernel
theorem d42_56_11 : decode jdk_42_method_56_code 11 = .ok (.iload_n 1, 1) := by decide +kernel
theorem opd_4 : parseMethodDescriptor "([BI)C" = some ⟨[(.array .byte), .int], some .char⟩ := by decide +kernel
theorem d42_56_12 : decode jdk_42_method_56_code 12 = .ok (.invokestatic 495, 3) := by decide +kernel
theorem d42_56_15 : decode jdk_42_method_56_code 15 = .ok (.ireturn, 1) := by decide +kernel
theorem opl_rm_charAt : plainFor (⟨"java/lang/String", "charAt", "(I)C"⟩ : MethodName) = true := plainFor_of_name (by first | (simp [plainName, overriddenIn]; done) | decide +kernel)
set_option maxRecDepth 65536 in
set_option maxHeartbeats 40000000 in
theorem rm_charAt (l : Launch) (Z : State) (a0 : Array Value) (hw : ∀ d ∈ tables_1, d.before a0 Z = true) (ws : List Jvm.Cond) (a d : Addr) (k : ClassId) (us : List Value) (i b : Int32) (zc : Int32) (wf : Value) (n0 : Nat) (h0 : Heap) (SS : own_SS Z zc wf) (O : Old Z n0 h0) (I : STI Z h0 a d k us) (hi0 : ¬ i < 0) (hi1 : i < Int32.ofNat us.length) (hat : us.getD i.toNatClampNeg (.int (0 : Int32)) = .int b) :
    Con l Z (⟨"java/lang/String", "charAt", "(I)C"⟩ : MethodName) jdk_42_method_56_code 2 (some .char) ws ({ frames := 3, cells := 0, slots := 0, locals := 40 } : Room) #[(.ref a), (.int i)] h0 (fun v h L => v = some (.int (b &&& 255)) ∧ L = [] ∧ h = h0) := by
  refine Con.intro opl_rm_charAt ?_
  intro p e s m below meth c s₁ hx hby hml hown hret hlk hZ hnm X0 e0
  have SS' := SS
  obtain ⟨hzc, SC, hwf, SF⟩ := SS
  have Z0 : n0 ≤ h0.size := O.1 ▸ O.2.1
  have N0 := Fr.nil n0
  obtain ⟨IE, IC, IF, IV⟩ := I
  refine OGo.cast (g' := (mkF m 0 #[.val (.ref a), .val (.int i)] [])) (by first | (simp [entryFrame, mkF, argsToLocals, Value.category]; done) | rfl) ?_
  show OGo p e below _ s₁ (mkF m 0 #[.val (.ref a), .val (.int i)] [])
  refine os (fun _ k => XS.aloadN X0.here hx rfl (hb hby d42_56_0) rfl rfl k) ?_
  show OGo p e below _ s₁ (mkF m 1 #[.val (.ref a), .val (.int i)] [(.ref a)])
  obtain ⟨v10, T10, L10, X10, hQ10, st10⟩ := vcall X0 hx hZ hown (own_g hw 212 rfl) (own_g hw 213 rfl) (own_g hw 215 rfl) rfl (own_g hw 215 rfl) (own_g hw 214 rfl) (own_g hw 3 rfl) (own_g hw 216 rfl) (by decide) (W := 0) (rm_isLatin1 l Z a0 hw [] a zc wf n0 h0 SS' O IC) e0 (by decide) (by decide) (by decide) (by decide) (g := (mkF m 1 #[.val (.ref a), .val (.int i)] [(.ref a)])) rfl (by rw [hml]; rfl) IE (argsL := []) (rest := []) opd_3 rfl rfl rfl (by show 2 * 0 + _ ≤ _; exact Nat.le_of_eq rfl) (hb hby d42_56_1)
  obtain ⟨rfl, rfl, e10⟩ := hQ10
  rw [List.append_nil] at X10
  refine os st10 ?_
  show OGo p e below _ T10 (mkF m 4 #[.val (.ref a), .val (.int i)] [(.int (1 : Int32))])
  refine os (fun _ k => XS.ifNo X10.here hx rfl (hb hby d42_56_4) rfl ((if0 _ _).trans (feq (by decide : ¬ (1 : Int32) = 0)).1) k) ?_
  show OGo p e below _ T10 (mkF m 7 #[.val (.ref a), .val (.int i)] [])
  refine os (fun _ k => XS.aloadN X10.here hx rfl (hb hby d42_56_7) rfl rfl k) ?_
  show OGo p e below _ T10 (mkF m 8 #[.val (.ref a), .val (.int i)] [(.ref a)])
  obtain ⟨T11, X11, e11, st11⟩ := getF X10 hx hZ hown (host := "") (Or.inl (own_g hw 28 rfl)) Via.refl e10 IF (g := (mkF m 8 #[.val (.ref a), .val (.int i)] [(.ref a)])) rfl rfl (hb hby d42_56_8)
  refine os st11 ?_
  show OGo p e below _ T11 (mkF m 11 #[.val (.ref a), .val (.int i)] [(.ref d)])
  refine os (fun _ k => XS.iloadN X11.here hx rfl (hb hby d42_56_11) rfl k) ?_
  show OGo p e below _ T11 (mkF m 12 #[.val (.ref a), .val (.int i)] [(.int i), (.ref d)])
  obtain ⟨v12, T12, L12, X12, hQ12, st12⟩ := scall X11 hx hZ hown (own_g hw 217 rfl) (own_g hw 218 rfl) (own_g hw 219 rfl) (own_g hw 220 rfl) (by decide) (W := 0) (rm_lca l Z a0 hw [] d k (Int32.ofNat us.length) i b us zc wf n0 h0 SS' O IV hi0 hi1 hat) e11 (by decide) (by decide) (by decide) (by decide) (g := (mkF m 12 #[.val (.ref a), .val (.int i)] [(.int i), (.ref d)])) rfl (by rw [hml]; rfl) (argsL := [(.ref d), (.int i)]) (rest := []) opd_4 rfl rfl rfl (by show 2 * 0 + _ ≤ _; exact Nat.le_of_eq rfl) (hb hby d42_56_12)
  obtain ⟨rfl, rfl, e12⟩ := hQ12
  rw [List.append_nil] at X12
  refine os st12 ?_
  show OGo p e below _ T12 (mkF m 15 #[.val (.ref a), .val (.int i)] [(.int (b &&& 255))])
  exact OGo.ret X12 hx (t := .char) hret hlk (own_nar255 _) (Or.inl ⟨rfl, by simp, _, rfl⟩) (hb hby d42_56_15) (by decide) (by decide) ⟨rfl, rfl, e12⟩
theorem d29_65_0 : decode jdk_29_method_65_code 0 = .ok (.iload_n 0, 1) := by decide +kernel
theorem d29_65_1 : decode jdk_29_method_65_code 1 = .ok (.iload_n 1, 1) := by decide +kernel
theorem d29_65_2 : decode jdk_29_method_65_code 2 = .ok (.if_icmp .lt 7, 3) := by decide +kernel
theorem d29_65_9 : decode jdk_29_method_65_code 9 = .ok (.iload_n 1, 1) := by decide +kernel
theorem d29_65_10 : decode jdk_29_method_65_code 10 = .ok (.ireturn, 1) := by decide +kernel
theorem d29_65_5 : decode jdk_29_method_65_code 5 = .ok (.iload_n 0, 1) := by decide +kernel
theorem d29_65_6 : decode jdk_29_method_65_code 6 = .ok (.goto 4, 3) := by decide +kernel
theorem opl_rm_max : plainFor (⟨"java/lang/Math", "max", "(II)I"⟩ : MethodName) = true := Jvm.Free.JP.mathPlain rfl (by decide +kernel)
set_option maxRecDepth 65536 in
set_option maxHeartbeats 40000000 in
theorem rm_max (l : Launch) (Z : State) (a0 : Array Value) (hw : ∀ d ∈ tables_1, d.before a0 Z = true) (ws : List Jvm.Cond) (a b : Int32) (h0 : Heap)  :
    Con l Z (⟨"java/lang/Math", "max", "(II)I"⟩ : MethodName) jdk_29_method_65_code 2 (some .int) ws ({ frames := 0, cells := 0, slots := 0, locals := 0 } : Room) #[(.int a), (.int b)] h0 (fun v h L => v = some (.int (if a < b then b else a)) ∧ L = [] ∧ h = h0) := by
  refine Con.intro opl_rm_max ?_
  intro p e s m below meth c s₁ hx hby hml hown hret hlk hZ hnm X0 e0
  refine OGo.cast (g' := (mkF m 0 #[.val (.int a), .val (.int b)] [])) (by first | (simp [entryFrame, mkF, argsToLocals, Value.category]; done) | rfl) ?_
  show OGo p e below _ s₁ (mkF m 0 #[.val (.int a), .val (.int b)] [])
  refine os (fun _ k => XS.iloadN X0.here hx rfl (hb hby d29_65_0) rfl k) ?_
  show OGo p e below _ s₁ (mkF m 1 #[.val (.int a), .val (.int b)] [(.int a)])
  refine os (fun _ k => XS.iloadN X0.here hx rfl (hb hby d29_65_1) rfl k) ?_
  show OGo p e below _ s₁ (mkF m 2 #[.val (.int a), .val (.int b)] [(.int b), (.int a)])
  by_cases q : a < b
  · refine os (fun _ k => XS.icmpYes X0.here hx rfl (pc0 := 2) (pc' := 9) rfl (hb hby d29_65_2) rfl (tlt q).1 (by decide) (by decide) k) ?_
    show OGo p e below _ s₁ (mkF m 9 #[.val (.int a), .val (.int b)] [])
    refine os (fun _ k => XS.iloadN X0.here hx rfl (hb hby d29_65_9) rfl k) ?_
    show OGo p e below _ s₁ (mkF m 10 #[.val (.int a), .val (.int b)] [(.int b)])
    exact OGo.ret X0 hx (t := .int) hret hlk rfl (Or.inl ⟨rfl, by simp, _, rfl⟩) (hb hby d29_65_10) (by decide) (by decide) ⟨by rw [if_pos q], rfl, e0⟩
  refine os (fun _ k => XS.icmpNo X0.here hx rfl (hb hby d29_65_2) rfl (flt q).1 k) ?_
  show OGo p e below _ s₁ (mkF m 5 #[.val (.int a), .val (.int b)] [])
  refine os (fun _ k => XS.iloadN X0.here hx rfl (hb hby d29_65_5) rfl k) ?_
  show OGo p e below _ s₁ (mkF m 6 #[.val (.int a), .val (.int b)] [(.int a)])
  refine os (fun _ k => XS.goto X0.here hx rfl (pc0 := 6) (pc' := 10) rfl (hb hby d29_65_6) (by decide) (by decide) k) ?_
  show OGo p e below _ s₁ (mkF m 10 #[.val (.int a), .val (.int b)] [(.int a)])
  exact OGo.ret X0 hx (t := .int) hret hlk rfl (Or.inl ⟨rfl, by simp, _, rfl⟩) (hb hby d29_65_10) (by decide) (by decide) ⟨by rw [if_neg q], rfl, e0⟩
theorem d29_69_0 : decode jdk_29_method_69_code 0 = .ok (.iload_n 0, 1) := by decide +kernel
theorem d29_69_1 : decode jdk_29_method_69_code 1 = .ok (.iload_n 1, 1) := by decide +kernel
theorem d29_69_2 : decode jdk_29_method_69_code 2 = .ok (.if_icmp .gt 7, 3) := by decide +kernel
theorem d29_69_5 : decode jdk_29_method_69_code 5 = .ok (.iload_n 0, 1) := by decide +kernel
theorem d29_69_6 : decode jdk_29_method_69_code 6 = .ok (.goto 4, 3) := by decide +kernel
theorem d29_69_10 : decode jdk_29_method_69_code 10 = .ok (.ireturn, 1) := by decide +kernel
theorem opl_rm_minA : plainFor (⟨"java/lang/Math", "min", "(II)I"⟩ : MethodName) = true := Jvm.Free.JP.mathPlain rfl (by decide +kernel)
set_option maxRecDepth 65536 in
set_option maxHeartbeats 40000000 in
theorem rm_minA (l : Launch) (Z : State) (a0 : Array Value) (hw : ∀ d ∈ tables_1, d.before a0 Z = true) (ws : List Jvm.Cond) (a b : Int32) (h0 : Heap) (hab : ¬ b < a) :
    Con l Z (⟨"java/lang/Math", "min", "(II)I"⟩ : MethodName) jdk_29_method_69_code 2 (some .int) ws ({ frames := 0, cells := 0, slots := 0, locals := 0 } : Room) #[(.int a), (.int b)] h0 (fun v h L => v = some (.int a) ∧ L = [] ∧ h = h0) := by
  refine Con.intro opl_rm_minA ?_
  intro p e s m below meth c s₁ hx hby hml hown hret hlk hZ hnm X0 e0
  refine OGo.cast (g' := (mkF m 0 #[.val (.int a), .val (.int b)] [])) (by first | (simp [entryFrame, mkF, argsToLocals, Value.category]; done) | rfl) ?_
  show OGo p e below _ s₁ (mkF m 0 #[.val (.int a), .val (.int b)] [])
  refine os (fun _ k => XS.iloadN X0.here hx rfl (hb hby d29_69_0) rfl k) ?_
  show OGo p e below _ s₁ (mkF m 1 #[.val (.int a), .val (.int b)] [(.int a)])
  refine os (fun _ k => XS.iloadN X0.here hx rfl (hb hby d29_69_1) rfl k) ?_
  show OGo p e below _ s₁ (mkF m 2 #[.val (.int a), .val (.int b)] [(.int b), (.int a)])
  refine os (fun _ k => XS.icmpNo X0.here hx rfl (hb hby d29_69_2) rfl (flt hab).2.2.1 k) ?_
  show OGo p e below _ s₁ (mkF m 5 #[.val (.int a), .val (.int b)] [])
  refine os (fun _ k => XS.iloadN X0.here hx rfl (hb hby d29_69_5) rfl k) ?_
  show OGo p e below _ s₁ (mkF m 6 #[.val (.int a), .val (.int b)] [(.int a)])
  refine os (fun _ k => XS.goto X0.here hx rfl (pc0 := 6) (pc' := 10) rfl (hb hby d29_69_6) (by decide) (by decide) k) ?_
  show OGo p e below _ s₁ (mkF m 10 #[.val (.int a), .val (.int b)] [(.int a)])
  exact OGo.ret X0 hx (t := .int) hret hlk rfl (Or.inl ⟨rfl, by simp, _, rfl⟩) (hb hby d29_69_10) (by decide) (by decide) ⟨rfl, rfl, e0⟩
theorem d48_27_0 : decode jdk_48_method_27_code 0 = .ok (.iload_n 0, 1) := by decide +kernel
theorem d48_27_1 : decode jdk_48_method_27_code 1 = .ok (.iload_n 1, 1) := by decide +kernel
theorem d48_27_2 : decode jdk_48_method_27_code 2 = .ok (.iload_n 2, 1) := by decide +kernel
theorem opd_5 : parseMethodDescriptor "(II)I" = some ⟨[.int, .int], some .int⟩ := by decide +kernel
theorem d48_27_3 : decode jdk_48_method_27_code 3 = .ok (.invokestatic 194, 3) := by decide +kernel
theorem d48_27_6 : decode jdk_48_method_27_code 6 = .ok (.iadd, 1) := by decide +kernel
theorem d48_27_7 : decode jdk_48_method_27_code 7 = .ok (.istore_n 3, 1) := by decide +kernel
theorem d48_27_8 : decode jdk_48_method_27_code 8 = .ok (.iconst 0, 1) := by decide +kernel
theorem d48_27_9 : decode jdk_48_method_27_code 9 = .ok (.iload_n 3, 1) := by decide +kernel
theorem d48_27_10 : decode jdk_48_method_27_code 10 = .ok (.if_icmp .ge 11, 3) := by decide +kernel
theorem d48_27_13 : decode jdk_48_method_27_code 13 = .ok (.iload_n 3, 1) := by decide +kernel
theorem d48_27_14 : decode jdk_48_method_27_code 14 = .ok (.ldc 200, 2) := by decide +kernel
theorem d48_27_16 : decode jdk_48_method_27_code 16 = .ok (.if_icmp .gt 5, 3) := by decide +kernel
theorem d48_27_19 : decode jdk_48_method_27_code 19 = .ok (.iload_n 3, 1) := by decide +kernel
theorem d48_27_20 : decode jdk_48_method_27_code 20 = .ok (.ireturn, 1) := by decide +kernel
theorem opl_rm_newLen : plainFor (⟨"jdk/internal/util/ArraysSupport", "newLength", "(III)I"⟩ : MethodName) = true := plainFor_of_name (by first | (simp [plainName, overriddenIn]; done) | decide +kernel)
set_option maxRecDepth 65536 in
set_option maxHeartbeats 40000000 in
theorem rm_newLen (l : Launch) (Z : State) (a0 : Array Value) (hw : ∀ d ∈ tables_1, d.before a0 Z = true) (ws : List Jvm.Cond) (zn g f : Nat) (h0 : Heap) (h1 : zn ≤ 1000000) (h2 : g ≤ 1000000) (h3 : f ≤ 1000000) (h4 : 1 ≤ f) :
    Con l Z (⟨"jdk/internal/util/ArraysSupport", "newLength", "(III)I"⟩ : MethodName) jdk_48_method_27_code 4 (some .int) ws ({ frames := 1, cells := 0, slots := 0, locals := 14 } : Room) #[(.int (Int32.ofNat zn)), (.int (Int32.ofNat g)), (.int (Int32.ofNat f))] h0 (fun v h L => v = some (.int (Int32.ofNat (zn + max g f))) ∧ L = [] ∧ h = h0) := by
  refine Con.intro opl_rm_newLen ?_
  intro p e s m below meth c s₁ hx hby hml hown hret hlk hZ hnm X0 e0
  refine OGo.cast (g' := (mkF m 0 #[.val (.int (Int32.ofNat zn)), .val (.int (Int32.ofNat g)), .val (.int (Int32.ofNat f)), .unset] [])) (by first | (simp [entryFrame, mkF, argsToLocals, Value.category]; done) | rfl) ?_
  show OGo p e below _ s₁ (mkF m 0 #[.val (.int (Int32.ofNat zn)), .val (.int (Int32.ofNat g)), .val (.int (Int32.ofNat f)), .unset] [])
  refine os (fun _ k => XS.iloadN X0.here hx rfl (hb hby d48_27_0) rfl k) ?_
  show OGo p e below _ s₁ (mkF m 1 #[.val (.int (Int32.ofNat zn)), .val (.int (Int32.ofNat g)), .val (.int (Int32.ofNat f)), .unset] [(.int (Int32.ofNat zn))])
  refine os (fun _ k => XS.iloadN X0.here hx rfl (hb hby d48_27_1) rfl k) ?_
  show OGo p e below _ s₁ (mkF m 2 #[.val (.int (Int32.ofNat zn)), .val (.int (Int32.ofNat g)), .val (.int (Int32.ofNat f)), .unset] [(.int (Int32.ofNat g)), (.int (Int32.ofNat zn))])
  refine os (fun _ k => XS.iloadN X0.here hx rfl (hb hby d48_27_2) rfl k) ?_
  show OGo p e below _ s₁ (mkF m 3 #[.val (.int (Int32.ofNat zn)), .val (.int (Int32.ofNat g)), .val (.int (Int32.ofNat f)), .unset] [(.int (Int32.ofNat f)), (.int (Int32.ofNat g)), (.int (Int32.ofNat zn))])
  obtain ⟨v13, T13, L13, X13, hQ13, st13⟩ := scall X0 hx hZ hown (own_g hw 280 rfl) (own_g hw 281 rfl) (own_g hw 203 rfl) (own_g hw 282 rfl) (by decide) (W := 1) (rm_max l Z a0 hw [] (Int32.ofNat g) (Int32.ofNat f) h0 ) e0 (by decide) (by decide) (by decide) (by decide) (g := (mkF m 3 #[.val (.int (Int32.ofNat zn)), .val (.int (Int32.ofNat g)), .val (.int (Int32.ofNat f)), .unset] [(.int (Int32.ofNat f)), (.int (Int32.ofNat g)), (.int (Int32.ofNat zn))])) rfl (by rw [hml]; rfl) (argsL := [(.int (Int32.ofNat g)), (.int (Int32.ofNat f))]) (rest := [(.int (Int32.ofNat zn))]) opd_5 rfl rfl rfl (by show 2 * 0 + _ ≤ _; exact Nat.le_of_eq rfl) (hb hby d48_27_3)
  obtain ⟨rfl, rfl, e13⟩ := hQ13
  rw [List.append_nil] at X13
  refine os st13 ?_
  show OGo p e below _ T13 (mkF m 6 #[.val (.int (Int32.ofNat zn)), .val (.int (Int32.ofNat g)), .val (.int (Int32.ofNat f)), .unset] [(.int (if Int32.ofNat g < Int32.ofNat f then Int32.ofNat f else Int32.ofNat g)), (.int (Int32.ofNat zn))])
  have hm : (if Int32.ofNat g < Int32.ofNat f then Int32.ofNat f else Int32.ofNat g) = Int32.ofNat (max g f) := by
    split
    · next q => rw [own_lt (by omega) (by omega)] at q; rw [Nat.max_eq_right (by omega)]
    · next q => rw [own_lt (by omega) (by omega)] at q; rw [Nat.max_eq_left (by omega)]
  rw [hm]
  show OGo p e below _ T13 (mkF m 6 #[.val (.int (Int32.ofNat zn)), .val (.int (Int32.ofNat g)), .val (.int (Int32.ofNat f)), .unset] [(.int (Int32.ofNat (max g f))), (.int (Int32.ofNat zn))])
  refine os (fun _ k => XS.iadd X13.here hx rfl (hb hby d48_27_6) rfl k) ?_
  show OGo p e below _ T13 (mkF m 7 #[.val (.int (Int32.ofNat zn)), .val (.int (Int32.ofNat g)), .val (.int (Int32.ofNat f)), .unset] [(.int ((Int32.ofNat zn) + (Int32.ofNat (max g f))))])
  rw [own_addn]
  show OGo p e below _ T13 (mkF m 7 #[.val (.int (Int32.ofNat zn)), .val (.int (Int32.ofNat g)), .val (.int (Int32.ofNat f)), .unset] [(.int (Int32.ofNat (zn + max g f)))])
  refine os (fun _ k => XS.istoreN X13.here hx rfl (hb hby d48_27_7) rfl (l' := #[.val (.int (Int32.ofNat zn)), .val (.int (Int32.ofNat g)), .val (.int (Int32.ofNat f)), .val (.int (Int32.ofNat (zn + max g f)))]) rfl k) ?_
  show OGo p e below _ T13 (mkF m 8 #[.val (.int (Int32.ofNat zn)), .val (.int (Int32.ofNat g)), .val (.int (Int32.ofNat f)), .val (.int (Int32.ofNat (zn + max g f)))] [])
  refine os (fun _ k => XS.iconst X13.here hx rfl (hb hby d48_27_8) k) ?_
  show OGo p e below _ T13 (mkF m 9 #[.val (.int (Int32.ofNat zn)), .val (.int (Int32.ofNat g)), .val (.int (Int32.ofNat f)), .val (.int (Int32.ofNat (zn + max g f)))] [(.int (0 : Int32))])
  refine os (fun _ k => XS.iloadN X13.here hx rfl (hb hby d48_27_9) rfl k) ?_
  show OGo p e below _ T13 (mkF m 10 #[.val (.int (Int32.ofNat zn)), .val (.int (Int32.ofNat g)), .val (.int (Int32.ofNat f)), .val (.int (Int32.ofNat (zn + max g f)))] [(.int (Int32.ofNat (zn + max g f))), (.int (0 : Int32))])
  refine os (fun _ k => XS.icmpNo X13.here hx rfl (hb hby d48_27_10) rfl (tlt (show Int32.ofNat 0 < Int32.ofNat (zn + max g f) from (own_lt (by decide) (by omega)).mpr (by omega))).2.1 k) ?_
  show OGo p e below _ T13 (mkF m 13 #[.val (.int (Int32.ofNat zn)), .val (.int (Int32.ofNat g)), .val (.int (Int32.ofNat f)), .val (.int (Int32.ofNat (zn + max g f)))] [])
  refine os (fun _ k => XS.iloadN X13.here hx rfl (hb hby d48_27_13) rfl k) ?_
  show OGo p e below _ T13 (mkF m 14 #[.val (.int (Int32.ofNat zn)), .val (.int (Int32.ofNat g)), .val (.int (Int32.ofNat f)), .val (.int (Int32.ofNat (zn + max g f)))] [(.int (Int32.ofNat (zn + max g f)))])
  refine os (fun _ k => Jvm.Stand.ldcI X13 hx hown (mvT hZ (own_g hw 283 rfl)) rfl (hb hby d48_27_14) k) ?_
  show OGo p e below _ T13 (mkF m 16 #[.val (.int (Int32.ofNat zn)), .val (.int (Int32.ofNat g)), .val (.int (Int32.ofNat f)), .val (.int (Int32.ofNat (zn + max g f)))] [(.int (2147483639 : Int32)), (.int (Int32.ofNat (zn + max g f)))])
  refine os (fun _ k => XS.icmpNo X13.here hx rfl (hb hby d48_27_16) rfl (flt (fun q => by have := (own_lt (a := 2147483639) (by decide) (by omega)).mp q; omega)).2.2.1 k) ?_
  show OGo p e below _ T13 (mkF m 19 #[.val (.int (Int32.ofNat zn)), .val (.int (Int32.ofNat g)), .val (.int (Int32.ofNat f)), .val (.int (Int32.ofNat (zn + max g f)))] [])
  refine os (fun _ k => XS.iloadN X13.here hx rfl (hb hby d48_27_19) rfl k) ?_
  show OGo p e below _ T13 (mkF m 20 #[.val (.int (Int32.ofNat zn)), .val (.int (Int32.ofNat g)), .val (.int (Int32.ofNat f)), .val (.int (Int32.ofNat (zn + max g f)))] [(.int (Int32.ofNat (zn + max g f)))])
  exact OGo.ret X13 hx (t := .int) hret hlk rfl (Or.inl ⟨rfl, by simp, _, rfl⟩) (hb hby d48_27_20) (by decide) (by decide) ⟨rfl, rfl, e13⟩
theorem d68_10_0 : decode jdk_68_method_10_code 0 = .ok (.aload_n 0, 1) := by decide +kernel
theorem d68_10_1 : decode jdk_68_method_10_code 1 = .ok (.getfield 15, 3) := by decide +kernel
theorem d68_10_4 : decode jdk_68_method_10_code 4 = .ok (.arraylength, 1) := by decide +kernel
theorem d68_10_5 : decode jdk_68_method_10_code 5 = .ok (.istore_n 2, 1) := by decide +kernel
theorem d68_10_6 : decode jdk_68_method_10_code 6 = .ok (.iload_n 1, 1) := by decide +kernel
theorem d68_10_7 : decode jdk_68_method_10_code 7 = .ok (.aload_n 0, 1) := by decide +kernel
theorem d68_10_8 : decode jdk_68_method_10_code 8 = .ok (.getfield 22, 3) := by decide +kernel
theorem d68_10_11 : decode jdk_68_method_10_code 11 = .ok (.ishl, 1) := by decide +kernel
theorem d68_10_12 : decode jdk_68_method_10_code 12 = .ok (.istore_n 3, 1) := by decide +kernel
theorem d68_10_13 : decode jdk_68_method_10_code 13 = .ok (.iload_n 3, 1) := by decide +kernel
theorem d68_10_14 : decode jdk_68_method_10_code 14 = .ok (.iload_n 2, 1) := by decide +kernel
theorem d68_10_15 : decode jdk_68_method_10_code 15 = .ok (.isub, 1) := by decide +kernel
theorem d68_10_16 : decode jdk_68_method_10_code 16 = .ok (.istore 4, 2) := by decide +kernel
theorem d68_10_18 : decode jdk_68_method_10_code 18 = .ok (.iload_n 2, 1) := by decide +kernel
theorem d68_10_19 : decode jdk_68_method_10_code 19 = .ok (.iload 4, 2) := by decide +kernel
theorem d68_10_21 : decode jdk_68_method_10_code 21 = .ok (.iload_n 2, 1) := by decide +kernel
theorem d68_10_22 : decode jdk_68_method_10_code 22 = .ok (.iconst 2, 1) := by decide +kernel
theorem d68_10_23 : decode jdk_68_method_10_code 23 = .ok (.aload_n 0, 1) := by decide +kernel
theorem d68_10_24 : decode jdk_68_method_10_code 24 = .ok (.getfield 22, 3) := by decide +kernel
theorem d68_10_27 : decode jdk_68_method_10_code 27 = .ok (.ishl, 1) := by decide +kernel
theorem d68_10_28 : decode jdk_68_method_10_code 28 = .ok (.iadd, 1) := by decide +kernel
theorem opd_6 : parseMethodDescriptor "(III)I" = some ⟨[.int, .int, .int], some .int⟩ := by decide +kernel
theorem d68_10_29 : decode jdk_68_method_10_code 29 = .ok (.invokestatic 114, 3) := by decide +kernel
theorem d68_10_32 : decode jdk_68_method_10_code 32 = .ok (.istore 5, 2) := by decide +kernel
theorem d68_10_34 : decode jdk_68_method_10_code 34 = .ok (.iload 5, 2) := by decide +kernel
theorem d68_10_36 : decode jdk_68_method_10_code 36 = .ok (.ldc 39, 2) := by decide +kernel
theorem d68_10_38 : decode jdk_68_method_10_code 38 = .ok (.if_icmp .ne 13, 3) := by decide +kernel
theorem d68_10_51 : decode jdk_68_method_10_code 51 = .ok (.iload 5, 2) := by decide +kernel
theorem d68_10_53 : decode jdk_68_method_10_code 53 = .ok (.aload_n 0, 1) := by decide +kernel
theorem d68_10_54 : decode jdk_68_method_10_code 54 = .ok (.getfield 22, 3) := by decide +kernel
theorem d68_10_57 : decode jdk_68_method_10_code 57 = .ok (.ishr, 1) := by decide +kernel
theorem d68_10_58 : decode jdk_68_method_10_code 58 = .ok (.ireturn, 1) := by decide +kernel
theorem opl_rm_newCap : plainFor (⟨"java/lang/AbstractStringBuilder", "newCapacity", "(I)I"⟩ : MethodName) = true := plainFor_of_name (by first | (simp [plainName, overriddenIn]; done) | decide +kernel)
set_option maxRecDepth 65536 in
set_option maxHeartbeats 40000000 in
theorem rm_newCap (l : Launch) (Z : State) (a0 : Array Value) (hw : ∀ d ∈ tables_1, d.before a0 Z = true) (ws : List Jvm.Cond) (b d : Addr) (k : ClassId) (zn : Nat) (bs : List Value) (nd : Nat) (zc : Int32) (wf : Value) (n0 : Nat) (h0 : Heap) (SS : own_SS Z zc wf) (O : Old Z n0 h0) (J : SBI Z h0 b d k (Int32.ofNat zn) bs) (hzn : zn ≤ 36) (hbz : bs.length ≤ zn) (hnd : nd ≤ 36) (hlt : zn < nd) :
    Con l Z (⟨"java/lang/AbstractStringBuilder", "newCapacity", "(I)I"⟩ : MethodName) jdk_68_method_10_code 6 (some .int) ws ({ frames := 2, cells := 0, slots := 0, locals := 29 } : Room) #[(.ref b), (.int (Int32.ofNat nd))] h0 (fun v h L => v = some (.int (Int32.ofNat (own_cap zn nd))) ∧ L = [] ∧ h = h0) := by
  refine Con.intro opl_rm_newCap ?_
  intro p e s m below meth c s₁ hx hby hml hown hret hlk hZ hnm X0 e0
  have SS' := SS
  obtain ⟨hzc, SC, hwf, SF⟩ := SS
  have Z0 : n0 ≤ h0.size := O.1 ▸ O.2.1
  have N0 := Fr.nil n0
  obtain ⟨JE, JF, JC, JN, JV, JX⟩ := J
  refine OGo.cast (g' := (mkF m 0 #[.val (.ref b), .val (.int (Int32.ofNat nd)), .unset, .unset, .unset, .unset] [])) (by first | (simp [entryFrame, mkF, argsToLocals, Value.category]; done) | rfl) ?_
  show OGo p e below _ s₁ (mkF m 0 #[.val (.ref b), .val (.int (Int32.ofNat nd)), .unset, .unset, .unset, .unset] [])
  refine os (fun _ k => XS.aloadN X0.here hx rfl (hb hby d68_10_0) rfl rfl k) ?_
  show OGo p e below _ s₁ (mkF m 1 #[.val (.ref b), .val (.int (Int32.ofNat nd)), .unset, .unset, .unset, .unset] [(.ref b)])
  obtain ⟨T14, X14, e14, st14⟩ := getF X0 hx hZ hown (host := "") (Or.inl (own_g hw 107 rfl)) Via.refl e0 JF (g := (mkF m 1 #[.val (.ref b), .val (.int (Int32.ofNat nd)), .unset, .unset, .unset, .unset] [(.ref b)])) rfl rfl (hb hby d68_10_1)
  refine os st14 ?_
  show OGo p e below _ T14 (mkF m 4 #[.val (.ref b), .val (.int (Int32.ofNat nd)), .unset, .unset, .unset, .unset] [(.ref d)])
  refine os (fun _ k => alenV X14 hx hZ e14 JV (g := (mkF m 4 #[.val (.ref b), .val (.int (Int32.ofNat nd)), .unset, .unset, .unset, .unset] [(.ref d)])) rfl rfl (hb hby d68_10_4) _ k) ?_
  show OGo p e below _ T14 (mkF m 5 #[.val (.ref b), .val (.int (Int32.ofNat nd)), .unset, .unset, .unset, .unset] [(.int (Int32.ofNat zn))])
  refine os (fun _ k => XS.istoreN X14.here hx rfl (hb hby d68_10_5) rfl (l' := #[.val (.ref b), .val (.int (Int32.ofNat nd)), .val (.int (Int32.ofNat zn)), .unset, .unset, .unset]) rfl k) ?_
  show OGo p e below _ T14 (mkF m 6 #[.val (.ref b), .val (.int (Int32.ofNat nd)), .val (.int (Int32.ofNat zn)), .unset, .unset, .unset] [])
  refine os (fun _ k => XS.iloadN X14.here hx rfl (hb hby d68_10_6) rfl k) ?_
  show OGo p e below _ T14 (mkF m 7 #[.val (.ref b), .val (.int (Int32.ofNat nd)), .val (.int (Int32.ofNat zn)), .unset, .unset, .unset] [(.int (Int32.ofNat nd))])
  refine os (fun _ k => XS.aloadN X14.here hx rfl (hb hby d68_10_7) rfl rfl k) ?_
  show OGo p e below _ T14 (mkF m 8 #[.val (.ref b), .val (.int (Int32.ofNat nd)), .val (.int (Int32.ofNat zn)), .unset, .unset, .unset] [(.ref b), (.int (Int32.ofNat nd))])
  obtain ⟨T15, X15, e15, st15⟩ := getF X14 hx hZ hown (host := "") (Or.inl (own_g hw 109 rfl)) Via.refl e14 JC (g := (mkF m 8 #[.val (.ref b), .val (.int (Int32.ofNat nd)), .val (.int (Int32.ofNat zn)), .unset, .unset, .unset] [(.ref b), (.int (Int32.ofNat nd))])) rfl rfl (hb hby d68_10_8)
  refine os st15 ?_
  show OGo p e below _ T15 (mkF m 11 #[.val (.ref b), .val (.int (Int32.ofNat nd)), .val (.int (Int32.ofNat zn)), .unset, .unset, .unset] [(.int (0 : Int32)), (.int (Int32.ofNat nd))])
  refine os (fun _ k => XS.ishl X15.here hx rfl (hb hby d68_10_11) rfl k) ?_
  show OGo p e below _ T15 (mkF m 12 #[.val (.ref b), .val (.int (Int32.ofNat nd)), .val (.int (Int32.ofNat zn)), .unset, .unset, .unset] [(.int ((Int32.ofNat nd) <<< ((0 : Int32) &&& 31)))])
  rw [own_shl0]
  show OGo p e below _ T15 (mkF m 12 #[.val (.ref b), .val (.int (Int32.ofNat nd)), .val (.int (Int32.ofNat zn)), .unset, .unset, .unset] [(.int (Int32.ofNat nd))])
  refine os (fun _ k => XS.istoreN X15.here hx rfl (hb hby d68_10_12) rfl (l' := #[.val (.ref b), .val (.int (Int32.ofNat nd)), .val (.int (Int32.ofNat zn)), .val (.int (Int32.ofNat nd)), .unset, .unset]) rfl k) ?_
  show OGo p e below _ T15 (mkF m 13 #[.val (.ref b), .val (.int (Int32.ofNat nd)), .val (.int (Int32.ofNat zn)), .val (.int (Int32.ofNat nd)), .unset, .unset] [])
  refine os (fun _ k => XS.iloadN X15.here hx rfl (hb hby d68_10_13) rfl k) ?_
  show OGo p e below _ T15 (mkF m 14 #[.val (.ref b), .val (.int (Int32.ofNat nd)), .val (.int (Int32.ofNat zn)), .val (.int (Int32.ofNat nd)), .unset, .unset] [(.int (Int32.ofNat nd))])
  refine os (fun _ k => XS.iloadN X15.here hx rfl (hb hby d68_10_14) rfl k) ?_
  show OGo p e below _ T15 (mkF m 15 #[.val (.ref b), .val (.int (Int32.ofNat nd)), .val (.int (Int32.ofNat zn)), .val (.int (Int32.ofNat nd)), .unset, .unset] [(.int (Int32.ofNat zn)), (.int (Int32.ofNat nd))])
  refine os (fun _ k => XS.isub X15.here hx rfl (hb hby d68_10_15) rfl k) ?_
  show OGo p e below _ T15 (mkF m 16 #[.val (.ref b), .val (.int (Int32.ofNat nd)), .val (.int (Int32.ofNat zn)), .val (.int (Int32.ofNat nd)), .unset, .unset] [(.int ((Int32.ofNat nd) - (Int32.ofNat zn)))])
  rw [own_subn (Nat.le_of_lt hlt) (by omega)]
  show OGo p e below _ T15 (mkF m 16 #[.val (.ref b), .val (.int (Int32.ofNat nd)), .val (.int (Int32.ofNat zn)), .val (.int (Int32.ofNat nd)), .unset, .unset] [(.int (Int32.ofNat (nd - zn)))])
  refine os (fun _ k => XS.istore X15.here hx rfl (hb hby d68_10_16) rfl (l' := #[.val (.ref b), .val (.int (Int32.ofNat nd)), .val (.int (Int32.ofNat zn)), .val (.int (Int32.ofNat nd)), .val (.int (Int32.ofNat (nd - zn))), .unset]) rfl k) ?_
  show OGo p e below _ T15 (mkF m 18 #[.val (.ref b), .val (.int (Int32.ofNat nd)), .val (.int (Int32.ofNat zn)), .val (.int (Int32.ofNat nd)), .val (.int (Int32.ofNat (nd - zn))), .unset] [])
  refine os (fun _ k => XS.iloadN X15.here hx rfl (hb hby d68_10_18) rfl k) ?_
  show OGo p e below _ T15 (mkF m 19 #[.val (.ref b), .val (.int (Int32.ofNat nd)), .val (.int (Int32.ofNat zn)), .val (.int (Int32.ofNat nd)), .val (.int (Int32.ofNat (nd - zn))), .unset] [(.int (Int32.ofNat zn))])
  refine os (fun _ k => XS.iload X15.here hx rfl (hb hby d68_10_19) rfl k) ?_
  show OGo p e below _ T15 (mkF m 21 #[.val (.ref b), .val (.int (Int32.ofNat nd)), .val (.int (Int32.ofNat zn)), .val (.int (Int32.ofNat nd)), .val (.int (Int32.ofNat (nd - zn))), .unset] [(.int (Int32.ofNat (nd - zn))), (.int (Int32.ofNat zn))])
  refine os (fun _ k => XS.iloadN X15.here hx rfl (hb hby d68_10_21) rfl k) ?_
  show OGo p e below _ T15 (mkF m 22 #[.val (.ref b), .val (.int (Int32.ofNat nd)), .val (.int (Int32.ofNat zn)), .val (.int (Int32.ofNat nd)), .val (.int (Int32.ofNat (nd - zn))), .unset] [(.int (Int32.ofNat zn)), (.int (Int32.ofNat (nd - zn))), (.int (Int32.ofNat zn))])
  refine os (fun _ k => XS.iconst X15.here hx rfl (hb hby d68_10_22) k) ?_
  show OGo p e below _ T15 (mkF m 23 #[.val (.ref b), .val (.int (Int32.ofNat nd)), .val (.int (Int32.ofNat zn)), .val (.int (Int32.ofNat nd)), .val (.int (Int32.ofNat (nd - zn))), .unset] [(.int (2 : Int32)), (.int (Int32.ofNat zn)), (.int (Int32.ofNat (nd - zn))), (.int (Int32.ofNat zn))])
  refine os (fun _ k => XS.aloadN X15.here hx rfl (hb hby d68_10_23) rfl rfl k) ?_
  show OGo p e below _ T15 (mkF m 24 #[.val (.ref b), .val (.int (Int32.ofNat nd)), .val (.int (Int32.ofNat zn)), .val (.int (Int32.ofNat nd)), .val (.int (Int32.ofNat (nd - zn))), .unset] [(.ref b), (.int (2 : Int32)), (.int (Int32.ofNat zn)), (.int (Int32.ofNat (nd - zn))), (.int (Int32.ofNat zn))])
  obtain ⟨T16, X16, e16, st16⟩ := getF X15 hx hZ hown (host := "") (Or.inl (own_g hw 109 rfl)) Via.refl e15 JC (g := (mkF m 24 #[.val (.ref b), .val (.int (Int32.ofNat nd)), .val (.int (Int32.ofNat zn)), .val (.int (Int32.ofNat nd)), .val (.int (Int32.ofNat (nd - zn))), .unset] [(.ref b), (.int (2 : Int32)), (.int (Int32.ofNat zn)), (.int (Int32.ofNat (nd - zn))), (.int (Int32.ofNat zn))])) rfl rfl (hb hby d68_10_24)
  refine os st16 ?_
  show OGo p e below _ T16 (mkF m 27 #[.val (.ref b), .val (.int (Int32.ofNat nd)), .val (.int (Int32.ofNat zn)), .val (.int (Int32.ofNat nd)), .val (.int (Int32.ofNat (nd - zn))), .unset] [(.int (0 : Int32)), (.int (2 : Int32)), (.int (Int32.ofNat zn)), (.int (Int32.ofNat (nd - zn))), (.int (Int32.ofNat zn))])
  refine os (fun _ k => XS.ishl X16.here hx rfl (hb hby d68_10_27) rfl k) ?_
  show OGo p e below _ T16 (mkF m 28 #[.val (.ref b), .val (.int (Int32.ofNat nd)), .val (.int (Int32.ofNat zn)), .val (.int (Int32.ofNat nd)), .val (.int (Int32.ofNat (nd - zn))), .unset] [(.int ((2 : Int32) <<< ((0 : Int32) &&& 31))), (.int (Int32.ofNat zn)), (.int (Int32.ofNat (nd - zn))), (.int (Int32.ofNat zn))])
  rw [own_shl0b]
  show OGo p e below _ T16 (mkF m 28 #[.val (.ref b), .val (.int (Int32.ofNat nd)), .val (.int (Int32.ofNat zn)), .val (.int (Int32.ofNat nd)), .val (.int (Int32.ofNat (nd - zn))), .unset] [(.int (2 : Int32)), (.int (Int32.ofNat zn)), (.int (Int32.ofNat (nd - zn))), (.int (Int32.ofNat zn))])
  refine os (fun _ k => XS.iadd X16.here hx rfl (hb hby d68_10_28) rfl k) ?_
  show OGo p e below _ T16 (mkF m 29 #[.val (.ref b), .val (.int (Int32.ofNat nd)), .val (.int (Int32.ofNat zn)), .val (.int (Int32.ofNat nd)), .val (.int (Int32.ofNat (nd - zn))), .unset] [(.int ((Int32.ofNat zn) + (2 : Int32))), (.int (Int32.ofNat (nd - zn))), (.int (Int32.ofNat zn))])
  rw [own_addk]
  show OGo p e below _ T16 (mkF m 29 #[.val (.ref b), .val (.int (Int32.ofNat nd)), .val (.int (Int32.ofNat zn)), .val (.int (Int32.ofNat nd)), .val (.int (Int32.ofNat (nd - zn))), .unset] [(.int (Int32.ofNat (zn + 2))), (.int (Int32.ofNat (nd - zn))), (.int (Int32.ofNat zn))])
  obtain ⟨v17, T17, L17, X17, hQ17, st17⟩ := scall X16 hx hZ hown (own_g hw 276 rfl) (own_g hw 277 rfl) (own_g hw 278 rfl) (own_g hw 279 rfl) (by decide) (W := 0) (rm_newLen l Z a0 hw [] zn (nd - zn) (zn + 2) h0 (by omega) (by omega) (by omega) (by omega)) e16 (by decide) (by decide) (by decide) (by decide) (g := (mkF m 29 #[.val (.ref b), .val (.int (Int32.ofNat nd)), .val (.int (Int32.ofNat zn)), .val (.int (Int32.ofNat nd)), .val (.int (Int32.ofNat (nd - zn))), .unset] [(.int (Int32.ofNat (zn + 2))), (.int (Int32.ofNat (nd - zn))), (.int (Int32.ofNat zn))])) rfl (by rw [hml]; rfl) (argsL := [(.int (Int32.ofNat zn)), (.int (Int32.ofNat (nd - zn))), (.int (Int32.ofNat (zn + 2)))]) (rest := []) opd_6 rfl rfl rfl (by show 2 * 0 + _ ≤ _; exact Nat.le_of_eq rfl) (hb hby d68_10_29)
  obtain ⟨rfl, rfl, e17⟩ := hQ17
  rw [List.append_nil] at X17
  refine os st17 ?_
  show OGo p e below _ T17 (mkF m 32 #[.val (.ref b), .val (.int (Int32.ofNat nd)), .val (.int (Int32.ofNat zn)), .val (.int (Int32.ofNat nd)), .val (.int (Int32.ofNat (nd - zn))), .unset] [(.int (Int32.ofNat (zn + max (nd - zn) (zn + 2))))])
  have hcp : zn + max (nd - zn) (zn + 2) = own_cap zn nd := by unfold own_cap; rw [if_neg (by omega)]; omega
  rw [hcp]
  show OGo p e below _ T17 (mkF m 32 #[.val (.ref b), .val (.int (Int32.ofNat nd)), .val (.int (Int32.ofNat zn)), .val (.int (Int32.ofNat nd)), .val (.int (Int32.ofNat (nd - zn))), .unset] [(.int (Int32.ofNat (own_cap zn nd)))])
  have hcb : own_cap zn nd ≤ 74 := by rw [← hcp]; omega
  refine os (fun _ k => XS.istore X17.here hx rfl (hb hby d68_10_32) rfl (l' := #[.val (.ref b), .val (.int (Int32.ofNat nd)), .val (.int (Int32.ofNat zn)), .val (.int (Int32.ofNat nd)), .val (.int (Int32.ofNat (nd - zn))), .val (.int (Int32.ofNat (own_cap zn nd)))]) rfl k) ?_
  show OGo p e below _ T17 (mkF m 34 #[.val (.ref b), .val (.int (Int32.ofNat nd)), .val (.int (Int32.ofNat zn)), .val (.int (Int32.ofNat nd)), .val (.int (Int32.ofNat (nd - zn))), .val (.int (Int32.ofNat (own_cap zn nd)))] [])
  refine os (fun _ k => XS.iload X17.here hx rfl (hb hby d68_10_34) rfl k) ?_
  show OGo p e below _ T17 (mkF m 36 #[.val (.ref b), .val (.int (Int32.ofNat nd)), .val (.int (Int32.ofNat zn)), .val (.int (Int32.ofNat nd)), .val (.int (Int32.ofNat (nd - zn))), .val (.int (Int32.ofNat (own_cap zn nd)))] [(.int (Int32.ofNat (own_cap zn nd)))])
  refine os (fun _ k => Jvm.Stand.ldcI X17 hx hown (mvT hZ (own_g hw 284 rfl)) rfl (hb hby d68_10_36) k) ?_
  show OGo p e below _ T17 (mkF m 38 #[.val (.ref b), .val (.int (Int32.ofNat nd)), .val (.int (Int32.ofNat zn)), .val (.int (Int32.ofNat nd)), .val (.int (Int32.ofNat (nd - zn))), .val (.int (Int32.ofNat (own_cap zn nd)))] [(.int (2147483647 : Int32)), (.int (Int32.ofNat (own_cap zn nd)))])
  refine os (fun _ k => XS.icmpYes X17.here hx rfl (pc0 := 38) (pc' := 51) rfl (hb hby d68_10_38) rfl (feq (fun q => absurd (congrArg Int32.toInt q) (by rw [own_toInt (by omega)]; show ¬ ((own_cap zn nd : Nat) : Int) = 2147483647; omega))).2 (by decide) (by decide) k) ?_
  show OGo p e below _ T17 (mkF m 51 #[.val (.ref b), .val (.int (Int32.ofNat nd)), .val (.int (Int32.ofNat zn)), .val (.int (Int32.ofNat nd)), .val (.int (Int32.ofNat (nd - zn))), .val (.int (Int32.ofNat (own_cap zn nd)))] [])
  refine os (fun _ k => XS.iload X17.here hx rfl (hb hby d68_10_51) rfl k) ?_
  show OGo p e below _ T17 (mkF m 53 #[.val (.ref b), .val (.int (Int32.ofNat nd)), .val (.int (Int32.ofNat zn)), .val (.int (Int32.ofNat nd)), .val (.int (Int32.ofNat (nd - zn))), .val (.int (Int32.ofNat (own_cap zn nd)))] [(.int (Int32.ofNat (own_cap zn nd)))])
  refine os (fun _ k => XS.aloadN X17.here hx rfl (hb hby d68_10_53) rfl rfl k) ?_
  show OGo p e below _ T17 (mkF m 54 #[.val (.ref b), .val (.int (Int32.ofNat nd)), .val (.int (Int32.ofNat zn)), .val (.int (Int32.ofNat nd)), .val (.int (Int32.ofNat (nd - zn))), .val (.int (Int32.ofNat (own_cap zn nd)))] [(.ref b), (.int (Int32.ofNat (own_cap zn nd)))])
  obtain ⟨T18, X18, e18, st18⟩ := getF X17 hx hZ hown (host := "") (Or.inl (own_g hw 109 rfl)) Via.refl e17 JC (g := (mkF m 54 #[.val (.ref b), .val (.int (Int32.ofNat nd)), .val (.int (Int32.ofNat zn)), .val (.int (Int32.ofNat nd)), .val (.int (Int32.ofNat (nd - zn))), .val (.int (Int32.ofNat (own_cap zn nd)))] [(.ref b), (.int (Int32.ofNat (own_cap zn nd)))])) rfl rfl (hb hby d68_10_54)
  refine os st18 ?_
  show OGo p e below _ T18 (mkF m 57 #[.val (.ref b), .val (.int (Int32.ofNat nd)), .val (.int (Int32.ofNat zn)), .val (.int (Int32.ofNat nd)), .val (.int (Int32.ofNat (nd - zn))), .val (.int (Int32.ofNat (own_cap zn nd)))] [(.int (0 : Int32)), (.int (Int32.ofNat (own_cap zn nd)))])
  refine os (fun _ k => XS.ishr X18.here hx rfl (hb hby d68_10_57) rfl k) ?_
  show OGo p e below _ T18 (mkF m 58 #[.val (.ref b), .val (.int (Int32.ofNat nd)), .val (.int (Int32.ofNat zn)), .val (.int (Int32.ofNat nd)), .val (.int (Int32.ofNat (nd - zn))), .val (.int (Int32.ofNat (own_cap zn nd)))] [(.int ((Int32.ofNat (own_cap zn nd)) >>> ((0 : Int32) &&& 31)))])
  rw [own_shr0]
  show OGo p e below _ T18 (mkF m 58 #[.val (.ref b), .val (.int (Int32.ofNat nd)), .val (.int (Int32.ofNat zn)), .val (.int (Int32.ofNat nd)), .val (.int (Int32.ofNat (nd - zn))), .val (.int (Int32.ofNat (own_cap zn nd)))] [(.int (Int32.ofNat (own_cap zn nd)))])
  exact OGo.ret X18 hx (t := .int) hret hlk rfl (Or.inl ⟨rfl, by simp, _, rfl⟩) (hb hby d68_10_58) (by decide) (by decide) ⟨rfl, rfl, e18⟩
theorem d65_121_0 : decode jdk_65_method_121_code 0 = .ok (.iload_n 1, 1) := by decide +kernel
theorem d65_121_1 : decode jdk_65_method_121_code 1 = .ok (.aload_n 0, 1) := by decide +kernel
theorem d65_121_2 : decode jdk_65_method_121_code 2 = .ok (.arraylength, 1) := by decide +kernel
theorem d65_121_3 : decode jdk_65_method_121_code 3 = .ok (.if_icmp .ne 11, 3) := by decide +kernel
theorem d65_121_14 : decode jdk_65_method_121_code 14 = .ok (.iload_n 1, 1) := by decide +kernel
theorem d65_121_15 : decode jdk_65_method_121_code 15 = .ok (.newarray .byte, 2) := by decide +kernel
theorem d65_121_17 : decode jdk_65_method_121_code 17 = .ok (.astore_n 2, 1) := by decide +kernel
theorem d65_121_18 : decode jdk_65_method_121_code 18 = .ok (.aload_n 0, 1) := by decide +kernel
theorem d65_121_19 : decode jdk_65_method_121_code 19 = .ok (.iconst 0, 1) := by decide +kernel
theorem d65_121_20 : decode jdk_65_method_121_code 20 = .ok (.aload_n 2, 1) := by decide +kernel
theorem d65_121_21 : decode jdk_65_method_121_code 21 = .ok (.iconst 0, 1) := by decide +kernel
theorem d65_121_22 : decode jdk_65_method_121_code 22 = .ok (.aload_n 0, 1) := by decide +kernel
theorem d65_121_23 : decode jdk_65_method_121_code 23 = .ok (.arraylength, 1) := by decide +kernel
theorem d65_121_24 : decode jdk_65_method_121_code 24 = .ok (.iload_n 1, 1) := by decide +kernel
theorem d65_121_25 : decode jdk_65_method_121_code 25 = .ok (.invokestatic 304, 3) := by decide +kernel
theorem d65_121_28 : decode jdk_65_method_121_code 28 = .ok (.invokestatic 150, 3) := by decide +kernel
theorem d65_121_31 : decode jdk_65_method_121_code 31 = .ok (.aload_n 2, 1) := by decide +kernel
theorem d65_121_32 : decode jdk_65_method_121_code 32 = .ok (.areturn, 1) := by decide +kernel
theorem opl_rm_copyOf : plainFor (⟨"java/util/Arrays", "copyOf", "([BI)[B"⟩ : MethodName) = true := plainFor_of_name (by first | (simp [plainName, overriddenIn]; done) | decide +kernel)
set_option maxRecDepth 65536 in
set_option maxHeartbeats 40000000 in
theorem rm_copyOf (l : Launch) (Z : State) (a0 : Array Value) (hw : ∀ d ∈ tables_1, d.before a0 Z = true) (ws : List Jvm.Cond) (d : Addr) (k : ClassId) (zn n : Nat) (bs : List Value) (zc : Int32) (wf : Value) (n0 : Nat) (h0 : Heap) (SS : own_SS Z zc wf) (O : Old Z n0 h0) (V : Arv Z h0 d k .byte (Int32.ofNat zn) bs (.int (0 : Int32))) (hzn : zn ≤ 36) (hnc : n ≤ 74) (hlt : zn < n) (hbz : bs.length ≤ zn) :
    Con l Z (⟨"java/util/Arrays", "copyOf", "([BI)[B"⟩ : MethodName) jdk_65_method_121_code 3 (some (.array .byte)) ws ({ frames := 1, cells := 1, slots := 74, locals := 29 } : Room) #[(.ref d), (.int (Int32.ofNat n))] h0 (fun v h L => ∃ r k', v = some (.ref r) ∧ h0.size ≤ r ∧ Fr n0 L ∧ Keep h0 h [] ∧ Arv Z h r k' .byte (Int32.ofNat n) bs (.int (0 : Int32)) ∧ Exa Z h r "[B") := by
  refine Con.intro opl_rm_copyOf ?_
  intro p e s m below meth c s₁ hx hby hml hown hret hlk hZ hnm X0 e0
  obtain ⟨hzc, SC, hwf, SF⟩ := SS
  have Z0 : n0 ≤ h0.size := O.1 ▸ O.2.1
  have N0 := Fr.nil n0
  refine OGo.cast (g' := (mkF m 0 #[.val (.ref d), .val (.int (Int32.ofNat n)), .unset] [])) (by first | (simp [entryFrame, mkF, argsToLocals, Value.category]; done) | rfl) ?_
  show OGo p e below _ s₁ (mkF m 0 #[.val (.ref d), .val (.int (Int32.ofNat n)), .unset] [])
  refine os (fun _ k => XS.iloadN X0.here hx rfl (hb hby d65_121_0) rfl k) ?_
  show OGo p e below _ s₁ (mkF m 1 #[.val (.ref d), .val (.int (Int32.ofNat n)), .unset] [(.int (Int32.ofNat n))])
  refine os (fun _ k => XS.aloadN X0.here hx rfl (hb hby d65_121_1) rfl rfl k) ?_
  show OGo p e below _ s₁ (mkF m 2 #[.val (.ref d), .val (.int (Int32.ofNat n)), .unset] [(.ref d), (.int (Int32.ofNat n))])
  refine os (fun _ k => alenV X0 hx hZ e0 V (g := (mkF m 2 #[.val (.ref d), .val (.int (Int32.ofNat n)), .unset] [(.ref d), (.int (Int32.ofNat n))])) rfl rfl (hb hby d65_121_2) _ k) ?_
  show OGo p e below _ s₁ (mkF m 3 #[.val (.ref d), .val (.int (Int32.ofNat n)), .unset] [(.int (Int32.ofNat zn)), (.int (Int32.ofNat n))])
  refine os (fun _ k => XS.icmpYes X0.here hx rfl (pc0 := 3) (pc' := 14) rfl (hb hby d65_121_3) rfl (feq (fun q => absurd ((own_lt (by omega) (by omega)).mpr hlt) (by rw [q]; exact Int32.lt_irrefl))).2 (by decide) (by decide) k) ?_
  show OGo p e below _ s₁ (mkF m 14 #[.val (.ref d), .val (.int (Int32.ofNat n)), .unset] [])
  refine os (fun _ k => XS.iloadN X0.here hx rfl (hb hby d65_121_14) rfl k) ?_
  show OGo p e below _ s₁ (mkF m 15 #[.val (.ref d), .val (.int (Int32.ofNat n)), .unset] [(.int (Int32.ofNat n))])
  obtain ⟨T19, h19, k19, X19, e19, E19, A19, AE19, st19⟩ := newPE X0 hx hZ (own_g hw 19 rfl) e0 (g := (mkF m 15 #[.val (.ref d), .val (.int (Int32.ofNat n)), .unset] [(.int (Int32.ofNat n))])) rfl (hb hby d65_121_15) rfl (own_nn (by omega)) (cap := 74) (by rw [own_cl (by omega)]; exact hnc) (by decide) (by decide) (by decide) (ad := "[B") (by decide)
  obtain ⟨b19, g19⟩ : ∃ z, z = h0.size := ⟨_, rfl⟩
  rw [← g19] at A19 AE19 st19
  have sz_b19 : h0.size ≤ b19 := Nat.le_trans (Keep.refl h0 []).1 (Nat.le_of_eq g19.symm)
  have KK19 : Keep h0 h19 [] := (Keep.refl h0 []).ext E19
  have V19 : Arv Z h19 b19 k19 .byte (Int32.ofNat n) [] (.int (0 : Int32)) := Arv.new A19 (own_nn (by omega))
  refine os st19 ?_
  show OGo p e below _ T19 (mkF m 17 #[.val (.ref d), .val (.int (Int32.ofNat n)), .unset] [(.ref b19)])
  refine os (fun _ k => XS.astoreN X19.here hx rfl (hb hby d65_121_17) rfl rfl (l' := #[.val (.ref d), .val (.int (Int32.ofNat n)), .val (.ref b19)]) rfl k) ?_
  show OGo p e below _ T19 (mkF m 18 #[.val (.ref d), .val (.int (Int32.ofNat n)), .val (.ref b19)] [])
  refine os (fun _ k => XS.aloadN X19.here hx rfl (hb hby d65_121_18) rfl rfl k) ?_
  show OGo p e below _ T19 (mkF m 19 #[.val (.ref d), .val (.int (Int32.ofNat n)), .val (.ref b19)] [(.ref d)])
  refine os (fun _ k => XS.iconst X19.here hx rfl (hb hby d65_121_19) k) ?_
  show OGo p e below _ T19 (mkF m 20 #[.val (.ref d), .val (.int (Int32.ofNat n)), .val (.ref b19)] [(.int (0 : Int32)), (.ref d)])
  refine os (fun _ k => XS.aloadN X19.here hx rfl (hb hby d65_121_20) rfl rfl k) ?_
  show OGo p e below _ T19 (mkF m 21 #[.val (.ref d), .val (.int (Int32.ofNat n)), .val (.ref b19)] [(.ref b19), (.int (0 : Int32)), (.ref d)])
  refine os (fun _ k => XS.iconst X19.here hx rfl (hb hby d65_121_21) k) ?_
  show OGo p e below _ T19 (mkF m 22 #[.val (.ref d), .val (.int (Int32.ofNat n)), .val (.ref b19)] [(.int (0 : Int32)), (.ref b19), (.int (0 : Int32)), (.ref d)])
  refine os (fun _ k => XS.aloadN X19.here hx rfl (hb hby d65_121_22) rfl rfl k) ?_
  show OGo p e below _ T19 (mkF m 23 #[.val (.ref d), .val (.int (Int32.ofNat n)), .val (.ref b19)] [(.ref d), (.int (0 : Int32)), (.ref b19), (.int (0 : Int32)), (.ref d)])
  refine os (fun _ k => alenV X19 hx hZ e19 (V.ext E19) (g := (mkF m 23 #[.val (.ref d), .val (.int (Int32.ofNat n)), .val (.ref b19)] [(.ref d), (.int (0 : Int32)), (.ref b19), (.int (0 : Int32)), (.ref d)])) rfl rfl (hb hby d65_121_23) _ k) ?_
  show OGo p e below _ T19 (mkF m 24 #[.val (.ref d), .val (.int (Int32.ofNat n)), .val (.ref b19)] [(.int (Int32.ofNat zn)), (.int (0 : Int32)), (.ref b19), (.int (0 : Int32)), (.ref d)])
  refine os (fun _ k => XS.iloadN X19.here hx rfl (hb hby d65_121_24) rfl k) ?_
  show OGo p e below _ T19 (mkF m 25 #[.val (.ref d), .val (.int (Int32.ofNat n)), .val (.ref b19)] [(.int (Int32.ofNat n)), (.int (Int32.ofNat zn)), (.int (0 : Int32)), (.ref b19), (.int (0 : Int32)), (.ref d)])
  obtain ⟨v20, T20, L20, X20, hQ20, st20⟩ := scall X19 hx hZ hown (own_g hw 201 rfl) (own_g hw 202 rfl) (own_g hw 203 rfl) (own_g hw 204 rfl) (by decide) (W := 4) (rm_minA l Z a0 hw [] (Int32.ofNat zn) (Int32.ofNat n) h19 (own_gelt (by omega) (by omega) (Nat.le_of_lt hlt) |> fun h q => absurd ((own_lt (by omega) (by omega)).mp q) (by omega))) e19 (by decide) (by decide) (by decide) (by decide) (g := (mkF m 25 #[.val (.ref d), .val (.int (Int32.ofNat n)), .val (.ref b19)] [(.int (Int32.ofNat n)), (.int (Int32.ofNat zn)), (.int (0 : Int32)), (.ref b19), (.int (0 : Int32)), (.ref d)])) rfl (by rw [hml]; rfl) (argsL := [(.int (Int32.ofNat zn)), (.int (Int32.ofNat n))]) (rest := [(.int (0 : Int32)), (.ref b19), (.int (0 : Int32)), (.ref d)]) opd_5 rfl rfl rfl (by show 2 * 0 + _ ≤ _; exact Nat.le_of_eq rfl) (hb hby d65_121_25)
  obtain ⟨rfl, rfl, e20⟩ := hQ20
  rw [List.append_nil] at X20
  refine os st20 ?_
  show OGo p e below _ T20 (mkF m 28 #[.val (.ref d), .val (.int (Int32.ofNat n)), .val (.ref b19)] [(.int (Int32.ofNat zn)), (.int (0 : Int32)), (.ref b19), (.int (0 : Int32)), (.ref d)])
  have hl : (bs ++ List.replicate (zn - bs.length) (Value.int (0 : Int32))).length = zn := by rw [List.length_append, List.length_replicate]; omega
  have Vp : Arv Z h19 d k .byte (Int32.ofNat zn) (bs ++ List.replicate (zn - bs.length) (Value.int (0 : Int32))) (.int (0 : Int32)) := (V.ext E19).pad (pad_rep _ _ _)
  obtain ⟨T21, h21, L21, X21, e21, N21, K21, V21, st21⟩ := own_cp X20 hx hZ hown (own_g hw 205 rfl) (own_g hw 157 rfl) (own_g hw 155 rfl) (own_g hw 156 rfl) e20 Vp V19 (by rw [hl, own_cl (by omega)]; exact Nat.le_refl _) (by rw [hl, own_cl (by omega)]; show 0 + zn ≤ n; omega) (by rw [hl]; omega) (by decide) N0 (Nat.le_trans Z0 sz_b19) (g := (mkF m 28 #[.val (.ref d), .val (.int (Int32.ofNat n)), .val (.ref b19)] [(.int (Int32.ofNat zn)), (.int (0 : Int32)), (.ref b19), (.int (0 : Int32)), (.ref d)])) rfl (by rw [hml]; rfl) (rest := []) (by rw [hl]; rfl) (hb hby d65_121_28) (by decide) (W := 0) (by show 2 * 0 + _ ≤ _; exact Nat.le_of_eq rfl) (by decide)
  have KK21 : Keep h0 h21 [] := KK19.trans K21 (allS (Or.inr sz_b19) all0)
  refine os st21 ?_
  show OGo p e below _ T21 (mkF m 31 #[.val (.ref d), .val (.int (Int32.ofNat n)), .val (.ref b19)] [])
  refine os (fun _ k => XS.aloadN X21.here hx rfl (hb hby d65_121_31) rfl rfl k) ?_
  show OGo p e below _ T21 (mkF m 32 #[.val (.ref d), .val (.int (Int32.ofNat n)), .val (.ref b19)] [(.ref b19)])
  have Vf : Arv Z h21 b19 k19 .byte (Int32.ofNat n) bs (.int (0 : Int32)) := Arv.pad V21 (fun i => (pad_rep bs (.int (0 : Int32)) (zn - bs.length) i).symm)
  exact OGo.ret X21 hx (t := (.array .byte)) hret hlk rfl (Or.inr (Or.inr (Or.inr (Or.inr ⟨rfl, rfl, rfl⟩)))) (hb hby d65_121_32) (by decide) (by decide) (by rw [e21]; exact ⟨b19, _, rfl, sz_b19, N21, KK21, Vf, (AE19.keep K21)⟩)
theorem d68_9_0 : decode jdk_68_method_9_code 0 = .ok (.aload_n 0, 1) := by decide +kernel
theorem d68_9_1 : decode jdk_68_method_9_code 1 = .ok (.getfield 15, 3) := by decide +kernel
theorem d68_9_4 : decode jdk_68_method_9_code 4 = .ok (.arraylength, 1) := by decide +kernel
theorem d68_9_5 : decode jdk_68_method_9_code 5 = .ok (.aload_n 0, 1) := by decide +kernel
theorem d68_9_6 : decode jdk_68_method_9_code 6 = .ok (.getfield 22, 3) := by decide +kernel
theorem d68_9_9 : decode jdk_68_method_9_code 9 = .ok (.ishr, 1) := by decide +kernel
theorem d68_9_10 : decode jdk_68_method_9_code 10 = .ok (.istore_n 2, 1) := by decide +kernel
theorem d68_9_11 : decode jdk_68_method_9_code 11 = .ok (.iload_n 1, 1) := by decide +kernel
theorem d68_9_12 : decode jdk_68_method_9_code 12 = .ok (.iload_n 2, 1) := by decide +kernel
theorem d68_9_13 : decode jdk_68_method_9_code 13 = .ok (.isub, 1) := by decide +kernel
theorem d68_9_14 : decode jdk_68_method_9_code 14 = .ok (.ifCond .le 24, 3) := by decide +kernel
theorem d68_9_17 : decode jdk_68_method_9_code 17 = .ok (.aload_n 0, 1) := by decide +kernel
theorem d68_9_18 : decode jdk_68_method_9_code 18 = .ok (.aload_n 0, 1) := by decide +kernel
theorem d68_9_19 : decode jdk_68_method_9_code 19 = .ok (.getfield 15, 3) := by decide +kernel
theorem d68_9_22 : decode jdk_68_method_9_code 22 = .ok (.aload_n 0, 1) := by decide +kernel
theorem d68_9_23 : decode jdk_68_method_9_code 23 = .ok (.iload_n 1, 1) := by decide +kernel
theorem opd_7 : parseMethodDescriptor "(I)I" = some ⟨[.int], some .int⟩ := by decide +kernel
theorem d68_9_24 : decode jdk_68_method_9_code 24 = .ok (.invokevirtual 104, 3) := by decide +kernel
theorem d68_9_27 : decode jdk_68_method_9_code 27 = .ok (.aload_n 0, 1) := by decide +kernel
theorem d68_9_28 : decode jdk_68_method_9_code 28 = .ok (.getfield 22, 3) := by decide +kernel
theorem d68_9_31 : decode jdk_68_method_9_code 31 = .ok (.ishl, 1) := by decide +kernel
theorem opd_8 : parseMethodDescriptor "([BI)[B" = some ⟨[(.array .byte), .int], some (.array .byte)⟩ := by decide +kernel
theorem d68_9_32 : decode jdk_68_method_9_code 32 = .ok (.invokestatic 108, 3) := by decide +kernel
theorem d68_9_35 : decode jdk_68_method_9_code 35 = .ok (.putfield 15, 3) := by decide +kernel
theorem d68_9_38 : decode jdk_68_method_9_code 38 = .ok (.return_, 1) := by decide +kernel
theorem opl_rm_ensG : plainFor (⟨"java/lang/AbstractStringBuilder", "ensureCapacityInternal", "(I)V"⟩ : MethodName) = true := plainFor_of_name (by first | (simp [plainName, overriddenIn]; done) | decide +kernel)
set_option maxRecDepth 65536 in
set_option maxHeartbeats 40000000 in
theorem rm_ensG (l : Launch) (Z : State) (a0 : Array Value) (hw : ∀ d ∈ tables_1, d.before a0 Z = true) (ws : List Jvm.Cond) (b d : Addr) (k : ClassId) (zn : Nat) (bs : List Value) (nd : Nat) (zc : Int32) (wf : Value) (n0 : Nat) (h0 : Heap) (SS : own_SS Z zc wf) (O : Old Z n0 h0) (J : SBI Z h0 b d k (Int32.ofNat zn) bs) (hzn : zn ≤ 36) (hbz : bs.length ≤ zn) (hnd : nd ≤ 36) (g_b : n0 ≤ b) :
    Con l Z (⟨"java/lang/AbstractStringBuilder", "ensureCapacityInternal", "(I)V"⟩ : MethodName) jdk_68_method_9_code 3 none ws ({ frames := 3, cells := 1, slots := 74, locals := 48 } : Room) #[(.ref b), (.int (Int32.ofNat nd))] h0 (fun v h L => v = none ∧ Fr n0 L ∧ Keep h0 h [b] ∧ ∃ d' k', (d' = d ∨ h0.size ≤ d') ∧ SBI Z h b d' k' (Int32.ofNat (own_cap zn nd)) bs) := by
  refine Con.intro opl_rm_ensG ?_
  intro p e s m below meth c s₁ hx hby hml hown hret hlk hZ hnm X0 e0
  have SS' := SS
  obtain ⟨hzc, SC, hwf, SF⟩ := SS
  have Z0 : n0 ≤ h0.size := O.1 ▸ O.2.1
  have N0 := Fr.nil n0
  obtain ⟨JE, JF, JC, JN, JV, JX⟩ := J
  refine OGo.cast (g' := (mkF m 0 #[.val (.ref b), .val (.int (Int32.ofNat nd)), .unset] [])) (by first | (simp [entryFrame, mkF, argsToLocals, Value.category]; done) | rfl) ?_
  show OGo p e below _ s₁ (mkF m 0 #[.val (.ref b), .val (.int (Int32.ofNat nd)), .unset] [])
  refine os (fun _ k => XS.aloadN X0.here hx rfl (hb hby d68_9_0) rfl rfl k) ?_
  show OGo p e below _ s₁ (mkF m 1 #[.val (.ref b), .val (.int (Int32.ofNat nd)), .unset] [(.ref b)])
  obtain ⟨T22, X22, e22, st22⟩ := getF X0 hx hZ hown (host := "") (Or.inl (own_g hw 107 rfl)) Via.refl e0 JF (g := (mkF m 1 #[.val (.ref b), .val (.int (Int32.ofNat nd)), .unset] [(.ref b)])) rfl rfl (hb hby d68_9_1)
  refine os st22 ?_
  show OGo p e below _ T22 (mkF m 4 #[.val (.ref b), .val (.int (Int32.ofNat nd)), .unset] [(.ref d)])
  refine os (fun _ k => alenV X22 hx hZ e22 JV (g := (mkF m 4 #[.val (.ref b), .val (.int (Int32.ofNat nd)), .unset] [(.ref d)])) rfl rfl (hb hby d68_9_4) _ k) ?_
  show OGo p e below _ T22 (mkF m 5 #[.val (.ref b), .val (.int (Int32.ofNat nd)), .unset] [(.int (Int32.ofNat zn))])
  refine os (fun _ k => XS.aloadN X22.here hx rfl (hb hby d68_9_5) rfl rfl k) ?_
  show OGo p e below _ T22 (mkF m 6 #[.val (.ref b), .val (.int (Int32.ofNat nd)), .unset] [(.ref b), (.int (Int32.ofNat zn))])
  obtain ⟨T23, X23, e23, st23⟩ := getF X22 hx hZ hown (host := "") (Or.inl (own_g hw 109 rfl)) Via.refl e22 JC (g := (mkF m 6 #[.val (.ref b), .val (.int (Int32.ofNat nd)), .unset] [(.ref b), (.int (Int32.ofNat zn))])) rfl rfl (hb hby d68_9_6)
  refine os st23 ?_
  show OGo p e below _ T23 (mkF m 9 #[.val (.ref b), .val (.int (Int32.ofNat nd)), .unset] [(.int (0 : Int32)), (.int (Int32.ofNat zn))])
  refine os (fun _ k => XS.ishr X23.here hx rfl (hb hby d68_9_9) rfl k) ?_
  show OGo p e below _ T23 (mkF m 10 #[.val (.ref b), .val (.int (Int32.ofNat nd)), .unset] [(.int ((Int32.ofNat zn) >>> ((0 : Int32) &&& 31)))])
  rw [own_shr0]
  show OGo p e below _ T23 (mkF m 10 #[.val (.ref b), .val (.int (Int32.ofNat nd)), .unset] [(.int (Int32.ofNat zn))])
  refine os (fun _ k => XS.istoreN X23.here hx rfl (hb hby d68_9_10) rfl (l' := #[.val (.ref b), .val (.int (Int32.ofNat nd)), .val (.int (Int32.ofNat zn))]) rfl k) ?_
  show OGo p e below _ T23 (mkF m 11 #[.val (.ref b), .val (.int (Int32.ofNat nd)), .val (.int (Int32.ofNat zn))] [])
  refine os (fun _ k => XS.iloadN X23.here hx rfl (hb hby d68_9_11) rfl k) ?_
  show OGo p e below _ T23 (mkF m 12 #[.val (.ref b), .val (.int (Int32.ofNat nd)), .val (.int (Int32.ofNat zn))] [(.int (Int32.ofNat nd))])
  refine os (fun _ k => XS.iloadN X23.here hx rfl (hb hby d68_9_12) rfl k) ?_
  show OGo p e below _ T23 (mkF m 13 #[.val (.ref b), .val (.int (Int32.ofNat nd)), .val (.int (Int32.ofNat zn))] [(.int (Int32.ofNat zn)), (.int (Int32.ofNat nd))])
  refine os (fun _ k => XS.isub X23.here hx rfl (hb hby d68_9_13) rfl k) ?_
  show OGo p e below _ T23 (mkF m 14 #[.val (.ref b), .val (.int (Int32.ofNat nd)), .val (.int (Int32.ofNat zn))] [(.int ((Int32.ofNat nd) - (Int32.ofNat zn)))])
  by_cases q : zn < nd
  · refine os (fun _ k => XS.ifNo X23.here hx rfl (hb hby d68_9_14) rfl ((if0 _ _).trans (tlt ((own_nd (by omega) (by omega)).mpr q)).2.2.2) k) ?_
    show OGo p e below _ T23 (mkF m 17 #[.val (.ref b), .val (.int (Int32.ofNat nd)), .val (.int (Int32.ofNat zn))] [])
    refine os (fun _ k => XS.aloadN X23.here hx rfl (hb hby d68_9_17) rfl rfl k) ?_
    show OGo p e below _ T23 (mkF m 18 #[.val (.ref b), .val (.int (Int32.ofNat nd)), .val (.int (Int32.ofNat zn))] [(.ref b)])
    refine os (fun _ k => XS.aloadN X23.here hx rfl (hb hby d68_9_18) rfl rfl k) ?_
    show OGo p e below _ T23 (mkF m 19 #[.val (.ref b), .val (.int (Int32.ofNat nd)), .val (.int (Int32.ofNat zn))] [(.ref b), (.ref b)])
    obtain ⟨T24, X24, e24, st24⟩ := getF X23 hx hZ hown (host := "") (Or.inl (own_g hw 107 rfl)) Via.refl e23 JF (g := (mkF m 19 #[.val (.ref b), .val (.int (Int32.ofNat nd)), .val (.int (Int32.ofNat zn))] [(.ref b), (.ref b)])) rfl rfl (hb hby d68_9_19)
    refine os st24 ?_
    show OGo p e below _ T24 (mkF m 22 #[.val (.ref b), .val (.int (Int32.ofNat nd)), .val (.int (Int32.ofNat zn))] [(.ref d), (.ref b)])
    refine os (fun _ k => XS.aloadN X24.here hx rfl (hb hby d68_9_22) rfl rfl k) ?_
    show OGo p e below _ T24 (mkF m 23 #[.val (.ref b), .val (.int (Int32.ofNat nd)), .val (.int (Int32.ofNat zn))] [(.ref b), (.ref d), (.ref b)])
    refine os (fun _ k => XS.iloadN X24.here hx rfl (hb hby d68_9_23) rfl k) ?_
    show OGo p e below _ T24 (mkF m 24 #[.val (.ref b), .val (.int (Int32.ofNat nd)), .val (.int (Int32.ofNat zn))] [(.int (Int32.ofNat nd)), (.ref b), (.ref d), (.ref b)])
    obtain ⟨v25, T25, L25, X25, hQ25, st25⟩ := pcall X24 hx hZ hown (own_g hw 271 rfl) (own_g hw 272 rfl) (own_g hw 274 rfl) (own_g hw 273 rfl) (own_g hw 103 rfl) (own_g hw 275 rfl) (by decide) (W := 2) (rm_newCap l Z a0 hw [] b d k zn bs nd zc wf n0 h0 SS' O ⟨JE, JF, JC, JN, JV, JX⟩ hzn hbz hnd q) e24 (by decide) (by decide) (by decide) (by decide) (g := (mkF m 24 #[.val (.ref b), .val (.int (Int32.ofNat nd)), .val (.int (Int32.ofNat zn))] [(.int (Int32.ofNat nd)), (.ref b), (.ref d), (.ref b)])) rfl (by rw [hml]; rfl) JE (argsL := [(.int (Int32.ofNat nd))]) (rest := [(.ref d), (.ref b)]) opd_7 rfl rfl rfl (by show 2 * 0 + _ ≤ _; exact Nat.le_of_eq rfl) (hb hby d68_9_24)
    obtain ⟨rfl, rfl, e25⟩ := hQ25
    rw [List.append_nil] at X25
    refine os st25 ?_
    show OGo p e below _ T25 (mkF m 27 #[.val (.ref b), .val (.int (Int32.ofNat nd)), .val (.int (Int32.ofNat zn))] [(.int (Int32.ofNat (own_cap zn nd))), (.ref d), (.ref b)])
    refine os (fun _ k => XS.aloadN X25.here hx rfl (hb hby d68_9_27) rfl rfl k) ?_
    show OGo p e below _ T25 (mkF m 28 #[.val (.ref b), .val (.int (Int32.ofNat nd)), .val (.int (Int32.ofNat zn))] [(.ref b), (.int (Int32.ofNat (own_cap zn nd))), (.ref d), (.ref b)])
    obtain ⟨T26, X26, e26, st26⟩ := getF X25 hx hZ hown (host := "") (Or.inl (own_g hw 109 rfl)) Via.refl e25 JC (g := (mkF m 28 #[.val (.ref b), .val (.int (Int32.ofNat nd)), .val (.int (Int32.ofNat zn))] [(.ref b), (.int (Int32.ofNat (own_cap zn nd))), (.ref d), (.ref b)])) rfl rfl (hb hby d68_9_28)
    refine os st26 ?_
    show OGo p e below _ T26 (mkF m 31 #[.val (.ref b), .val (.int (Int32.ofNat nd)), .val (.int (Int32.ofNat zn))] [(.int (0 : Int32)), (.int (Int32.ofNat (own_cap zn nd))), (.ref d), (.ref b)])
    refine os (fun _ k => XS.ishl X26.here hx rfl (hb hby d68_9_31) rfl k) ?_
    show OGo p e below _ T26 (mkF m 32 #[.val (.ref b), .val (.int (Int32.ofNat nd)), .val (.int (Int32.ofNat zn))] [(.int ((Int32.ofNat (own_cap zn nd)) <<< ((0 : Int32) &&& 31))), (.ref d), (.ref b)])
    rw [own_shl0]
    show OGo p e below _ T26 (mkF m 32 #[.val (.ref b), .val (.int (Int32.ofNat nd)), .val (.int (Int32.ofNat zn))] [(.int (Int32.ofNat (own_cap zn nd))), (.ref d), (.ref b)])
    have hc1 : own_cap zn nd ≤ 74 ∧ zn < own_cap zn nd := by unfold own_cap; rw [if_neg (by omega)]; omega
    obtain ⟨v27, T27, L27, X27, hQ27, st27⟩ := scall X26 hx hZ hown (own_g hw 285 rfl) (own_g hw 286 rfl) (own_g hw 193 rfl) (own_g hw 287 rfl) (by decide) (W := 1) (rm_copyOf l Z a0 hw [] d k zn (own_cap zn nd) bs zc wf n0 h0 SS' O JV hzn hc1.1 hc1.2 hbz) e26 (by decide) (by decide) (by decide) (by decide) (g := (mkF m 32 #[.val (.ref b), .val (.int (Int32.ofNat nd)), .val (.int (Int32.ofNat zn))] [(.int (Int32.ofNat (own_cap zn nd))), (.ref d), (.ref b)])) rfl (by rw [hml]; rfl) (argsL := [(.ref d), (.int (Int32.ofNat (own_cap zn nd)))]) (rest := [(.ref b)]) opd_8 rfl rfl rfl (by show 2 * 0 + _ ≤ _; exact Nat.le_of_eq rfl) (hb hby d68_9_32)
    obtain ⟨r27, kr27, rfl, sr27, N27, K27, V27, VX27⟩ := hQ27
    have NN27 := Fr.app N0 N27
    have KK27 : Keep h0 T27.heap [b] := (Keep.refl h0 [b]).trans K27 all0
    have sz_r27 : h0.size ≤ r27 := Nat.le_trans (Keep.refl h0 [b]).1 sr27
    refine os st27 ?_
    show OGo p e below _ T27 (mkF m 35 #[.val (.ref b), .val (.int (Int32.ofNat nd)), .val (.int (Int32.ofNat zn))] [(.ref r27), (.ref b)])
    obtain ⟨T28, h28, X28, e28, W28, st28⟩ := putF X27 hx hZ hown (host := "") (Or.inl (own_g hw 107 rfl)) Via.refl rfl (JF.keep K27 nin0) (JE.keep K27) (Or.inl (own_g hw 108 rfl)) (own_g hw 94 rfl) (ty := (.array .byte)) (by decide) rfl rfl (g := (mkF m 35 #[.val (.ref b), .val (.int (Int32.ofNat nd)), .val (.int (Int32.ofNat zn))] [(.ref r27), (.ref b)])) rfl rfl (hb hby d68_9_35)
    have Fw28 := (JF.keep K27 nin0).same W28
    have N28 := Fr.snoc X28 NN27 g_b
    have KK28 : Keep h0 h28 [b] := KK27.wr W28 (Or.inl (List.mem_of_getElem? (i := 0) rfl))
    refine os st28 ?_
    show OGo p e below _ T28 (mkF m 38 #[.val (.ref b), .val (.int (Int32.ofNat nd)), .val (.int (Int32.ofNat zn))] [])
    have q29 := ((JC.keep K27 nin0).other W28 (Or.inr (slot_ne (Or.inl (own_g hw 110 rfl)) (Or.inl (own_g hw 108 rfl)) (by decide) (t := .byte) (t' := (.array .byte)) (by decide) (by decide))))
    have q30 := ((JN.keep K27 nin0).other W28 (Or.inr (slot_ne (Or.inl (own_g hw 132 rfl)) (Or.inl (own_g hw 108 rfl)) (by decide) (t := .int) (t' := (.array .byte)) (by decide) (by decide))))
    have ne31 : r27 ≠ b := (Ne.symm (Nat.ne_of_lt (Nat.lt_of_lt_of_le JE.lt sz_r27)))
    exact OGo.retV X28 hx hret hlk (hb hby d68_9_38) (by decide) (by decide) (by rw [e28]; exact ⟨rfl, N28, KK28, r27, _, Or.inr sz_r27, ⟨((JE.keep K27).wr W28), Fw28, q29, q30, (V27.other W28 ne31), (VX27.wr W28)⟩⟩)
  refine os (fun _ k => XS.ifYes X23.here hx rfl (pc0 := 14) (pc' := 38) rfl (hb hby d68_9_14) rfl ((if0 _ _).trans (flt (fun p => q ((own_nd (by omega) (by omega)).mp p))).2.2.2) (by decide) (by decide) k) ?_
  show OGo p e below _ T23 (mkF m 38 #[.val (.ref b), .val (.int (Int32.ofNat nd)), .val (.int (Int32.ofNat zn))] [])
  have hc1 : own_cap zn nd = zn := by unfold own_cap; rw [if_pos (by omega)]
  exact OGo.retV X23 hx hret hlk (hb hby d68_9_38) (by decide) (by decide) (by rw [e23, hc1]; exact ⟨rfl, N0, Keep.refl _ _, d, k, Or.inl rfl, ⟨JE, JF, JC, JN, JV, JX⟩⟩)
theorem d68_71_0 : decode jdk_68_method_71_code 0 = .ok (.getstatic 18, 3) := by decide +kernel
theorem d68_71_3 : decode jdk_68_method_71_code 3 = .ok (.ifCond .eq 18, 3) := by decide +kernel
theorem d68_71_6 : decode jdk_68_method_71_code 6 = .ok (.aload_n 0, 1) := by decide +kernel
theorem d68_71_7 : decode jdk_68_method_71_code 7 = .ok (.getfield 22, 3) := by decide +kernel
theorem d68_71_10 : decode jdk_68_method_71_code 10 = .ok (.aload_n 1, 1) := by decide +kernel
theorem d68_71_11 : decode jdk_68_method_71_code 11 = .ok (.invokevirtual 40, 3) := by decide +kernel
theorem d68_71_14 : decode jdk_68_method_71_code 14 = .ok (.if_icmp .eq 7, 3) := by decide +kernel
theorem d68_71_21 : decode jdk_68_method_71_code 21 = .ok (.return_, 1) := by decide +kernel
theorem opl_rm_infl : plainFor (⟨"java/lang/AbstractStringBuilder", "inflateIfNeededFor", "(Ljava/lang/String;)V"⟩ : MethodName) = true := plainFor_of_name (by first | (simp [plainName, overriddenIn]; done) | decide +kernel)
set_option maxRecDepth 65536 in
set_option maxHeartbeats 40000000 in
theorem rm_infl (l : Launch) (Z : State) (a0 : Array Value) (hw : ∀ d ∈ tables_1, d.before a0 Z = true) (ws : List Jvm.Cond) (b d : Addr) (k : ClassId) (z : Int32) (bs : List Value) (a e2 : Addr) (k2 : ClassId) (us : List Value) (zc : Int32) (wf : Value) (n0 : Nat) (h0 : Heap) (SS : own_SS Z zc wf) (O : Old Z n0 h0) (J : SBI Z h0 b d k z bs) (I : STI Z h0 a e2 k2 us) :
    Con l Z (⟨"java/lang/AbstractStringBuilder", "inflateIfNeededFor", "(Ljava/lang/String;)V"⟩ : MethodName) jdk_68_method_71_code 2 none ws ({ frames := 1, cells := 0, slots := 0, locals := 13 } : Room) #[(.ref b), (.ref a)] h0 (fun v h L => v = none ∧ L = [] ∧ h = h0) := by
  refine Con.intro opl_rm_infl ?_
  intro p e s m below meth c s₁ hx hby hml hown hret hlk hZ hnm X0 e0
  have SS' := SS
  obtain ⟨hzc, SC, hwf, SF⟩ := SS
  have Z0 : n0 ≤ h0.size := O.1 ▸ O.2.1
  have N0 := Fr.nil n0
  obtain ⟨JE, JF, JC, JN, JV, JX⟩ := J
  obtain ⟨IE, IC, IF, IV⟩ := I
  refine OGo.cast (g' := (mkF m 0 #[.val (.ref b), .val (.ref a)] [])) (by first | (simp [entryFrame, mkF, argsToLocals, Value.category]; done) | rfl) ?_
  show OGo p e below _ s₁ (mkF m 0 #[.val (.ref b), .val (.ref a)] [])
  obtain ⟨T32, X32, e32, st32⟩ := getS2 X0 hx hZ hown (host := "") (Or.inl (own_g hw 106 rfl)) Via.refl e0 (SC.ext O.2) (g := (mkF m 0 #[.val (.ref b), .val (.ref a)] [])) rfl (hb hby d68_71_0)
  refine os st32 ?_
  show OGo p e below _ T32 (mkF m 3 #[.val (.ref b), .val (.ref a)] [(.int zc)])
  refine os (fun _ k => XS.ifNo X32.here hx rfl (hb hby d68_71_3) rfl ((if0 _ _).trans (feq hzc).1) k) ?_
  show OGo p e below _ T32 (mkF m 6 #[.val (.ref b), .val (.ref a)] [])
  refine os (fun _ k => XS.aloadN X32.here hx rfl (hb hby d68_71_6) rfl rfl k) ?_
  show OGo p e below _ T32 (mkF m 7 #[.val (.ref b), .val (.ref a)] [(.ref b)])
  obtain ⟨T33, X33, e33, st33⟩ := getF X32 hx hZ hown (host := "") (Or.inl (own_g hw 109 rfl)) Via.refl e32 JC (g := (mkF m 7 #[.val (.ref b), .val (.ref a)] [(.ref b)])) rfl rfl (hb hby d68_71_7)
  refine os st33 ?_
  show OGo p e below _ T33 (mkF m 10 #[.val (.ref b), .val (.ref a)] [(.int (0 : Int32))])
  refine os (fun _ k => XS.aloadN X33.here hx rfl (hb hby d68_71_10) rfl rfl k) ?_
  show OGo p e below _ T33 (mkF m 11 #[.val (.ref b), .val (.ref a)] [(.ref a), (.int (0 : Int32))])
  obtain ⟨v34, T34, L34, X34, hQ34, st34⟩ := vcall X33 hx hZ hown (own_g hw 148 rfl) (own_g hw 127 rfl) (own_g hw 129 rfl) rfl (own_g hw 129 rfl) (own_g hw 128 rfl) (own_g hw 3 rfl) (own_g hw 130 rfl) (by decide) (W := 1) (rm_coder l Z a0 hw [] a zc wf n0 h0 SS' O IC) e33 (by decide) (by decide) (by decide) (by decide) (g := (mkF m 11 #[.val (.ref b), .val (.ref a)] [(.ref a), (.int (0 : Int32))])) rfl (by rw [hml]; rfl) IE (argsL := []) (rest := [(.int (0 : Int32))]) opd_0 rfl rfl rfl (by show 2 * 0 + _ ≤ _; exact Nat.le_of_eq rfl) (hb hby d68_71_11)
  obtain ⟨rfl, rfl, e34⟩ := hQ34
  rw [List.append_nil] at X34
  refine os st34 ?_
  show OGo p e below _ T34 (mkF m 14 #[.val (.ref b), .val (.ref a)] [(.int (0 : Int32)), (.int (0 : Int32))])
  refine os (fun _ k => XS.icmpYes X34.here hx rfl (pc0 := 14) (pc' := 21) rfl (hb hby d68_71_14) rfl (teq (rfl : (0 : Int32) = 0)).1 (by decide) (by decide) k) ?_
  show OGo p e below _ T34 (mkF m 21 #[.val (.ref b), .val (.ref a)] [])
  exact OGo.retV X34 hx hret hlk (hb hby d68_71_21) (by decide) (by decide) ⟨rfl, rfl, e34⟩
theorem d42_147_0 : decode jdk_42_method_147_code 0 = .ok (.aload_n 0, 1) := by decide +kernel
theorem d42_147_1 : decode jdk_42_method_147_code 1 = .ok (.invokevirtual 335, 3) := by decide +kernel
theorem d42_147_4 : decode jdk_42_method_147_code 4 = .ok (.iload_n 3, 1) := by decide +kernel
theorem d42_147_5 : decode jdk_42_method_147_code 5 = .ok (.if_icmp .ne 23, 3) := by decide +kernel
theorem d42_147_8 : decode jdk_42_method_147_code 8 = .ok (.aload_n 0, 1) := by decide +kernel
theorem d42_147_9 : decode jdk_42_method_147_code 9 = .ok (.getfield 9, 3) := by decide +kernel
theorem d42_147_12 : decode jdk_42_method_147_code 12 = .ok (.iconst 0, 1) := by decide +kernel
theorem d42_147_13 : decode jdk_42_method_147_code 13 = .ok (.aload_n 1, 1) := by decide +kernel
theorem d42_147_14 : decode jdk_42_method_147_code 14 = .ok (.iload_n 2, 1) := by decide +kernel
theorem d42_147_15 : decode jdk_42_method_147_code 15 = .ok (.iload_n 3, 1) := by decide +kernel
theorem d42_147_16 : decode jdk_42_method_147_code 16 = .ok (.ishl, 1) := by decide +kernel
theorem d42_147_17 : decode jdk_42_method_147_code 17 = .ok (.aload_n 0, 1) := by decide +kernel
theorem d42_147_18 : decode jdk_42_method_147_code 18 = .ok (.getfield 9, 3) := by decide +kernel
theorem d42_147_21 : decode jdk_42_method_147_code 21 = .ok (.arraylength, 1) := by decide +kernel
theorem d42_147_22 : decode jdk_42_method_147_code 22 = .ok (.invokestatic 212, 3) := by decide +kernel
theorem d42_147_25 : decode jdk_42_method_147_code 25 = .ok (.goto 18, 3) := by decide +kernel
theorem d42_147_43 : decode jdk_42_method_147_code 43 = .ok (.return_, 1) := by decide +kernel
theorem opl_rm_getB : plainFor (⟨"java/lang/String", "getBytes", "([BIB)V"⟩ : MethodName) = true := plainFor_of_name (by first | (simp [plainName, overriddenIn]; done) | decide +kernel)
set_option maxRecDepth 65536 in
set_option maxHeartbeats 40000000 in
theorem rm_getB (l : Launch) (Z : State) (a0 : Array Value) (hw : ∀ d ∈ tables_1, d.before a0 Z = true) (ws : List Jvm.Cond) (d : Addr) (k : ClassId) (z : Int32) (bs : List Value) (a e2 : Addr) (k2 : ClassId) (us : List Value) (zc : Int32) (wf : Value) (n0 : Nat) (h0 : Heap) (SS : own_SS Z zc wf) (O : Old Z n0 h0) (V : Arv Z h0 d k .byte z bs (.int (0 : Int32))) (I : STI Z h0 a e2 k2 us) (g_d : n0 ≤ d) (hs2 : bs.length + us.length ≤ z.toNatClampNeg) (hb1 : us.length < 2147483648) (hb2 : bs.length < 2147483648) :
    Con l Z (⟨"java/lang/String", "getBytes", "([BIB)V"⟩ : MethodName) jdk_42_method_147_code 4 none ws ({ frames := 1, cells := 0, slots := 0, locals := 29 } : Room) #[(.ref a), (.ref d), (.int (Int32.ofNat bs.length)), (.int (0 : Int32))] h0 (fun v h L => v = none ∧ Fr n0 L ∧ Keep h0 h [d] ∧ Arv Z h d k .byte z (bs ++ us) (.int (0 : Int32))) := by
  refine Con.intro opl_rm_getB ?_
  intro p e s m below meth c s₁ hx hby hml hown hret hlk hZ hnm X0 e0
  have SS' := SS
  obtain ⟨hzc, SC, hwf, SF⟩ := SS
  have Z0 : n0 ≤ h0.size := O.1 ▸ O.2.1
  have N0 := Fr.nil n0
  obtain ⟨IE, IC, IF, IV⟩ := I
  refine OGo.cast (g' := (mkF m 0 #[.val (.ref a), .val (.ref d), .val (.int (Int32.ofNat bs.length)), .val (.int (0 : Int32))] [])) (by first | (simp [entryFrame, mkF, argsToLocals, Value.category]; done) | rfl) ?_
  show OGo p e below _ s₁ (mkF m 0 #[.val (.ref a), .val (.ref d), .val (.int (Int32.ofNat bs.length)), .val (.int (0 : Int32))] [])
  refine os (fun _ k => XS.aloadN X0.here hx rfl (hb hby d42_147_0) rfl rfl k) ?_
  show OGo p e below _ s₁ (mkF m 1 #[.val (.ref a), .val (.ref d), .val (.int (Int32.ofNat bs.length)), .val (.int (0 : Int32))] [(.ref a)])
  obtain ⟨v35, T35, L35, X35, hQ35, st35⟩ := vcall X0 hx hZ hown (own_g hw 126 rfl) (own_g hw 127 rfl) (own_g hw 129 rfl) rfl (own_g hw 129 rfl) (own_g hw 128 rfl) (own_g hw 3 rfl) (own_g hw 130 rfl) (by decide) (W := 0) (rm_coder l Z a0 hw [] a zc wf n0 h0 SS' O IC) e0 (by decide) (by decide) (by decide) (by decide) (g := (mkF m 1 #[.val (.ref a), .val (.ref d), .val (.int (Int32.ofNat bs.length)), .val (.int (0 : Int32))] [(.ref a)])) rfl (by rw [hml]; rfl) IE (argsL := []) (rest := []) opd_0 rfl rfl rfl (by show 2 * 0 + _ ≤ _; exact Nat.le_of_eq rfl) (hb hby d42_147_1)
  obtain ⟨rfl, rfl, e35⟩ := hQ35
  rw [List.append_nil] at X35
  refine os st35 ?_
  show OGo p e below _ T35 (mkF m 4 #[.val (.ref a), .val (.ref d), .val (.int (Int32.ofNat bs.length)), .val (.int (0 : Int32))] [(.int (0 : Int32))])
  refine os (fun _ k => XS.iloadN X35.here hx rfl (hb hby d42_147_4) rfl k) ?_
  show OGo p e below _ T35 (mkF m 5 #[.val (.ref a), .val (.ref d), .val (.int (Int32.ofNat bs.length)), .val (.int (0 : Int32))] [(.int (0 : Int32)), (.int (0 : Int32))])
  refine os (fun _ k => XS.icmpNo X35.here hx rfl (hb hby d42_147_5) rfl (teq (rfl : (0 : Int32) = 0)).2 k) ?_
  show OGo p e below _ T35 (mkF m 8 #[.val (.ref a), .val (.ref d), .val (.int (Int32.ofNat bs.length)), .val (.int (0 : Int32))] [])
  refine os (fun _ k => XS.aloadN X35.here hx rfl (hb hby d42_147_8) rfl rfl k) ?_
  show OGo p e below _ T35 (mkF m 9 #[.val (.ref a), .val (.ref d), .val (.int (Int32.ofNat bs.length)), .val (.int (0 : Int32))] [(.ref a)])
  obtain ⟨T36, X36, e36, st36⟩ := getF X35 hx hZ hown (host := "") (Or.inl (own_g hw 28 rfl)) Via.refl e35 IF (g := (mkF m 9 #[.val (.ref a), .val (.ref d), .val (.int (Int32.ofNat bs.length)), .val (.int (0 : Int32))] [(.ref a)])) rfl rfl (hb hby d42_147_9)
  refine os st36 ?_
  show OGo p e below _ T36 (mkF m 12 #[.val (.ref a), .val (.ref d), .val (.int (Int32.ofNat bs.length)), .val (.int (0 : Int32))] [(.ref e2)])
  refine os (fun _ k => XS.iconst X36.here hx rfl (hb hby d42_147_12) k) ?_
  show OGo p e below _ T36 (mkF m 13 #[.val (.ref a), .val (.ref d), .val (.int (Int32.ofNat bs.length)), .val (.int (0 : Int32))] [(.int (0 : Int32)), (.ref e2)])
  refine os (fun _ k => XS.aloadN X36.here hx rfl (hb hby d42_147_13) rfl rfl k) ?_
  show OGo p e below _ T36 (mkF m 14 #[.val (.ref a), .val (.ref d), .val (.int (Int32.ofNat bs.length)), .val (.int (0 : Int32))] [(.ref d), (.int (0 : Int32)), (.ref e2)])
  refine os (fun _ k => XS.iloadN X36.here hx rfl (hb hby d42_147_14) rfl k) ?_
  show OGo p e below _ T36 (mkF m 15 #[.val (.ref a), .val (.ref d), .val (.int (Int32.ofNat bs.length)), .val (.int (0 : Int32))] [(.int (Int32.ofNat bs.length)), (.ref d), (.int (0 : Int32)), (.ref e2)])
  refine os (fun _ k => XS.iloadN X36.here hx rfl (hb hby d42_147_15) rfl k) ?_
  show OGo p e below _ T36 (mkF m 16 #[.val (.ref a), .val (.ref d), .val (.int (Int32.ofNat bs.length)), .val (.int (0 : Int32))] [(.int (0 : Int32)), (.int (Int32.ofNat bs.length)), (.ref d), (.int (0 : Int32)), (.ref e2)])
  refine os (fun _ k => XS.ishl X36.here hx rfl (hb hby d42_147_16) rfl k) ?_
  show OGo p e below _ T36 (mkF m 17 #[.val (.ref a), .val (.ref d), .val (.int (Int32.ofNat bs.length)), .val (.int (0 : Int32))] [(.int ((Int32.ofNat bs.length) <<< ((0 : Int32) &&& 31))), (.ref d), (.int (0 : Int32)), (.ref e2)])
  rw [own_shl0]
  show OGo p e below _ T36 (mkF m 17 #[.val (.ref a), .val (.ref d), .val (.int (Int32.ofNat bs.length)), .val (.int (0 : Int32))] [(.int (Int32.ofNat bs.length)), (.ref d), (.int (0 : Int32)), (.ref e2)])
  refine os (fun _ k => XS.aloadN X36.here hx rfl (hb hby d42_147_17) rfl rfl k) ?_
  show OGo p e below _ T36 (mkF m 18 #[.val (.ref a), .val (.ref d), .val (.int (Int32.ofNat bs.length)), .val (.int (0 : Int32))] [(.ref a), (.int (Int32.ofNat bs.length)), (.ref d), (.int (0 : Int32)), (.ref e2)])
  obtain ⟨T37, X37, e37, st37⟩ := getF X36 hx hZ hown (host := "") (Or.inl (own_g hw 28 rfl)) Via.refl e36 IF (g := (mkF m 18 #[.val (.ref a), .val (.ref d), .val (.int (Int32.ofNat bs.length)), .val (.int (0 : Int32))] [(.ref a), (.int (Int32.ofNat bs.length)), (.ref d), (.int (0 : Int32)), (.ref e2)])) rfl rfl (hb hby d42_147_18)
  refine os st37 ?_
  show OGo p e below _ T37 (mkF m 21 #[.val (.ref a), .val (.ref d), .val (.int (Int32.ofNat bs.length)), .val (.int (0 : Int32))] [(.ref e2), (.int (Int32.ofNat bs.length)), (.ref d), (.int (0 : Int32)), (.ref e2)])
  refine os (fun _ k => alenV X37 hx hZ e37 IV (g := (mkF m 21 #[.val (.ref a), .val (.ref d), .val (.int (Int32.ofNat bs.length)), .val (.int (0 : Int32))] [(.ref e2), (.int (Int32.ofNat bs.length)), (.ref d), (.int (0 : Int32)), (.ref e2)])) rfl rfl (hb hby d42_147_21) _ k) ?_
  show OGo p e below _ T37 (mkF m 22 #[.val (.ref a), .val (.ref d), .val (.int (Int32.ofNat bs.length)), .val (.int (0 : Int32))] [(.int (Int32.ofNat us.length)), (.int (Int32.ofNat bs.length)), (.ref d), (.int (0 : Int32)), (.ref e2)])
  obtain ⟨T38, h38, L38, X38, e38, N38, K38, V38, st38⟩ := own_cp X37 hx hZ hown (own_g hw 154 rfl) (own_g hw 157 rfl) (own_g hw 155 rfl) (own_g hw 156 rfl) e37 IV V (by rw [own_cl hb1]; exact Nat.le_refl _) hs2 hb1 hb2 N0 g_d (g := (mkF m 22 #[.val (.ref a), .val (.ref d), .val (.int (Int32.ofNat bs.length)), .val (.int (0 : Int32))] [(.int (Int32.ofNat us.length)), (.int (Int32.ofNat bs.length)), (.ref d), (.int (0 : Int32)), (.ref e2)])) rfl (by rw [hml]; rfl) (rest := []) rfl (hb hby d42_147_22) (by decide) (W := 0) (by show 2 * 0 + _ ≤ _; exact Nat.le_of_eq rfl) (by decide)
  have KK38 : Keep h0 h38 [d] := (Keep.refl h0 [d]).trans K38 (allS (Or.inl (List.mem_of_getElem? (i := 0) rfl)) all0)
  refine os st38 ?_
  show OGo p e below _ T38 (mkF m 25 #[.val (.ref a), .val (.ref d), .val (.int (Int32.ofNat bs.length)), .val (.int (0 : Int32))] [])
  refine os (fun _ k => XS.goto X38.here hx rfl (pc0 := 25) (pc' := 43) rfl (hb hby d42_147_25) (by decide) (by decide) k) ?_
  show OGo p e below _ T38 (mkF m 43 #[.val (.ref a), .val (.ref d), .val (.int (Int32.ofNat bs.length)), .val (.int (0 : Int32))] [])
  exact OGo.retV X38 hx hret hlk (hb hby d42_147_43) (by decide) (by decide) (by rw [e38]; exact ⟨rfl, N38, KK38, V38⟩)
theorem d68_73_0 : decode jdk_68_method_73_code 0 = .ok (.aload_n 0, 1) := by decide +kernel
theorem d68_73_1 : decode jdk_68_method_73_code 1 = .ok (.aload_n 2, 1) := by decide +kernel
theorem opd_9 : parseMethodDescriptor "(Ljava/lang/String;)V" = some ⟨[(.object "java/lang/String")], none⟩ := by decide +kernel
theorem d68_73_2 : decode jdk_68_method_73_code 2 = .ok (.invokevirtual 397, 3) := by decide +kernel
theorem d68_73_5 : decode jdk_68_method_73_code 5 = .ok (.aload_n 2, 1) := by decide +kernel
theorem d68_73_6 : decode jdk_68_method_73_code 6 = .ok (.aload_n 0, 1) := by decide +kernel
theorem d68_73_7 : decode jdk_68_method_73_code 7 = .ok (.getfield 15, 3) := by decide +kernel
theorem d68_73_10 : decode jdk_68_method_73_code 10 = .ok (.iload_n 1, 1) := by decide +kernel
theorem d68_73_11 : decode jdk_68_method_73_code 11 = .ok (.aload_n 0, 1) := by decide +kernel
theorem d68_73_12 : decode jdk_68_method_73_code 12 = .ok (.getfield 22, 3) := by decide +kernel
theorem opd_10 : parseMethodDescriptor "([BIB)V" = some ⟨[(.array .byte), .int, .byte], none⟩ := by decide +kernel
theorem d68_73_15 : decode jdk_68_method_73_code 15 = .ok (.invokevirtual 399, 3) := by decide +kernel
theorem d68_73_18 : decode jdk_68_method_73_code 18 = .ok (.return_, 1) := by decide +kernel
theorem opl_rm_put : plainFor (⟨"java/lang/AbstractStringBuilder", "putStringAt", "(ILjava/lang/String;)V"⟩ : MethodName) = true := plainFor_of_name (by first | (simp [plainName, overriddenIn]; done) | decide +kernel)
set_option maxRecDepth 65536 in
set_option maxHeartbeats 40000000 in
theorem rm_put (l : Launch) (Z : State) (a0 : Array Value) (hw : ∀ d ∈ tables_1, d.before a0 Z = true) (ws : List Jvm.Cond) (b d : Addr) (k : ClassId) (z : Int32) (bs : List Value) (a e2 : Addr) (k2 : ClassId) (us : List Value) (zc : Int32) (wf : Value) (n0 : Nat) (h0 : Heap) (SS : own_SS Z zc wf) (O : Old Z n0 h0) (J : SBI Z h0 b d k z bs) (I : STI Z h0 a e2 k2 us) (g_b : n0 ≤ b) (g_d : n0 ≤ d) (hs2 : bs.length + us.length ≤ z.toNatClampNeg) (hb1 : us.length < 2147483648) (hb2 : bs.length < 2147483648) (nde : e2 ≠ d) (nab : a ≠ b) :
    Con l Z (⟨"java/lang/AbstractStringBuilder", "putStringAt", "(ILjava/lang/String;)V"⟩ : MethodName) jdk_68_method_73_code 3 none ws ({ frames := 2, cells := 0, slots := 0, locals := 44 } : Room) #[(.ref b), (.int (Int32.ofNat bs.length)), (.ref a)] h0 (fun v h L => v = none ∧ Fr n0 L ∧ Keep h0 h [d] ∧ Arv Z h d k .byte z (bs ++ us) (.int (0 : Int32))) := by
  refine Con.intro opl_rm_put ?_
  intro p e s m below meth c s₁ hx hby hml hown hret hlk hZ hnm X0 e0
  have SS' := SS
  obtain ⟨hzc, SC, hwf, SF⟩ := SS
  have Z0 : n0 ≤ h0.size := O.1 ▸ O.2.1
  have N0 := Fr.nil n0
  obtain ⟨JE, JF, JC, JN, JV, JX⟩ := J
  obtain ⟨IE, IC, IF, IV⟩ := I
  refine OGo.cast (g' := (mkF m 0 #[.val (.ref b), .val (.int (Int32.ofNat bs.length)), .val (.ref a)] [])) (by first | (simp [entryFrame, mkF, argsToLocals, Value.category]; done) | rfl) ?_
  show OGo p e below _ s₁ (mkF m 0 #[.val (.ref b), .val (.int (Int32.ofNat bs.length)), .val (.ref a)] [])
  refine os (fun _ k => XS.aloadN X0.here hx rfl (hb hby d68_73_0) rfl rfl k) ?_
  show OGo p e below _ s₁ (mkF m 1 #[.val (.ref b), .val (.int (Int32.ofNat bs.length)), .val (.ref a)] [(.ref b)])
  refine os (fun _ k => XS.aloadN X0.here hx rfl (hb hby d68_73_1) rfl rfl k) ?_
  show OGo p e below _ s₁ (mkF m 2 #[.val (.ref b), .val (.int (Int32.ofNat bs.length)), .val (.ref a)] [(.ref a), (.ref b)])
  obtain ⟨v39, T39, L39, X39, hQ39, st39⟩ := pcall X0 hx hZ hown (own_g hw 143 rfl) (own_g hw 144 rfl) (own_g hw 146 rfl) (own_g hw 145 rfl) (own_g hw 103 rfl) (own_g hw 147 rfl) (by decide) (W := 0) (rm_infl l Z a0 hw [] b d k z bs a e2 k2 us zc wf n0 h0 SS' O ⟨JE, JF, JC, JN, JV, JX⟩ ⟨IE, IC, IF, IV⟩) e0 (by decide) (by decide) (by decide) (by decide) (g := (mkF m 2 #[.val (.ref b), .val (.int (Int32.ofNat bs.length)), .val (.ref a)] [(.ref a), (.ref b)])) rfl (by rw [hml]; rfl) JE (argsL := [(.ref a)]) (rest := []) opd_9 rfl rfl rfl (by show 2 * 0 + _ ≤ _; exact Nat.le_of_eq rfl) (hb hby d68_73_2)
  obtain ⟨rfl, rfl, e39⟩ := hQ39
  rw [List.append_nil] at X39
  refine os st39 ?_
  show OGo p e below _ T39 (mkF m 5 #[.val (.ref b), .val (.int (Int32.ofNat bs.length)), .val (.ref a)] [])
  refine os (fun _ k => XS.aloadN X39.here hx rfl (hb hby d68_73_5) rfl rfl k) ?_
  show OGo p e below _ T39 (mkF m 6 #[.val (.ref b), .val (.int (Int32.ofNat bs.length)), .val (.ref a)] [(.ref a)])
  refine os (fun _ k => XS.aloadN X39.here hx rfl (hb hby d68_73_6) rfl rfl k) ?_
  show OGo p e below _ T39 (mkF m 7 #[.val (.ref b), .val (.int (Int32.ofNat bs.length)), .val (.ref a)] [(.ref b), (.ref a)])
  obtain ⟨T40, X40, e40, st40⟩ := getF X39 hx hZ hown (host := "") (Or.inl (own_g hw 107 rfl)) Via.refl e39 JF (g := (mkF m 7 #[.val (.ref b), .val (.int (Int32.ofNat bs.length)), .val (.ref a)] [(.ref b), (.ref a)])) rfl rfl (hb hby d68_73_7)
  refine os st40 ?_
  show OGo p e below _ T40 (mkF m 10 #[.val (.ref b), .val (.int (Int32.ofNat bs.length)), .val (.ref a)] [(.ref d), (.ref a)])
  refine os (fun _ k => XS.iloadN X40.here hx rfl (hb hby d68_73_10) rfl k) ?_
  show OGo p e below _ T40 (mkF m 11 #[.val (.ref b), .val (.int (Int32.ofNat bs.length)), .val (.ref a)] [(.int (Int32.ofNat bs.length)), (.ref d), (.ref a)])
  refine os (fun _ k => XS.aloadN X40.here hx rfl (hb hby d68_73_11) rfl rfl k) ?_
  show OGo p e below _ T40 (mkF m 12 #[.val (.ref b), .val (.int (Int32.ofNat bs.length)), .val (.ref a)] [(.ref b), (.int (Int32.ofNat bs.length)), (.ref d), (.ref a)])
  obtain ⟨T41, X41, e41, st41⟩ := getF X40 hx hZ hown (host := "") (Or.inl (own_g hw 109 rfl)) Via.refl e40 JC (g := (mkF m 12 #[.val (.ref b), .val (.int (Int32.ofNat bs.length)), .val (.ref a)] [(.ref b), (.int (Int32.ofNat bs.length)), (.ref d), (.ref a)])) rfl rfl (hb hby d68_73_12)
  refine os st41 ?_
  show OGo p e below _ T41 (mkF m 15 #[.val (.ref b), .val (.int (Int32.ofNat bs.length)), .val (.ref a)] [(.int (0 : Int32)), (.int (Int32.ofNat bs.length)), (.ref d), (.ref a)])
  obtain ⟨v42, T42, L42, X42, hQ42, st42⟩ := vcall X41 hx hZ hown (own_g hw 149 rfl) (own_g hw 150 rfl) (own_g hw 152 rfl) rfl (own_g hw 152 rfl) (own_g hw 151 rfl) (own_g hw 3 rfl) (own_g hw 153 rfl) (by decide) (W := 0) (rm_getB l Z a0 hw [] d k z bs a e2 k2 us zc wf n0 h0 SS' O JV ⟨IE, IC, IF, IV⟩ g_d hs2 hb1 hb2) e41 (by decide) (by decide) (by decide) (by decide) (g := (mkF m 15 #[.val (.ref b), .val (.int (Int32.ofNat bs.length)), .val (.ref a)] [(.int (0 : Int32)), (.int (Int32.ofNat bs.length)), (.ref d), (.ref a)])) rfl (by rw [hml]; rfl) IE (argsL := [(.ref d), (.int (Int32.ofNat bs.length)), (.int (0 : Int32))]) (rest := []) opd_10 rfl rfl rfl (by show 2 * 0 + _ ≤ _; exact Nat.le_of_eq rfl) (hb hby d68_73_15)
  obtain ⟨rfl, N42, K42, V42⟩ := hQ42
  have NN42 := Fr.app N0 N42
  have KK42 : Keep h0 T42.heap [d] := (Keep.refl h0 [d]).trans K42 (allS (Or.inl (List.mem_of_getElem? (i := 0) rfl)) all0)
  refine os st42 ?_
  show OGo p e below _ T42 (mkF m 18 #[.val (.ref b), .val (.int (Int32.ofNat bs.length)), .val (.ref a)] [])
  exact OGo.retV X42 hx hret hlk (hb hby d68_73_18) (by decide) (by decide) ⟨rfl, NN42, KK42, V42⟩
theorem d68_22_0 : decode jdk_68_method_22_code 0 = .ok (.aload_n 1, 1) := by decide +kernel
theorem d68_22_1 : decode jdk_68_method_22_code 1 = .ok (.ifnonnull 8, 3) := by decide +kernel
theorem d68_22_9 : decode jdk_68_method_22_code 9 = .ok (.aload_n 1, 1) := by decide +kernel
theorem opd_11 : parseMethodDescriptor "()I" = some ⟨[], some .int⟩ := by decide +kernel
theorem d68_22_10 : decode jdk_68_method_22_code 10 = .ok (.invokevirtual 32, 3) := by decide +kernel
theorem d68_22_13 : decode jdk_68_method_22_code 13 = .ok (.istore_n 2, 1) := by decide +kernel
theorem d68_22_14 : decode jdk_68_method_22_code 14 = .ok (.aload_n 0, 1) := by decide +kernel
theorem d68_22_15 : decode jdk_68_method_22_code 15 = .ok (.aload_n 0, 1) := by decide +kernel
theorem d68_22_16 : decode jdk_68_method_22_code 16 = .ok (.getfield 79, 3) := by decide +kernel
theorem d68_22_19 : decode jdk_68_method_22_code 19 = .ok (.iload_n 2, 1) := by decide +kernel
theorem d68_22_20 : decode jdk_68_method_22_code 20 = .ok (.iadd, 1) := by decide +kernel
theorem opd_12 : parseMethodDescriptor "(I)V" = some ⟨[.int], none⟩ := by decide +kernel
theorem d68_22_21 : decode jdk_68_method_22_code 21 = .ok (.invokevirtual 100, 3) := by decide +kernel
theorem d68_22_24 : decode jdk_68_method_22_code 24 = .ok (.aload_n 0, 1) := by decide +kernel
theorem d68_22_25 : decode jdk_68_method_22_code 25 = .ok (.aload_n 0, 1) := by decide +kernel
theorem d68_22_26 : decode jdk_68_method_22_code 26 = .ok (.getfield 79, 3) := by decide +kernel
theorem d68_22_29 : decode jdk_68_method_22_code 29 = .ok (.aload_n 1, 1) := by decide +kernel
theorem opd_13 : parseMethodDescriptor "(ILjava/lang/String;)V" = some ⟨[.int, (.object "java/lang/String")], none⟩ := by decide +kernel
theorem d68_22_30 : decode jdk_68_method_22_code 30 = .ok (.invokevirtual 208, 3) := by decide +kernel
theorem d68_22_33 : decode jdk_68_method_22_code 33 = .ok (.aload_n 0, 1) := by decide +kernel
theorem d68_22_34 : decode jdk_68_method_22_code 34 = .ok (.dup, 1) := by decide +kernel
theorem d68_22_35 : decode jdk_68_method_22_code 35 = .ok (.getfield 79, 3) := by decide +kernel
theorem d68_22_38 : decode jdk_68_method_22_code 38 = .ok (.iload_n 2, 1) := by decide +kernel
theorem d68_22_39 : decode jdk_68_method_22_code 39 = .ok (.iadd, 1) := by decide +kernel
theorem d68_22_40 : decode jdk_68_method_22_code 40 = .ok (.putfield 79, 3) := by decide +kernel
theorem d68_22_43 : decode jdk_68_method_22_code 43 = .ok (.aload_n 0, 1) := by decide +kernel
theorem d68_22_44 : decode jdk_68_method_22_code 44 = .ok (.areturn, 1) := by decide +kernel
theorem opl_rm_asbAppG : plainFor (⟨"java/lang/AbstractStringBuilder", "append", "(Ljava/lang/String;)Ljava/lang/AbstractStringBuilder;"⟩ : MethodName) = true := plainFor_of_name (by first | (simp [plainName, overriddenIn]; done) | decide +kernel)
set_option maxRecDepth 65536 in
set_option maxHeartbeats 40000000 in
theorem rm_asbAppG (l : Launch) (Z : State) (a0 : Array Value) (hw : ∀ d ∈ tables_1, d.before a0 Z = true) (ws : List Jvm.Cond) (b d : Addr) (k : ClassId) (zn : Nat) (bs : List Value) (a e2 : Addr) (k2 : ClassId) (us : List Value) (zc : Int32) (wf : Value) (n0 : Nat) (h0 : Heap) (SS : own_SS Z zc wf) (O : Old Z n0 h0) (J : SBI Z h0 b d k (Int32.ofNat zn) bs) (hzn : zn ≤ 36) (hbz : bs.length ≤ zn) (I : STI Z h0 a e2 k2 us) (g_b : n0 ≤ b) (g_d : n0 ≤ d) (hsm : bs.length + us.length ≤ 36) (nde : e2 ≠ d) (nab : a ≠ b) :
    Con l Z (⟨"java/lang/AbstractStringBuilder", "append", "(Ljava/lang/String;)Ljava/lang/AbstractStringBuilder;"⟩ : MethodName) jdk_68_method_22_code 3 (some (.object "java/lang/AbstractStringBuilder")) ws ({ frames := 4, cells := 1, slots := 74, locals := 62 } : Room) #[(.ref b), (.ref a)] h0 (fun v h L => v = some (.ref b) ∧ Fr n0 L ∧ Keep h0 h [b, d] ∧ ∃ d' k', (d' = d ∨ h0.size ≤ d') ∧ SBI Z h b d' k' (Int32.ofNat (own_cap zn (bs.length + us.length))) (bs ++ us)) := by
  refine Con.intro opl_rm_asbAppG ?_
  intro p e s m below meth c s₁ hx hby hml hown hret hlk hZ hnm X0 e0
  have SS' := SS
  obtain ⟨hzc, SC, hwf, SF⟩ := SS
  have Z0 : n0 ≤ h0.size := O.1 ▸ O.2.1
  have N0 := Fr.nil n0
  obtain ⟨JE, JF, JC, JN, JV, JX⟩ := J
  obtain ⟨IE, IC, IF, IV⟩ := I
  have nbd : b ≠ d := JE.neArv JV (own_g hw 94 rfl)
  have neb : e2 ≠ b := Ne.symm (JE.neArv IV (own_g hw 94 rfl))
  refine OGo.cast (g' := (mkF m 0 #[.val (.ref b), .val (.ref a), .unset] [])) (by first | (simp [entryFrame, mkF, argsToLocals, Value.category]; done) | rfl) ?_
  show OGo p e below _ s₁ (mkF m 0 #[.val (.ref b), .val (.ref a), .unset] [])
  refine os (fun _ k => XS.aloadN X0.here hx rfl (hb hby d68_22_0) rfl rfl k) ?_
  show OGo p e below _ s₁ (mkF m 1 #[.val (.ref b), .val (.ref a), .unset] [(.ref a)])
  refine os (fun _ k => XS.ifnonnullYes X0.here hx rfl (pc0 := 1) (pc' := 9) rfl (hb hby d68_22_1) rfl (by decide) (by decide) k) ?_
  show OGo p e below _ s₁ (mkF m 9 #[.val (.ref b), .val (.ref a), .unset] [])
  refine os (fun _ k => XS.aloadN X0.here hx rfl (hb hby d68_22_9) rfl rfl k) ?_
  show OGo p e below _ s₁ (mkF m 10 #[.val (.ref b), .val (.ref a), .unset] [(.ref a)])
  obtain ⟨v43, T43, L43, X43, hQ43, st43⟩ := vcall X0 hx hZ hown (own_g hw 121 rfl) (own_g hw 122 rfl) (own_g hw 124 rfl) rfl (own_g hw 124 rfl) (own_g hw 123 rfl) (own_g hw 3 rfl) (own_g hw 125 rfl) (by decide) (W := 0) (rm_length l Z a0 hw [] a e2 k2 us zc wf n0 h0 SS' O ⟨IE, IC, IF, IV⟩) e0 (by decide) (by decide) (by decide) (by decide) (g := (mkF m 10 #[.val (.ref b), .val (.ref a), .unset] [(.ref a)])) rfl (by rw [hml]; rfl) IE (argsL := []) (rest := []) opd_11 rfl rfl rfl (by show 2 * 0 + _ ≤ _; exact Nat.le_of_eq rfl) (hb hby d68_22_10)
  obtain ⟨rfl, rfl, e43⟩ := hQ43
  rw [List.append_nil] at X43
  refine os st43 ?_
  show OGo p e below _ T43 (mkF m 13 #[.val (.ref b), .val (.ref a), .unset] [(.int (Int32.ofNat us.length))])
  refine os (fun _ k => XS.istoreN X43.here hx rfl (hb hby d68_22_13) rfl (l' := #[.val (.ref b), .val (.ref a), .val (.int (Int32.ofNat us.length))]) rfl k) ?_
  show OGo p e below _ T43 (mkF m 14 #[.val (.ref b), .val (.ref a), .val (.int (Int32.ofNat us.length))] [])
  refine os (fun _ k => XS.aloadN X43.here hx rfl (hb hby d68_22_14) rfl rfl k) ?_
  show OGo p e below _ T43 (mkF m 15 #[.val (.ref b), .val (.ref a), .val (.int (Int32.ofNat us.length))] [(.ref b)])
  refine os (fun _ k => XS.aloadN X43.here hx rfl (hb hby d68_22_15) rfl rfl k) ?_
  show OGo p e below _ T43 (mkF m 16 #[.val (.ref b), .val (.ref a), .val (.int (Int32.ofNat us.length))] [(.ref b), (.ref b)])
  obtain ⟨T44, X44, e44, st44⟩ := getF X43 hx hZ hown (host := "") (Or.inl (own_g hw 131 rfl)) Via.refl e43 JN (g := (mkF m 16 #[.val (.ref b), .val (.ref a), .val (.int (Int32.ofNat us.length))] [(.ref b), (.ref b)])) rfl rfl (hb hby d68_22_16)
  refine os st44 ?_
  show OGo p e below _ T44 (mkF m 19 #[.val (.ref b), .val (.ref a), .val (.int (Int32.ofNat us.length))] [(.int (Int32.ofNat bs.length)), (.ref b)])
  refine os (fun _ k => XS.iloadN X44.here hx rfl (hb hby d68_22_19) rfl k) ?_
  show OGo p e below _ T44 (mkF m 20 #[.val (.ref b), .val (.ref a), .val (.int (Int32.ofNat us.length))] [(.int (Int32.ofNat us.length)), (.int (Int32.ofNat bs.length)), (.ref b)])
  refine os (fun _ k => XS.iadd X44.here hx rfl (hb hby d68_22_20) rfl k) ?_
  show OGo p e below _ T44 (mkF m 21 #[.val (.ref b), .val (.ref a), .val (.int (Int32.ofNat us.length))] [(.int ((Int32.ofNat bs.length) + (Int32.ofNat us.length))), (.ref b)])
  rw [own_addn]
  show OGo p e below _ T44 (mkF m 21 #[.val (.ref b), .val (.ref a), .val (.int (Int32.ofNat us.length))] [(.int (Int32.ofNat (bs.length + us.length))), (.ref b)])
  obtain ⟨v45, T45, L45, X45, hQ45, st45⟩ := pcall X44 hx hZ hown (own_g hw 133 rfl) (own_g hw 134 rfl) (own_g hw 136 rfl) (own_g hw 135 rfl) (own_g hw 103 rfl) (own_g hw 137 rfl) (by decide) (W := 0) (rm_ensG l Z a0 hw [] b d k zn bs (bs.length + us.length) zc wf n0 h0 SS' O ⟨JE, JF, JC, JN, JV, JX⟩ hzn hbz hsm g_b) e44 (by decide) (by decide) (by decide) (by decide) (g := (mkF m 21 #[.val (.ref b), .val (.ref a), .val (.int (Int32.ofNat us.length))] [(.int (Int32.ofNat (bs.length + us.length))), (.ref b)])) rfl (by rw [hml]; rfl) JE (argsL := [(.int (Int32.ofNat (bs.length + us.length)))]) (rest := []) opd_12 rfl rfl rfl (by show 2 * 0 + _ ≤ _; exact Nat.le_of_eq rfl) (hb hby d68_22_21)
  obtain ⟨rfl, N45, K45, d45, k45, hd45, J45⟩ := hQ45
  have NN45 := Fr.app N0 N45
  have KK45 : Keep h0 T45.heap [b, d] := (Keep.refl h0 [b, d]).trans K45 (allS (Or.inl (List.mem_of_getElem? (i := 0) rfl)) all0)
  refine os st45 ?_
  show OGo p e below _ T45 (mkF m 24 #[.val (.ref b), .val (.ref a), .val (.int (Int32.ofNat us.length))] [])
  have g_d45 : n0 ≤ d45 := hd45.elim (fun q => q ▸ g_d) (fun q => Nat.le_trans (Nat.le_trans Z0 (Keep.refl h0 [b, d]).1) q)
  have sz_d45 : d45 ∈ [b, d] ∨ h0.size ≤ d45 := hd45.elim (fun q => Or.inl (q ▸ List.mem_of_getElem? (i := 1) rfl)) Or.inr
  obtain ⟨JE45, JF45, JC45, JN45, JV45, JX45⟩ := J45
  have nb2 : b ≠ d45 := JE45.neArv JV45 (own_g hw 94 rfl)
  have hcb : own_cap zn (bs.length + us.length) ≤ 74 := by unfold own_cap; split <;> omega
  have hcg := own_cap_ge zn (bs.length + us.length)
  refine os (fun _ k => XS.aloadN X45.here hx rfl (hb hby d68_22_24) rfl rfl k) ?_
  show OGo p e below _ T45 (mkF m 25 #[.val (.ref b), .val (.ref a), .val (.int (Int32.ofNat us.length))] [(.ref b)])
  refine os (fun _ k => XS.aloadN X45.here hx rfl (hb hby d68_22_25) rfl rfl k) ?_
  show OGo p e below _ T45 (mkF m 26 #[.val (.ref b), .val (.ref a), .val (.int (Int32.ofNat us.length))] [(.ref b), (.ref b)])
  obtain ⟨T46, X46, e46, st46⟩ := getF X45 hx hZ hown (host := "") (Or.inl (own_g hw 131 rfl)) Via.refl rfl JN45 (g := (mkF m 26 #[.val (.ref b), .val (.ref a), .val (.int (Int32.ofNat us.length))] [(.ref b), (.ref b)])) rfl rfl (hb hby d68_22_26)
  refine os st46 ?_
  show OGo p e below _ T46 (mkF m 29 #[.val (.ref b), .val (.ref a), .val (.int (Int32.ofNat us.length))] [(.int (Int32.ofNat bs.length)), (.ref b)])
  refine os (fun _ k => XS.aloadN X46.here hx rfl (hb hby d68_22_29) rfl rfl k) ?_
  show OGo p e below _ T46 (mkF m 30 #[.val (.ref b), .val (.ref a), .val (.int (Int32.ofNat us.length))] [(.ref a), (.int (Int32.ofNat bs.length)), (.ref b)])
  obtain ⟨v47, T47, L47, X47, hQ47, st47⟩ := pcall X46 hx hZ hown (own_g hw 138 rfl) (own_g hw 139 rfl) (own_g hw 141 rfl) (own_g hw 140 rfl) (own_g hw 103 rfl) (own_g hw 142 rfl) (by decide) (W := 0) (rm_put l Z a0 hw [] b d45 k45 (Int32.ofNat (own_cap zn (bs.length + us.length))) bs a e2 k2 us zc wf n0 T45.heap SS' (O.keep K45 (allS g_b all0)) ⟨JE45, JF45, JC45, JN45, JV45, JX45⟩ ⟨(IE.keep K45), (IC.keep K45 (ninS nab nin0)), (IF.keep K45 (ninS nab nin0)), (IV.keep K45 (ninS neb nin0))⟩ g_b g_d45 (by rw [own_cl (by omega)]; exact hcg) (by omega) (by omega) (own_nen IV.lt nde hd45) nab) e46 (by decide) (by decide) (by decide) (by decide) (g := (mkF m 30 #[.val (.ref b), .val (.ref a), .val (.int (Int32.ofNat us.length))] [(.ref a), (.int (Int32.ofNat bs.length)), (.ref b)])) rfl (by rw [hml]; rfl) JE45 (argsL := [(.int (Int32.ofNat bs.length)), (.ref a)]) (rest := []) opd_13 rfl rfl rfl (by show 2 * 0 + _ ≤ _; exact Nat.le_of_eq rfl) (hb hby d68_22_30)
  obtain ⟨rfl, N47, K47, V47⟩ := hQ47
  have NN47 := Fr.app NN45 N47
  have KK47 : Keep h0 T47.heap [b, d] := KK45.trans K47 (allS sz_d45 all0)
  refine os st47 ?_
  show OGo p e below _ T47 (mkF m 33 #[.val (.ref b), .val (.ref a), .val (.int (Int32.ofNat us.length))] [])
  refine os (fun _ k => XS.aloadN X47.here hx rfl (hb hby d68_22_33) rfl rfl k) ?_
  show OGo p e below _ T47 (mkF m 34 #[.val (.ref b), .val (.ref a), .val (.int (Int32.ofNat us.length))] [(.ref b)])
  refine os (fun _ k => XS.dup X47.here hx rfl (hb hby d68_22_34) rfl rfl k) ?_
  show OGo p e below _ T47 (mkF m 35 #[.val (.ref b), .val (.ref a), .val (.int (Int32.ofNat us.length))] [(.ref b), (.ref b)])
  obtain ⟨T48, X48, e48, st48⟩ := getF X47 hx hZ hown (host := "") (Or.inl (own_g hw 131 rfl)) Via.refl rfl (JN45.keep K47 (ninS nb2 nin0)) (g := (mkF m 35 #[.val (.ref b), .val (.ref a), .val (.int (Int32.ofNat us.length))] [(.ref b), (.ref b)])) rfl rfl (hb hby d68_22_35)
  refine os st48 ?_
  show OGo p e below _ T48 (mkF m 38 #[.val (.ref b), .val (.ref a), .val (.int (Int32.ofNat us.length))] [(.int (Int32.ofNat bs.length)), (.ref b)])
  refine os (fun _ k => XS.iloadN X48.here hx rfl (hb hby d68_22_38) rfl k) ?_
  show OGo p e below _ T48 (mkF m 39 #[.val (.ref b), .val (.ref a), .val (.int (Int32.ofNat us.length))] [(.int (Int32.ofNat us.length)), (.int (Int32.ofNat bs.length)), (.ref b)])
  refine os (fun _ k => XS.iadd X48.here hx rfl (hb hby d68_22_39) rfl k) ?_
  show OGo p e below _ T48 (mkF m 40 #[.val (.ref b), .val (.ref a), .val (.int (Int32.ofNat us.length))] [(.int ((Int32.ofNat bs.length) + (Int32.ofNat us.length))), (.ref b)])
  rw [own_addln]
  show OGo p e below _ T48 (mkF m 40 #[.val (.ref b), .val (.ref a), .val (.int (Int32.ofNat us.length))] [(.int (Int32.ofNat (bs ++ us).length)), (.ref b)])
  obtain ⟨T49, h49, X49, e49, W49, st49⟩ := putF X48 hx hZ hown (host := "") (Or.inl (own_g hw 131 rfl)) Via.refl e48 (JN45.keep K47 (ninS nb2 nin0)) (JE45.keep K47) (Or.inl (own_g hw 132 rfl)) (own_g hw 94 rfl) (ty := .int) (by decide) rfl rfl (g := (mkF m 40 #[.val (.ref b), .val (.ref a), .val (.int (Int32.ofNat us.length))] [(.int (Int32.ofNat (bs ++ us).length)), (.ref b)])) rfl rfl (hb hby d68_22_40)
  have Fw49 := (JN45.keep K47 (ninS nb2 nin0)).same W49
  have N49 := Fr.snoc X49 NN47 g_b
  have KK49 : Keep h0 h49 [b, d] := KK47.wr W49 (Or.inl (List.mem_of_getElem? (i := 0) rfl))
  refine os st49 ?_
  show OGo p e below _ T49 (mkF m 43 #[.val (.ref b), .val (.ref a), .val (.int (Int32.ofNat us.length))] [])
  refine os (fun _ k => XS.aloadN X49.here hx rfl (hb hby d68_22_43) rfl rfl k) ?_
  show OGo p e below _ T49 (mkF m 44 #[.val (.ref b), .val (.ref a), .val (.int (Int32.ofNat us.length))] [(.ref b)])
  have q50 := ((JF45.keep K47 (ninS nb2 nin0)).other W49 (Or.inr (slot_ne (Or.inl (own_g hw 108 rfl)) (Or.inl (own_g hw 132 rfl)) (by decide) (t := (.array .byte)) (t' := .int) (by decide) (by decide))))
  have q51 := ((JC45.keep K47 (ninS nb2 nin0)).other W49 (Or.inr (slot_ne (Or.inl (own_g hw 110 rfl)) (Or.inl (own_g hw 132 rfl)) (by decide) (t := .byte) (t' := .int) (by decide) (by decide))))
  exact OGo.ret X49 hx (t := (.object "java/lang/AbstractStringBuilder")) hret hlk rfl (Or.inr (Or.inr (Or.inr (Or.inr ⟨rfl, rfl, rfl⟩)))) (hb hby d68_22_44) (by decide) (by decide) (by rw [e49]; exact ⟨rfl, N49, KK49, d45, _, hd45, ⟨((JE45.keep K47).wr W49), q50, q51, Fw49, (V47.other W49 (Ne.symm nb2)), ((JX45.keep K47).wr W49)⟩⟩)
theorem d67_7_0 : decode jdk_67_method_7_code 0 = .ok (.aload_n 0, 1) := by decide +kernel
theorem d67_7_1 : decode jdk_67_method_7_code 1 = .ok (.aload_n 1, 1) := by decide +kernel
theorem opd_14 : parseMethodDescriptor "(Ljava/lang/String;)Ljava/lang/AbstractStringBuilder;" = some ⟨[(.object "java/lang/String")], some (.object "java/lang/AbstractStringBuilder")⟩ := by decide +kernel
theorem d67_7_2 : decode jdk_67_method_7_code 2 = .ok (.invokespecial 29, 3) := by decide +kernel
theorem d67_7_5 : decode jdk_67_method_7_code 5 = .ok (.pop, 1) := by decide +kernel
theorem d67_7_6 : decode jdk_67_method_7_code 6 = .ok (.aload_n 0, 1) := by decide +kernel
theorem d67_7_7 : decode jdk_67_method_7_code 7 = .ok (.areturn, 1) := by decide +kernel
theorem opl_rm_sbAppG : plainFor (⟨"java/lang/StringBuilder", "append", "(Ljava/lang/String;)Ljava/lang/StringBuilder;"⟩ : MethodName) = true := plainFor_of_name (by first | (simp [plainName, overriddenIn]; done) | decide +kernel)
set_option maxRecDepth 65536 in
set_option maxHeartbeats 40000000 in
theorem rm_sbAppG (l : Launch) (Z : State) (a0 : Array Value) (hw : ∀ d ∈ tables_1, d.before a0 Z = true) (ws : List Jvm.Cond) (b d : Addr) (k : ClassId) (zn : Nat) (bs : List Value) (a e2 : Addr) (k2 : ClassId) (us : List Value) (zc : Int32) (wf : Value) (n0 : Nat) (h0 : Heap) (SS : own_SS Z zc wf) (O : Old Z n0 h0) (J : SBI Z h0 b d k (Int32.ofNat zn) bs) (hzn : zn ≤ 36) (hbz : bs.length ≤ zn) (I : STI Z h0 a e2 k2 us) (g_b : n0 ≤ b) (g_d : n0 ≤ d) (hsm : bs.length + us.length ≤ 36) (nde : e2 ≠ d) (nab : a ≠ b) :
    Con l Z (⟨"java/lang/StringBuilder", "append", "(Ljava/lang/String;)Ljava/lang/StringBuilder;"⟩ : MethodName) jdk_67_method_7_code 2 (some (.object "java/lang/StringBuilder")) ws ({ frames := 5, cells := 1, slots := 74, locals := 76 } : Room) #[(.ref b), (.ref a)] h0 (fun v h L => v = some (.ref b) ∧ Fr n0 L ∧ Keep h0 h [b, d] ∧ ∃ d' k', (d' = d ∨ h0.size ≤ d') ∧ SBI Z h b d' k' (Int32.ofNat (own_cap zn (bs.length + us.length))) (bs ++ us)) := by
  refine Con.intro opl_rm_sbAppG ?_
  intro p e s m below meth c s₁ hx hby hml hown hret hlk hZ hnm X0 e0
  have SS' := SS
  obtain ⟨hzc, SC, hwf, SF⟩ := SS
  have Z0 : n0 ≤ h0.size := O.1 ▸ O.2.1
  have N0 := Fr.nil n0
  obtain ⟨JE, JF, JC, JN, JV, JX⟩ := J
  obtain ⟨IE, IC, IF, IV⟩ := I
  have nbd : b ≠ d := JE.neArv JV (own_g hw 94 rfl)
  have neb : e2 ≠ b := Ne.symm (JE.neArv IV (own_g hw 94 rfl))
  refine OGo.cast (g' := (mkF m 0 #[.val (.ref b), .val (.ref a)] [])) (by first | (simp [entryFrame, mkF, argsToLocals, Value.category]; done) | rfl) ?_
  show OGo p e below _ s₁ (mkF m 0 #[.val (.ref b), .val (.ref a)] [])
  refine os (fun _ k => XS.aloadN X0.here hx rfl (hb hby d67_7_0) rfl rfl k) ?_
  show OGo p e below _ s₁ (mkF m 1 #[.val (.ref b), .val (.ref a)] [(.ref b)])
  refine os (fun _ k => XS.aloadN X0.here hx rfl (hb hby d67_7_1) rfl rfl k) ?_
  show OGo p e below _ s₁ (mkF m 2 #[.val (.ref b), .val (.ref a)] [(.ref a), (.ref b)])
  obtain ⟨v52, T52, L52, X52, hQ52, st52⟩ := ucall X0 hx hZ hown (own_g hw 116 rfl) (own_same (own_g hw 136 rfl) rfl (own_g hw 117 rfl) (by decide)) (own_g hw 117 rfl) (own_g hw 118 rfl) (own_g hw 103 rfl) (own_g hw 120 rfl) (by decide) (W := 0) (rm_asbAppG l Z a0 hw [] b d k zn bs a e2 k2 us zc wf n0 h0 SS' O ⟨JE, JF, JC, JN, JV, JX⟩ hzn hbz ⟨IE, IC, IF, IV⟩ g_b g_d hsm nde nab) e0 (by decide) (by decide) (by decide) (by decide) (g := (mkF m 2 #[.val (.ref b), .val (.ref a)] [(.ref a), (.ref b)])) rfl (by rw [hml]; rfl) JE (argsL := [(.ref a)]) (rest := []) opd_14 rfl rfl rfl (by show 2 * 0 + _ ≤ _; exact Nat.le_of_eq rfl) (hb hby d67_7_2)
  obtain ⟨rfl, N52, K52, d52, k52, hd52, J52⟩ := hQ52
  have NN52 := Fr.app N0 N52
  have KK52 : Keep h0 T52.heap [b, d] := (Keep.refl h0 [b, d]).trans K52 (allS (Or.inl (List.mem_of_getElem? (i := 0) rfl)) (allS (Or.inl (List.mem_of_getElem? (i := 1) rfl)) all0))
  refine os st52 ?_
  show OGo p e below _ T52 (mkF m 5 #[.val (.ref b), .val (.ref a)] [(.ref b)])
  refine os (fun _ k => XS.pop X52.here hx rfl (hb hby d67_7_5) rfl rfl k) ?_
  show OGo p e below _ T52 (mkF m 6 #[.val (.ref b), .val (.ref a)] [])
  refine os (fun _ k => XS.aloadN X52.here hx rfl (hb hby d67_7_6) rfl rfl k) ?_
  show OGo p e below _ T52 (mkF m 7 #[.val (.ref b), .val (.ref a)] [(.ref b)])
  exact OGo.ret X52 hx (t := (.object "java/lang/StringBuilder")) hret hlk rfl (Or.inr (Or.inr (Or.inr (Or.inr ⟨rfl, rfl, rfl⟩)))) (hb hby d67_7_7) (by decide) (by decide) ⟨rfl, NN52, KK52, d52, _, hd52, J52⟩
theorem d68_2_0 : decode jdk_68_method_2_code 0 = .ok (.aload_n 0, 1) := by decide +kernel
theorem d68_2_1 : decode jdk_68_method_2_code 1 = .ok (.invokespecial 3, 3) := by decide +kernel
theorem d68_2_4 : decode jdk_68_method_2_code 4 = .ok (.getstatic 18, 3) := by decide +kernel
theorem d68_2_7 : decode jdk_68_method_2_code 7 = .ok (.ifCond .eq 18, 3) := by decide +kernel
theorem d68_2_10 : decode jdk_68_method_2_code 10 = .ok (.aload_n 0, 1) := by decide +kernel
theorem d68_2_11 : decode jdk_68_method_2_code 11 = .ok (.iload_n 1, 1) := by decide +kernel
theorem d68_2_12 : decode jdk_68_method_2_code 12 = .ok (.newarray .byte, 2) := by decide +kernel
theorem d68_2_14 : decode jdk_68_method_2_code 14 = .ok (.putfield 15, 3) := by decide +kernel
theorem d68_2_17 : decode jdk_68_method_2_code 17 = .ok (.aload_n 0, 1) := by decide +kernel
theorem d68_2_18 : decode jdk_68_method_2_code 18 = .ok (.iconst 0, 1) := by decide +kernel
theorem d68_2_19 : decode jdk_68_method_2_code 19 = .ok (.putfield 22, 3) := by decide +kernel
theorem d68_2_22 : decode jdk_68_method_2_code 22 = .ok (.goto 16, 3) := by decide +kernel
theorem d68_2_38 : decode jdk_68_method_2_code 38 = .ok (.return_, 1) := by decide +kernel
theorem opl_rm_asbInit : plainFor (⟨"java/lang/AbstractStringBuilder", "<init>", "(I)V"⟩ : MethodName) = true := plainFor_of_name (by first | (simp [plainName, overriddenIn]; done) | decide +kernel)
set_option maxRecDepth 65536 in
set_option maxHeartbeats 40000000 in
theorem rm_asbInit (l : Launch) (Z : State) (a0 : Array Value) (hw : ∀ d ∈ tables_1, d.before a0 Z = true) (ws : List Jvm.Cond) (b : Addr) (zc : Int32) (wf : Value) (n0 : Nat) (h0 : Heap) (SS : own_SS Z zc wf) (O : Old Z n0 h0) (E : Exa Z h0 b "java/lang/StringBuilder") (Fv : Fld Z h0 b "java/lang/AbstractStringBuilder" "value" "[B" .null) (Fc : Fld Z h0 b "java/lang/AbstractStringBuilder" "coder" "B" (.int (0 : Int32))) (Fn : Fld Z h0 b "java/lang/AbstractStringBuilder" "count" "I" (.int (0 : Int32))) (g_b : n0 ≤ b) :
    Con l Z (⟨"java/lang/AbstractStringBuilder", "<init>", "(I)V"⟩ : MethodName) jdk_68_method_2_code 2 none ws ({ frames := 1, cells := 1, slots := 16, locals := 12 } : Room) #[(.ref b), (.int (16 : Int32))] h0 (fun v h L => v = none ∧ Fr n0 L ∧ Keep h0 h [b] ∧ ∃ d k, h0.size ≤ d ∧ SBI Z h b d k (Int32.ofNat 16) []) := by
  refine Con.intro opl_rm_asbInit ?_
  intro p e s m below meth c s₁ hx hby hml hown hret hlk hZ hnm X0 e0
  obtain ⟨hzc, SC, hwf, SF⟩ := SS
  have Z0 : n0 ≤ h0.size := O.1 ▸ O.2.1
  have N0 := Fr.nil n0
  refine OGo.cast (g' := (mkF m 0 #[.val (.ref b), .val (.int (16 : Int32))] [])) (by first | (simp [entryFrame, mkF, argsToLocals, Value.category]; done) | rfl) ?_
  show OGo p e below _ s₁ (mkF m 0 #[.val (.ref b), .val (.int (16 : Int32))] [])
  refine os (fun _ k => XS.aloadN X0.here hx rfl (hb hby d68_2_0) rfl rfl k) ?_
  show OGo p e below _ s₁ (mkF m 1 #[.val (.ref b), .val (.int (16 : Int32))] [(.ref b)])
  obtain ⟨T53, X53, e53, st53⟩ := initO X0 hx hZ hown (own_g hw 105 rfl) (own_g hw 12 rfl) (own_g hw 13 rfl) e0 (g := (mkF m 1 #[.val (.ref b), .val (.int (16 : Int32))] [(.ref b)])) rfl (by rw [hml]; rfl) rfl (hb hby d68_2_1) (by decide) (W := 0) (by show 2 * 0 + _ ≤ _; exact Nat.le_of_eq rfl) (by decide)
  refine os st53 ?_
  show OGo p e below _ T53 (mkF m 4 #[.val (.ref b), .val (.int (16 : Int32))] [])
  obtain ⟨T54, X54, e54, st54⟩ := getS2 X53 hx hZ hown (host := "") (Or.inl (own_g hw 106 rfl)) Via.refl e53 (SC.ext O.2) (g := (mkF m 4 #[.val (.ref b), .val (.int (16 : Int32))] [])) rfl (hb hby d68_2_4)
  refine os st54 ?_
  show OGo p e below _ T54 (mkF m 7 #[.val (.ref b), .val (.int (16 : Int32))] [(.int zc)])
  refine os (fun _ k => XS.ifNo X54.here hx rfl (hb hby d68_2_7) rfl ((if0 _ _).trans (feq hzc).1) k) ?_
  show OGo p e below _ T54 (mkF m 10 #[.val (.ref b), .val (.int (16 : Int32))] [])
  refine os (fun _ k => XS.aloadN X54.here hx rfl (hb hby d68_2_10) rfl rfl k) ?_
  show OGo p e below _ T54 (mkF m 11 #[.val (.ref b), .val (.int (16 : Int32))] [(.ref b)])
  refine os (fun _ k => XS.iloadN X54.here hx rfl (hb hby d68_2_11) rfl k) ?_
  show OGo p e below _ T54 (mkF m 12 #[.val (.ref b), .val (.int (16 : Int32))] [(.int (16 : Int32)), (.ref b)])
  obtain ⟨T55, h55, k55, X55, e55, E55, A55, AE55, st55⟩ := newPE X54 hx hZ (own_g hw 19 rfl) e54 (g := (mkF m 12 #[.val (.ref b), .val (.int (16 : Int32))] [(.int (16 : Int32)), (.ref b)])) rfl (hb hby d68_2_12) rfl (by decide) (cap := 16) (by decide) (by decide) (by decide) (by decide) (ad := "[B") (by decide)
  obtain ⟨b55, g55⟩ : ∃ z, z = h0.size := ⟨_, rfl⟩
  rw [← g55] at A55 AE55 st55
  have sz_b55 : h0.size ≤ b55 := Nat.le_trans (Keep.refl h0 [b]).1 (Nat.le_of_eq g55.symm)
  have KK55 : Keep h0 h55 [b] := (Keep.refl h0 [b]).ext E55
  have V55 : Arv Z h55 b55 k55 .byte (16 : Int32) [] (.int (0 : Int32)) := Arv.new A55 (by decide)
  refine os st55 ?_
  show OGo p e below _ T55 (mkF m 14 #[.val (.ref b), .val (.int (16 : Int32))] [(.ref b55), (.ref b)])
  obtain ⟨T56, h56, X56, e56, W56, st56⟩ := putF X55 hx hZ hown (host := "") (Or.inl (own_g hw 107 rfl)) Via.refl e55 (Fv.ext E55) (E.ext E55) (Or.inl (own_g hw 108 rfl)) (own_g hw 94 rfl) (ty := (.array .byte)) (by decide) rfl rfl (g := (mkF m 14 #[.val (.ref b), .val (.int (16 : Int32))] [(.ref b55), (.ref b)])) rfl rfl (hb hby d68_2_14)
  have Fw56 := (Fv.ext E55).same W56
  have N56 := Fr.snoc X56 N0 g_b
  have KK56 : Keep h0 h56 [b] := KK55.wr W56 (Or.inl (List.mem_of_getElem? (i := 0) rfl))
  refine os st56 ?_
  show OGo p e below _ T56 (mkF m 17 #[.val (.ref b), .val (.int (16 : Int32))] [])
  refine os (fun _ k => XS.aloadN X56.here hx rfl (hb hby d68_2_17) rfl rfl k) ?_
  show OGo p e below _ T56 (mkF m 18 #[.val (.ref b), .val (.int (16 : Int32))] [(.ref b)])
  refine os (fun _ k => XS.iconst X56.here hx rfl (hb hby d68_2_18) k) ?_
  show OGo p e below _ T56 (mkF m 19 #[.val (.ref b), .val (.int (16 : Int32))] [(.int (0 : Int32)), (.ref b)])
  have q58 := ((Fc.ext E55).other W56 (Or.inr (slot_ne (Or.inl (own_g hw 110 rfl)) (Or.inl (own_g hw 108 rfl)) (by decide) (t := .byte) (t' := (.array .byte)) (by decide) (by decide))))
  obtain ⟨T57, h57, X57, e57, W57, st57⟩ := putFN X56 hx hZ hown (own_g hw 109 rfl) Via.refl e56 q58 ((E.ext E55).wr W56) (Or.inl (own_g hw 110 rfl)) (own_g hw 94 rfl) (ty := .byte) (v' := (.int (0 : Int32))) (by decide) rfl rfl (g := (mkF m 19 #[.val (.ref b), .val (.int (16 : Int32))] [(.int (0 : Int32)), (.ref b)])) rfl rfl (hb hby d68_2_19)
  have Fw57 := q58.same W57
  have N57 := Fr.snoc X57 N56 g_b
  have KK57 : Keep h0 h57 [b] := KK56.wr W57 (Or.inl (List.mem_of_getElem? (i := 0) rfl))
  refine os st57 ?_
  show OGo p e below _ T57 (mkF m 22 #[.val (.ref b), .val (.int (16 : Int32))] [])
  refine os (fun _ k => XS.goto X57.here hx rfl (pc0 := 22) (pc' := 38) rfl (hb hby d68_2_22) (by decide) (by decide) k) ?_
  show OGo p e below _ T57 (mkF m 38 #[.val (.ref b), .val (.int (16 : Int32))] [])
  refine OGo.cast rfl ?_
  have q59 := (Fw56.other W57 (Or.inr (slot_ne (Or.inl (own_g hw 108 rfl)) (Or.inl (own_g hw 110 rfl)) (by decide) (t := (.array .byte)) (t' := .byte) (by decide) (by decide))))
  have q60 := (((Fn.ext E55).other W56 (Or.inr (slot_ne (Or.inl (own_g hw 132 rfl)) (Or.inl (own_g hw 108 rfl)) (by decide) (t := .int) (t' := (.array .byte)) (by decide) (by decide)))).other W57 (Or.inr (slot_ne (Or.inl (own_g hw 132 rfl)) (Or.inl (own_g hw 110 rfl)) (by decide) (t := .int) (t' := .byte) (by decide) (by decide))))
  have ne61 : b55 ≠ b := (Ne.symm (Nat.ne_of_lt (Nat.lt_of_lt_of_le E.lt sz_b55)))
  exact OGo.retV X57 hx hret hlk (hb hby d68_2_38) (by decide) (by decide) (by rw [e57]; exact ⟨rfl, N57, KK57, b55, _, sz_b55, ⟨(((E.ext E55).wr W56).wr W57), q59, Fw57, q60, ((V55.other W56 ne61).other W57 ne61), ((AE55.wr W56).wr W57)⟩⟩)
theorem d67_1_0 : decode jdk_67_method_1_code 0 = .ok (.aload_n 0, 1) := by decide +kernel
theorem d67_1_1 : decode jdk_67_method_1_code 1 = .ok (.bipush 16, 2) := by decide +kernel
theorem d67_1_3 : decode jdk_67_method_1_code 3 = .ok (.invokespecial 1, 3) := by decide +kernel
theorem d67_1_6 : decode jdk_67_method_1_code 6 = .ok (.return_, 1) := by decide +kernel
theorem opl_rm_sbInit : plainFor (⟨"java/lang/StringBuilder", "<init>", "()V"⟩ : MethodName) = true := plainFor_of_name (by first | (simp [plainName, overriddenIn]; done) | decide +kernel)
set_option maxRecDepth 65536 in
set_option maxHeartbeats 40000000 in
theorem rm_sbInit (l : Launch) (Z : State) (a0 : Array Value) (hw : ∀ d ∈ tables_1, d.before a0 Z = true) (ws : List Jvm.Cond) (b : Addr) (zc : Int32) (wf : Value) (n0 : Nat) (h0 : Heap) (SS : own_SS Z zc wf) (O : Old Z n0 h0) (E : Exa Z h0 b "java/lang/StringBuilder") (Fv : Fld Z h0 b "java/lang/AbstractStringBuilder" "value" "[B" .null) (Fc : Fld Z h0 b "java/lang/AbstractStringBuilder" "coder" "B" (.int (0 : Int32))) (Fn : Fld Z h0 b "java/lang/AbstractStringBuilder" "count" "I" (.int (0 : Int32))) (g_b : n0 ≤ b) :
    Con l Z (⟨"java/lang/StringBuilder", "<init>", "()V"⟩ : MethodName) jdk_67_method_1_code 1 none ws ({ frames := 2, cells := 1, slots := 16, locals := 25 } : Room) #[(.ref b)] h0 (fun v h L => v = none ∧ Fr n0 L ∧ Keep h0 h [b] ∧ ∃ d k, h0.size ≤ d ∧ SBI Z h b d k (Int32.ofNat 16) []) := by
  refine Con.intro opl_rm_sbInit ?_
  intro p e s m below meth c s₁ hx hby hml hown hret hlk hZ hnm X0 e0
  have SS' := SS
  obtain ⟨hzc, SC, hwf, SF⟩ := SS
  have Z0 : n0 ≤ h0.size := O.1 ▸ O.2.1
  have N0 := Fr.nil n0
  refine OGo.cast (g' := (mkF m 0 #[.val (.ref b)] [])) (by first | (simp [entryFrame, mkF, argsToLocals, Value.category]; done) | rfl) ?_
  show OGo p e below _ s₁ (mkF m 0 #[.val (.ref b)] [])
  refine os (fun _ k => XS.aloadN X0.here hx rfl (hb hby d67_1_0) rfl rfl k) ?_
  show OGo p e below _ s₁ (mkF m 1 #[.val (.ref b)] [(.ref b)])
  refine os (fun _ k => XS.bipush X0.here hx rfl (hb hby d67_1_1) k) ?_
  show OGo p e below _ s₁ (mkF m 3 #[.val (.ref b)] [(.int (16 : Int32)), (.ref b)])
  obtain ⟨v62, T62, L62, X62, hQ62, st62⟩ := icall X0 hx hZ rfl hown (own_g hw 99 rfl) (own_g hw 100 rfl) (own_g hw 103 rfl) (own_g hw 104 rfl) (by decide) (W := 0) (rm_asbInit l Z a0 hw [] b zc wf n0 h0 SS' O E Fv Fc Fn g_b) e0 (by decide) (by decide) (by decide) (by decide) (g := (mkF m 3 #[.val (.ref b)] [(.int (16 : Int32)), (.ref b)])) rfl (by rw [hml]; rfl) (a := b) (argsL := [(.int (16 : Int32))]) (rest := []) opd_12 rfl rfl rfl (by show 2 * 0 + _ ≤ _; exact Nat.le_of_eq rfl) (hb hby d67_1_3)
  obtain ⟨rfl, N62, K62, d62, k62, sd62, I62⟩ := hQ62
  have NN62 := Fr.app N0 N62
  have KK62 : Keep h0 T62.heap [b] := (Keep.refl h0 [b]).trans K62 (allS (Or.inl (List.mem_of_getElem? (i := 0) rfl)) all0)
  refine os st62 ?_
  show OGo p e below _ T62 (mkF m 6 #[.val (.ref b)] [])
  exact OGo.retV X62 hx hret hlk (hb hby d67_1_6) (by decide) (by decide) ⟨rfl, NN62, KK62, d62, k62, sd62, I62⟩
theorem d68_64_0 : decode jdk_68_method_64_code 0 = .ok (.aload_n 0, 1) := by decide +kernel
theorem d68_64_1 : decode jdk_68_method_64_code 1 = .ok (.getfield 15, 3) := by decide +kernel
theorem d68_64_4 : decode jdk_68_method_64_code 4 = .ok (.areturn, 1) := by decide +kernel
theorem opl_rm_getV : plainFor (⟨"java/lang/AbstractStringBuilder", "getValue", "()[B"⟩ : MethodName) = true := plainFor_of_name (by first | (simp [plainName, overriddenIn]; done) | decide +kernel)
set_option maxRecDepth 65536 in
set_option maxHeartbeats 40000000 in
theorem rm_getV (l : Launch) (Z : State) (a0 : Array Value) (hw : ∀ d ∈ tables_1, d.before a0 Z = true) (ws : List Jvm.Cond) (b d : Addr) (k : ClassId) (zn : Nat) (bs : List Value) (zc : Int32) (wf : Value) (n0 : Nat) (h0 : Heap) (SS : own_SS Z zc wf) (O : Old Z n0 h0) (J : SBI Z h0 b d k (Int32.ofNat zn) bs) :
    Con l Z (⟨"java/lang/AbstractStringBuilder", "getValue", "()[B"⟩ : MethodName) jdk_68_method_64_code 1 (some (.array .byte)) ws ({ frames := 0, cells := 0, slots := 0, locals := 0 } : Room) #[(.ref b)] h0 (fun v h L => v = some (.ref d) ∧ L = [] ∧ h = h0) := by
  refine Con.intro opl_rm_getV ?_
  intro p e s m below meth c s₁ hx hby hml hown hret hlk hZ hnm X0 e0
  have SS' := SS
  obtain ⟨hzc, SC, hwf, SF⟩ := SS
  have Z0 : n0 ≤ h0.size := O.1 ▸ O.2.1
  have N0 := Fr.nil n0
  obtain ⟨JE, JF, JC, JN, JV, JX⟩ := J
  refine OGo.cast (g' := (mkF m 0 #[.val (.ref b)] [])) (by first | (simp [entryFrame, mkF, argsToLocals, Value.category]; done) | rfl) ?_
  show OGo p e below _ s₁ (mkF m 0 #[.val (.ref b)] [])
  refine os (fun _ k => XS.aloadN X0.here hx rfl (hb hby d68_64_0) rfl rfl k) ?_
  show OGo p e below _ s₁ (mkF m 1 #[.val (.ref b)] [(.ref b)])
  obtain ⟨T63, X63, e63, st63⟩ := getF X0 hx hZ hown (host := "") (Or.inl (own_g hw 107 rfl)) Via.refl e0 JF (g := (mkF m 1 #[.val (.ref b)] [(.ref b)])) rfl rfl (hb hby d68_64_1)
  refine os st63 ?_
  show OGo p e below _ T63 (mkF m 4 #[.val (.ref b)] [(.ref d)])
  exact OGo.ret X63 hx (t := (.array .byte)) hret hlk rfl (Or.inr (Or.inr (Or.inr (Or.inr ⟨rfl, rfl, rfl⟩)))) (hb hby d68_64_4) (by decide) (by decide) ⟨rfl, rfl, e63⟩
theorem d68_6_0 : decode jdk_68_method_6_code 0 = .ok (.aload_n 0, 1) := by decide +kernel
theorem d68_6_1 : decode jdk_68_method_6_code 1 = .ok (.getfield 79, 3) := by decide +kernel
theorem d68_6_4 : decode jdk_68_method_6_code 4 = .ok (.ireturn, 1) := by decide +kernel
theorem opl_rm_asbLen : plainFor (⟨"java/lang/AbstractStringBuilder", "length", "()I"⟩ : MethodName) = true := plainFor_of_name (by first | (simp [plainName, overriddenIn]; done) | decide +kernel)
set_option maxRecDepth 65536 in
set_option maxHeartbeats 40000000 in
theorem rm_asbLen (l : Launch) (Z : State) (a0 : Array Value) (hw : ∀ d ∈ tables_1, d.before a0 Z = true) (ws : List Jvm.Cond) (b d : Addr) (k : ClassId) (zn : Nat) (bs : List Value) (zc : Int32) (wf : Value) (n0 : Nat) (h0 : Heap) (SS : own_SS Z zc wf) (O : Old Z n0 h0) (J : SBI Z h0 b d k (Int32.ofNat zn) bs) :
    Con l Z (⟨"java/lang/AbstractStringBuilder", "length", "()I"⟩ : MethodName) jdk_68_method_6_code 1 (some .int) ws ({ frames := 0, cells := 0, slots := 0, locals := 0 } : Room) #[(.ref b)] h0 (fun v h L => v = some (.int (Int32.ofNat bs.length)) ∧ L = [] ∧ h = h0) := by
  refine Con.intro opl_rm_asbLen ?_
  intro p e s m below meth c s₁ hx hby hml hown hret hlk hZ hnm X0 e0
  have SS' := SS
  obtain ⟨hzc, SC, hwf, SF⟩ := SS
  have Z0 : n0 ≤ h0.size := O.1 ▸ O.2.1
  have N0 := Fr.nil n0
  obtain ⟨JE, JF, JC, JN, JV, JX⟩ := J
  refine OGo.cast (g' := (mkF m 0 #[.val (.ref b)] [])) (by first | (simp [entryFrame, mkF, argsToLocals, Value.category]; done) | rfl) ?_
  show OGo p e below _ s₁ (mkF m 0 #[.val (.ref b)] [])
  refine os (fun _ k => XS.aloadN X0.here hx rfl (hb hby d68_6_0) rfl rfl k) ?_
  show OGo p e below _ s₁ (mkF m 1 #[.val (.ref b)] [(.ref b)])
  obtain ⟨T64, X64, e64, st64⟩ := getF X0 hx hZ hown (host := "") (Or.inl (own_g hw 131 rfl)) Via.refl e0 JN (g := (mkF m 1 #[.val (.ref b)] [(.ref b)])) rfl rfl (hb hby d68_6_1)
  refine os st64 ?_
  show OGo p e below _ T64 (mkF m 4 #[.val (.ref b)] [(.int (Int32.ofNat bs.length))])
  exact OGo.ret X64 hx (t := .int) hret hlk rfl (Or.inl ⟨rfl, by simp, _, rfl⟩) (hb hby d68_6_4) (by decide) (by decide) ⟨rfl, rfl, e64⟩
theorem d67_93_0 : decode jdk_67_method_93_code 0 = .ok (.aload_n 0, 1) := by decide +kernel
theorem d67_93_1 : decode jdk_67_method_93_code 1 = .ok (.invokespecial 343, 3) := by decide +kernel
theorem d67_93_4 : decode jdk_67_method_93_code 4 = .ok (.ireturn, 1) := by decide +kernel
theorem opl_rm_sbLen : plainFor (⟨"java/lang/StringBuilder", "length", "()I"⟩ : MethodName) = true := plainFor_of_name (by first | (simp [plainName, overriddenIn]; done) | decide +kernel)
set_option maxRecDepth 65536 in
set_option maxHeartbeats 40000000 in
theorem rm_sbLen (l : Launch) (Z : State) (a0 : Array Value) (hw : ∀ d ∈ tables_1, d.before a0 Z = true) (ws : List Jvm.Cond) (b d : Addr) (k : ClassId) (zn : Nat) (bs : List Value) (zc : Int32) (wf : Value) (n0 : Nat) (h0 : Heap) (SS : own_SS Z zc wf) (O : Old Z n0 h0) (J : SBI Z h0 b d k (Int32.ofNat zn) bs) :
    Con l Z (⟨"java/lang/StringBuilder", "length", "()I"⟩ : MethodName) jdk_67_method_93_code 1 (some .int) ws ({ frames := 1, cells := 0, slots := 0, locals := 12 } : Room) #[(.ref b)] h0 (fun v h L => v = some (.int (Int32.ofNat bs.length)) ∧ L = [] ∧ h = h0) := by
  refine Con.intro opl_rm_sbLen ?_
  intro p e s m below meth c s₁ hx hby hml hown hret hlk hZ hnm X0 e0
  have SS' := SS
  obtain ⟨hzc, SC, hwf, SF⟩ := SS
  have Z0 : n0 ≤ h0.size := O.1 ▸ O.2.1
  have N0 := Fr.nil n0
  obtain ⟨JE, JF, JC, JN, JV, JX⟩ := J
  refine OGo.cast (g' := (mkF m 0 #[.val (.ref b)] [])) (by first | (simp [entryFrame, mkF, argsToLocals, Value.category]; done) | rfl) ?_
  show OGo p e below _ s₁ (mkF m 0 #[.val (.ref b)] [])
  refine os (fun _ k => XS.aloadN X0.here hx rfl (hb hby d67_93_0) rfl rfl k) ?_
  show OGo p e below _ s₁ (mkF m 1 #[.val (.ref b)] [(.ref b)])
  obtain ⟨v65, T65, L65, X65, hQ65, st65⟩ := ucall X0 hx hZ hown (own_g hw 184 rfl) (own_same (own_g hw 136 rfl) rfl (own_g hw 180 rfl) (by decide)) (own_g hw 180 rfl) (own_g hw 118 rfl) (own_g hw 103 rfl) (own_g hw 185 rfl) (by decide) (W := 0) (rm_asbLen l Z a0 hw [] b d k zn bs zc wf n0 h0 SS' O ⟨JE, JF, JC, JN, JV, JX⟩) e0 (by decide) (by decide) (by decide) (by decide) (g := (mkF m 1 #[.val (.ref b)] [(.ref b)])) rfl (by rw [hml]; rfl) JE (argsL := []) (rest := []) opd_11 rfl rfl rfl (by show 2 * 0 + _ ≤ _; exact Nat.le_of_eq rfl) (hb hby d67_93_1)
  obtain ⟨rfl, rfl, e65⟩ := hQ65
  rw [List.append_nil] at X65
  refine os st65 ?_
  show OGo p e below _ T65 (mkF m 4 #[.val (.ref b)] [(.int (Int32.ofNat bs.length))])
  exact OGo.ret X65 hx (t := .int) hret hlk rfl (Or.inl ⟨rfl, by simp, _, rfl⟩) (hb hby d67_93_4) (by decide) (by decide) ⟨rfl, rfl, e65⟩
theorem d68_68_0 : decode jdk_68_method_68_code 0 = .ok (.getstatic 18, 3) := by decide +kernel
theorem d68_68_3 : decode jdk_68_method_68_code 3 = .ok (.ifCond .eq 14, 3) := by decide +kernel
theorem d68_68_6 : decode jdk_68_method_68_code 6 = .ok (.aload_n 0, 1) := by decide +kernel
theorem d68_68_7 : decode jdk_68_method_68_code 7 = .ok (.getfield 22, 3) := by decide +kernel
theorem d68_68_10 : decode jdk_68_method_68_code 10 = .ok (.ifCond .ne 7, 3) := by decide +kernel
theorem d68_68_13 : decode jdk_68_method_68_code 13 = .ok (.iconst 1, 1) := by decide +kernel
theorem d68_68_14 : decode jdk_68_method_68_code 14 = .ok (.goto 4, 3) := by decide +kernel
theorem d68_68_18 : decode jdk_68_method_68_code 18 = .ok (.ireturn, 1) := by decide +kernel
theorem opl_rm_asbL1 : plainFor (⟨"java/lang/AbstractStringBuilder", "isLatin1", "()Z"⟩ : MethodName) = true := plainFor_of_name (by first | (simp [plainName, overriddenIn]; done) | decide +kernel)
set_option maxRecDepth 65536 in
set_option maxHeartbeats 40000000 in
theorem rm_asbL1 (l : Launch) (Z : State) (a0 : Array Value) (hw : ∀ d ∈ tables_1, d.before a0 Z = true) (ws : List Jvm.Cond) (b d : Addr) (k : ClassId) (zn : Nat) (bs : List Value) (zc : Int32) (wf : Value) (n0 : Nat) (h0 : Heap) (SS : own_SS Z zc wf) (O : Old Z n0 h0) (J : SBI Z h0 b d k (Int32.ofNat zn) bs) :
    Con l Z (⟨"java/lang/AbstractStringBuilder", "isLatin1", "()Z"⟩ : MethodName) jdk_68_method_68_code 1 (some .boolean) ws ({ frames := 0, cells := 0, slots := 0, locals := 0 } : Room) #[(.ref b)] h0 (fun v h L => v = some (.int (1 : Int32)) ∧ L = [] ∧ h = h0) := by
  refine Con.intro opl_rm_asbL1 ?_
  intro p e s m below meth c s₁ hx hby hml hown hret hlk hZ hnm X0 e0
  have SS' := SS
  obtain ⟨hzc, SC, hwf, SF⟩ := SS
  have Z0 : n0 ≤ h0.size := O.1 ▸ O.2.1
  have N0 := Fr.nil n0
  obtain ⟨JE, JF, JC, JN, JV, JX⟩ := J
  refine OGo.cast (g' := (mkF m 0 #[.val (.ref b)] [])) (by first | (simp [entryFrame, mkF, argsToLocals, Value.category]; done) | rfl) ?_
  show OGo p e below _ s₁ (mkF m 0 #[.val (.ref b)] [])
  obtain ⟨T66, X66, e66, st66⟩ := getS2 X0 hx hZ hown (host := "") (Or.inl (own_g hw 106 rfl)) Via.refl e0 (SC.ext O.2) (g := (mkF m 0 #[.val (.ref b)] [])) rfl (hb hby d68_68_0)
  refine os st66 ?_
  show OGo p e below _ T66 (mkF m 3 #[.val (.ref b)] [(.int zc)])
  refine os (fun _ k => XS.ifNo X66.here hx rfl (hb hby d68_68_3) rfl ((if0 _ _).trans (feq hzc).1) k) ?_
  show OGo p e below _ T66 (mkF m 6 #[.val (.ref b)] [])
  refine os (fun _ k => XS.aloadN X66.here hx rfl (hb hby d68_68_6) rfl rfl k) ?_
  show OGo p e below _ T66 (mkF m 7 #[.val (.ref b)] [(.ref b)])
  obtain ⟨T67, X67, e67, st67⟩ := getF X66 hx hZ hown (host := "") (Or.inl (own_g hw 109 rfl)) Via.refl e66 JC (g := (mkF m 7 #[.val (.ref b)] [(.ref b)])) rfl rfl (hb hby d68_68_7)
  refine os st67 ?_
  show OGo p e below _ T67 (mkF m 10 #[.val (.ref b)] [(.int (0 : Int32))])
  refine os (fun _ k => XS.ifNo X67.here hx rfl (hb hby d68_68_10) rfl ((if0 _ _).trans (teq (rfl : (0 : Int32) = 0)).2) k) ?_
  show OGo p e below _ T67 (mkF m 13 #[.val (.ref b)] [])
  refine os (fun _ k => XS.iconst X67.here hx rfl (hb hby d68_68_13) k) ?_
  show OGo p e below _ T67 (mkF m 14 #[.val (.ref b)] [(.int (1 : Int32))])
  refine os (fun _ k => XS.goto X67.here hx rfl (pc0 := 14) (pc' := 18) rfl (hb hby d68_68_14) (by decide) (by decide) k) ?_
  show OGo p e below _ T67 (mkF m 18 #[.val (.ref b)] [(.int (1 : Int32))])
  exact OGo.ret X67 hx (t := .boolean) hret hlk rfl (Or.inl ⟨rfl, by simp, _, rfl⟩) (hb hby d68_68_18) (by decide) (by decide) ⟨rfl, rfl, e67⟩
theorem d65_131_0 : decode jdk_65_method_131_code 0 = .ok (.iload_n 1, 1) := by decide +kernel
theorem d65_131_1 : decode jdk_65_method_131_code 1 = .ok (.iload_n 0, 1) := by decide +kernel
theorem d65_131_2 : decode jdk_65_method_131_code 2 = .ok (.if_icmp .ge 35, 3) := by decide +kernel
theorem d65_131_37 : decode jdk_65_method_131_code 37 = .ok (.return_, 1) := by decide +kernel
theorem opl_rm_chk : plainFor (⟨"java/util/Arrays", "checkLength", "(II)V"⟩ : MethodName) = true := plainFor_of_name (by first | (simp [plainName, overriddenIn]; done) | decide +kernel)
set_option maxRecDepth 65536 in
set_option maxHeartbeats 40000000 in
theorem rm_chk (l : Launch) (Z : State) (a0 : Array Value) (hw : ∀ d ∈ tables_1, d.before a0 Z = true) (ws : List Jvm.Cond) (f t : Int32) (h0 : Heap) (hft : ¬ t < f) :
    Con l Z (⟨"java/util/Arrays", "checkLength", "(II)V"⟩ : MethodName) jdk_65_method_131_code 2 none ws ({ frames := 0, cells := 0, slots := 0, locals := 0 } : Room) #[(.int f), (.int t)] h0 (fun v h L => v = none ∧ L = [] ∧ h = h0) := by
  refine Con.intro opl_rm_chk ?_
  intro p e s m below meth c s₁ hx hby hml hown hret hlk hZ hnm X0 e0
  refine OGo.cast (g' := (mkF m 0 #[.val (.int f), .val (.int t)] [])) (by first | (simp [entryFrame, mkF, argsToLocals, Value.category]; done) | rfl) ?_
  show OGo p e below _ s₁ (mkF m 0 #[.val (.int f), .val (.int t)] [])
  refine os (fun _ k => XS.iloadN X0.here hx rfl (hb hby d65_131_0) rfl k) ?_
  show OGo p e below _ s₁ (mkF m 1 #[.val (.int f), .val (.int t)] [(.int t)])
  refine os (fun _ k => XS.iloadN X0.here hx rfl (hb hby d65_131_1) rfl k) ?_
  show OGo p e below _ s₁ (mkF m 2 #[.val (.int f), .val (.int t)] [(.int f), (.int t)])
  refine os (fun _ k => XS.icmpYes X0.here hx rfl (pc0 := 2) (pc' := 37) rfl (hb hby d65_131_2) rfl (flt hft).2.1 (by decide) (by decide) k) ?_
  show OGo p e below _ s₁ (mkF m 37 #[.val (.int f), .val (.int t)] [])
  exact OGo.retV X0 hx hret hlk (hb hby d65_131_37) (by decide) (by decide) ⟨rfl, rfl, e0⟩
theorem d29_69_9 : decode jdk_29_method_69_code 9 = .ok (.iload_n 1, 1) := by decide +kernel
theorem opl_rm_min : plainFor (⟨"java/lang/Math", "min", "(II)I"⟩ : MethodName) = true := Jvm.Free.JP.mathPlain rfl (by decide +kernel)
set_option maxRecDepth 65536 in
set_option maxHeartbeats 40000000 in
theorem rm_min (l : Launch) (Z : State) (a0 : Array Value) (hw : ∀ d ∈ tables_1, d.before a0 Z = true) (ws : List Jvm.Cond) (a b : Int32) (h0 : Heap) (hba : b < a) :
    Con l Z (⟨"java/lang/Math", "min", "(II)I"⟩ : MethodName) jdk_29_method_69_code 2 (some .int) ws ({ frames := 0, cells := 0, slots := 0, locals := 0 } : Room) #[(.int a), (.int b)] h0 (fun v h L => v = some (.int b) ∧ L = [] ∧ h = h0) := by
  refine Con.intro opl_rm_min ?_
  intro p e s m below meth c s₁ hx hby hml hown hret hlk hZ hnm X0 e0
  refine OGo.cast (g' := (mkF m 0 #[.val (.int a), .val (.int b)] [])) (by first | (simp [entryFrame, mkF, argsToLocals, Value.category]; done) | rfl) ?_
  show OGo p e below _ s₁ (mkF m 0 #[.val (.int a), .val (.int b)] [])
  refine os (fun _ k => XS.iloadN X0.here hx rfl (hb hby d29_69_0) rfl k) ?_
  show OGo p e below _ s₁ (mkF m 1 #[.val (.int a), .val (.int b)] [(.int a)])
  refine os (fun _ k => XS.iloadN X0.here hx rfl (hb hby d29_69_1) rfl k) ?_
  show OGo p e below _ s₁ (mkF m 2 #[.val (.int a), .val (.int b)] [(.int b), (.int a)])
  refine os (fun _ k => XS.icmpYes X0.here hx rfl (pc0 := 2) (pc' := 9) rfl (hb hby d29_69_2) rfl (tlt hba).2.2.1 (by decide) (by decide) k) ?_
  show OGo p e below _ s₁ (mkF m 9 #[.val (.int a), .val (.int b)] [])
  refine os (fun _ k => XS.iloadN X0.here hx rfl (hb hby d29_69_9) rfl k) ?_
  show OGo p e below _ s₁ (mkF m 10 #[.val (.int a), .val (.int b)] [(.int b)])
  exact OGo.ret X0 hx (t := .int) hret hlk rfl (Or.inl ⟨rfl, by simp, _, rfl⟩) (hb hby d29_69_10) (by decide) (by decide) ⟨rfl, rfl, e0⟩
theorem d65_133_0 : decode jdk_65_method_133_code 0 = .ok (.iload_n 1, 1) := by decide +kernel
theorem d65_133_1 : decode jdk_65_method_133_code 1 = .ok (.iload_n 2, 1) := by decide +kernel
theorem d65_133_2 : decode jdk_65_method_133_code 2 = .ok (.invokestatic 343, 3) := by decide +kernel
theorem d65_133_5 : decode jdk_65_method_133_code 5 = .ok (.iload_n 2, 1) := by decide +kernel
theorem d65_133_6 : decode jdk_65_method_133_code 6 = .ok (.iload_n 1, 1) := by decide +kernel
theorem d65_133_7 : decode jdk_65_method_133_code 7 = .ok (.isub, 1) := by decide +kernel
theorem d65_133_8 : decode jdk_65_method_133_code 8 = .ok (.istore_n 3, 1) := by decide +kernel
theorem d65_133_9 : decode jdk_65_method_133_code 9 = .ok (.iload_n 3, 1) := by decide +kernel
theorem d65_133_10 : decode jdk_65_method_133_code 10 = .ok (.newarray .byte, 2) := by decide +kernel
theorem d65_133_12 : decode jdk_65_method_133_code 12 = .ok (.astore 4, 2) := by decide +kernel
theorem d65_133_14 : decode jdk_65_method_133_code 14 = .ok (.aload_n 0, 1) := by decide +kernel
theorem d65_133_15 : decode jdk_65_method_133_code 15 = .ok (.iload_n 1, 1) := by decide +kernel
theorem d65_133_16 : decode jdk_65_method_133_code 16 = .ok (.aload 4, 2) := by decide +kernel
theorem d65_133_18 : decode jdk_65_method_133_code 18 = .ok (.iconst 0, 1) := by decide +kernel
theorem d65_133_19 : decode jdk_65_method_133_code 19 = .ok (.aload_n 0, 1) := by decide +kernel
theorem d65_133_20 : decode jdk_65_method_133_code 20 = .ok (.arraylength, 1) := by decide +kernel
theorem d65_133_21 : decode jdk_65_method_133_code 21 = .ok (.iload_n 1, 1) := by decide +kernel
theorem d65_133_22 : decode jdk_65_method_133_code 22 = .ok (.isub, 1) := by decide +kernel
theorem d65_133_23 : decode jdk_65_method_133_code 23 = .ok (.iload_n 3, 1) := by decide +kernel
theorem d65_133_24 : decode jdk_65_method_133_code 24 = .ok (.invokestatic 304, 3) := by decide +kernel
theorem d65_133_27 : decode jdk_65_method_133_code 27 = .ok (.invokestatic 150, 3) := by decide +kernel
theorem d65_133_30 : decode jdk_65_method_133_code 30 = .ok (.aload 4, 2) := by decide +kernel
theorem d65_133_32 : decode jdk_65_method_133_code 32 = .ok (.areturn, 1) := by decide +kernel
theorem opl_rm_corb : plainFor (⟨"java/util/Arrays", "copyOfRangeByte", "([BII)[B"⟩ : MethodName) = true := plainFor_of_name (by first | (simp [plainName, overriddenIn]; done) | decide +kernel)
set_option maxRecDepth 65536 in
set_option maxHeartbeats 40000000 in
theorem rm_corb (l : Launch) (Z : State) (a0 : Array Value) (hw : ∀ d ∈ tables_1, d.before a0 Z = true) (ws : List Jvm.Cond) (d : Addr) (k : ClassId) (zn : Nat) (bs : List Value) (zc : Int32) (wf : Value) (n0 : Nat) (h0 : Heap) (SS : own_SS Z zc wf) (O : Old Z n0 h0) (V : Arv Z h0 d k .byte (Int32.ofNat zn) bs (.int (0 : Int32))) (hzn : zn ≤ 74) (hbz : bs.length < zn) (hbn : bs.length ≤ 36) :
    Con l Z (⟨"java/util/Arrays", "copyOfRangeByte", "([BII)[B"⟩ : MethodName) jdk_65_method_133_code 5 (some (.array .byte)) ws ({ frames := 1, cells := 1, slots := 36, locals := 29 } : Room) #[(.ref d), (.int (0 : Int32)), (.int (Int32.ofNat bs.length))] h0 (fun v h L => ∃ r k', v = some (.ref r) ∧ h0.size ≤ r ∧ Fr n0 L ∧ Keep h0 h [] ∧ Arv Z h r k' .byte (Int32.ofNat bs.length) bs (.int (0 : Int32))) := by
  refine Con.intro opl_rm_corb ?_
  intro p e s m below meth c s₁ hx hby hml hown hret hlk hZ hnm X0 e0
  obtain ⟨hzc, SC, hwf, SF⟩ := SS
  have Z0 : n0 ≤ h0.size := O.1 ▸ O.2.1
  have N0 := Fr.nil n0
  refine OGo.cast (g' := (mkF m 0 #[.val (.ref d), .val (.int (0 : Int32)), .val (.int (Int32.ofNat bs.length)), .unset, .unset] [])) (by first | (simp [entryFrame, mkF, argsToLocals, Value.category]; done) | rfl) ?_
  show OGo p e below _ s₁ (mkF m 0 #[.val (.ref d), .val (.int (0 : Int32)), .val (.int (Int32.ofNat bs.length)), .unset, .unset] [])
  have hb2 : bs.length < 2147483648 := by omega
  refine os (fun _ k => XS.iloadN X0.here hx rfl (hb hby d65_133_0) rfl k) ?_
  show OGo p e below _ s₁ (mkF m 1 #[.val (.ref d), .val (.int (0 : Int32)), .val (.int (Int32.ofNat bs.length)), .unset, .unset] [(.int (0 : Int32))])
  refine os (fun _ k => XS.iloadN X0.here hx rfl (hb hby d65_133_1) rfl k) ?_
  show OGo p e below _ s₁ (mkF m 2 #[.val (.ref d), .val (.int (0 : Int32)), .val (.int (Int32.ofNat bs.length)), .unset, .unset] [(.int (Int32.ofNat bs.length)), (.int (0 : Int32))])
  obtain ⟨v68, T68, L68, X68, hQ68, st68⟩ := scall X0 hx hZ hown (own_g hw 198 rfl) (own_g hw 199 rfl) (own_g hw 193 rfl) (own_g hw 200 rfl) (by decide) (W := 0) (rm_chk l Z a0 hw [] (0 : Int32) (Int32.ofNat bs.length) h0 (own_nn hb2)) e0 (by decide) (by decide) (by decide) (by decide) (g := (mkF m 2 #[.val (.ref d), .val (.int (0 : Int32)), .val (.int (Int32.ofNat bs.length)), .unset, .unset] [(.int (Int32.ofNat bs.length)), (.int (0 : Int32))])) rfl (by rw [hml]; rfl) (argsL := [(.int (0 : Int32)), (.int (Int32.ofNat bs.length))]) (rest := []) opd_2 rfl rfl rfl (by show 2 * 0 + _ ≤ _; exact Nat.le_of_eq rfl) (hb hby d65_133_2)
  obtain ⟨rfl, rfl, e68⟩ := hQ68
  rw [List.append_nil] at X68
  refine os st68 ?_
  show OGo p e below _ T68 (mkF m 5 #[.val (.ref d), .val (.int (0 : Int32)), .val (.int (Int32.ofNat bs.length)), .unset, .unset] [])
  refine os (fun _ k => XS.iloadN X68.here hx rfl (hb hby d65_133_5) rfl k) ?_
  show OGo p e below _ T68 (mkF m 6 #[.val (.ref d), .val (.int (0 : Int32)), .val (.int (Int32.ofNat bs.length)), .unset, .unset] [(.int (Int32.ofNat bs.length))])
  refine os (fun _ k => XS.iloadN X68.here hx rfl (hb hby d65_133_6) rfl k) ?_
  show OGo p e below _ T68 (mkF m 7 #[.val (.ref d), .val (.int (0 : Int32)), .val (.int (Int32.ofNat bs.length)), .unset, .unset] [(.int (0 : Int32)), (.int (Int32.ofNat bs.length))])
  refine os (fun _ k => XS.isub X68.here hx rfl (hb hby d65_133_7) rfl k) ?_
  show OGo p e below _ T68 (mkF m 8 #[.val (.ref d), .val (.int (0 : Int32)), .val (.int (Int32.ofNat bs.length)), .unset, .unset] [(.int ((Int32.ofNat bs.length) - (0 : Int32)))])
  rw [own_sub0]
  show OGo p e below _ T68 (mkF m 8 #[.val (.ref d), .val (.int (0 : Int32)), .val (.int (Int32.ofNat bs.length)), .unset, .unset] [(.int (Int32.ofNat bs.length))])
  refine os (fun _ k => XS.istoreN X68.here hx rfl (hb hby d65_133_8) rfl (l' := #[.val (.ref d), .val (.int (0 : Int32)), .val (.int (Int32.ofNat bs.length)), .val (.int (Int32.ofNat bs.length)), .unset]) rfl k) ?_
  show OGo p e below _ T68 (mkF m 9 #[.val (.ref d), .val (.int (0 : Int32)), .val (.int (Int32.ofNat bs.length)), .val (.int (Int32.ofNat bs.length)), .unset] [])
  refine os (fun _ k => XS.iloadN X68.here hx rfl (hb hby d65_133_9) rfl k) ?_
  show OGo p e below _ T68 (mkF m 10 #[.val (.ref d), .val (.int (0 : Int32)), .val (.int (Int32.ofNat bs.length)), .val (.int (Int32.ofNat bs.length)), .unset] [(.int (Int32.ofNat bs.length))])
  obtain ⟨T69, h69, k69, X69, e69, E69, A69, AE69, st69⟩ := newPE X68 hx hZ (own_g hw 19 rfl) e68 (g := (mkF m 10 #[.val (.ref d), .val (.int (0 : Int32)), .val (.int (Int32.ofNat bs.length)), .val (.int (Int32.ofNat bs.length)), .unset] [(.int (Int32.ofNat bs.length))])) rfl (hb hby d65_133_10) rfl (own_nn hb2) (cap := 36) (by rw [own_cl hb2]; exact hbn) (by decide) (by decide) (by decide) (ad := "[B") (by decide)
  obtain ⟨b69, g69⟩ : ∃ z, z = h0.size := ⟨_, rfl⟩
  rw [← g69] at A69 AE69 st69
  have sz_b69 : h0.size ≤ b69 := Nat.le_trans (Keep.refl h0 []).1 (Nat.le_of_eq g69.symm)
  have KK69 : Keep h0 h69 [] := (Keep.refl h0 []).ext E69
  have V69 : Arv Z h69 b69 k69 .byte (Int32.ofNat bs.length) [] (.int (0 : Int32)) := Arv.new A69 (own_nn hb2)
  refine os st69 ?_
  show OGo p e below _ T69 (mkF m 12 #[.val (.ref d), .val (.int (0 : Int32)), .val (.int (Int32.ofNat bs.length)), .val (.int (Int32.ofNat bs.length)), .unset] [(.ref b69)])
  refine os (fun _ k => XS.astore X69.here hx rfl (hb hby d65_133_12) rfl rfl (l' := #[.val (.ref d), .val (.int (0 : Int32)), .val (.int (Int32.ofNat bs.length)), .val (.int (Int32.ofNat bs.length)), .val (.ref b69)]) rfl k) ?_
  show OGo p e below _ T69 (mkF m 14 #[.val (.ref d), .val (.int (0 : Int32)), .val (.int (Int32.ofNat bs.length)), .val (.int (Int32.ofNat bs.length)), .val (.ref b69)] [])
  refine os (fun _ k => XS.aloadN X69.here hx rfl (hb hby d65_133_14) rfl rfl k) ?_
  show OGo p e below _ T69 (mkF m 15 #[.val (.ref d), .val (.int (0 : Int32)), .val (.int (Int32.ofNat bs.length)), .val (.int (Int32.ofNat bs.length)), .val (.ref b69)] [(.ref d)])
  refine os (fun _ k => XS.iloadN X69.here hx rfl (hb hby d65_133_15) rfl k) ?_
  show OGo p e below _ T69 (mkF m 16 #[.val (.ref d), .val (.int (0 : Int32)), .val (.int (Int32.ofNat bs.length)), .val (.int (Int32.ofNat bs.length)), .val (.ref b69)] [(.int (0 : Int32)), (.ref d)])
  refine os (fun _ k => XS.aload X69.here hx rfl (hb hby d65_133_16) rfl rfl k) ?_
  show OGo p e below _ T69 (mkF m 18 #[.val (.ref d), .val (.int (0 : Int32)), .val (.int (Int32.ofNat bs.length)), .val (.int (Int32.ofNat bs.length)), .val (.ref b69)] [(.ref b69), (.int (0 : Int32)), (.ref d)])
  refine os (fun _ k => XS.iconst X69.here hx rfl (hb hby d65_133_18) k) ?_
  show OGo p e below _ T69 (mkF m 19 #[.val (.ref d), .val (.int (0 : Int32)), .val (.int (Int32.ofNat bs.length)), .val (.int (Int32.ofNat bs.length)), .val (.ref b69)] [(.int (0 : Int32)), (.ref b69), (.int (0 : Int32)), (.ref d)])
  refine os (fun _ k => XS.aloadN X69.here hx rfl (hb hby d65_133_19) rfl rfl k) ?_
  show OGo p e below _ T69 (mkF m 20 #[.val (.ref d), .val (.int (0 : Int32)), .val (.int (Int32.ofNat bs.length)), .val (.int (Int32.ofNat bs.length)), .val (.ref b69)] [(.ref d), (.int (0 : Int32)), (.ref b69), (.int (0 : Int32)), (.ref d)])
  refine os (fun _ k => alenV X69 hx hZ e69 (V.ext E69) (g := (mkF m 20 #[.val (.ref d), .val (.int (0 : Int32)), .val (.int (Int32.ofNat bs.length)), .val (.int (Int32.ofNat bs.length)), .val (.ref b69)] [(.ref d), (.int (0 : Int32)), (.ref b69), (.int (0 : Int32)), (.ref d)])) rfl rfl (hb hby d65_133_20) _ k) ?_
  show OGo p e below _ T69 (mkF m 21 #[.val (.ref d), .val (.int (0 : Int32)), .val (.int (Int32.ofNat bs.length)), .val (.int (Int32.ofNat bs.length)), .val (.ref b69)] [(.int (Int32.ofNat zn)), (.int (0 : Int32)), (.ref b69), (.int (0 : Int32)), (.ref d)])
  refine os (fun _ k => XS.iloadN X69.here hx rfl (hb hby d65_133_21) rfl k) ?_
  show OGo p e below _ T69 (mkF m 22 #[.val (.ref d), .val (.int (0 : Int32)), .val (.int (Int32.ofNat bs.length)), .val (.int (Int32.ofNat bs.length)), .val (.ref b69)] [(.int (0 : Int32)), (.int (Int32.ofNat zn)), (.int (0 : Int32)), (.ref b69), (.int (0 : Int32)), (.ref d)])
  refine os (fun _ k => XS.isub X69.here hx rfl (hb hby d65_133_22) rfl k) ?_
  show OGo p e below _ T69 (mkF m 23 #[.val (.ref d), .val (.int (0 : Int32)), .val (.int (Int32.ofNat bs.length)), .val (.int (Int32.ofNat bs.length)), .val (.ref b69)] [(.int ((Int32.ofNat zn) - (0 : Int32))), (.int (0 : Int32)), (.ref b69), (.int (0 : Int32)), (.ref d)])
  rw [own_sub0]
  show OGo p e below _ T69 (mkF m 23 #[.val (.ref d), .val (.int (0 : Int32)), .val (.int (Int32.ofNat bs.length)), .val (.int (Int32.ofNat bs.length)), .val (.ref b69)] [(.int (Int32.ofNat zn)), (.int (0 : Int32)), (.ref b69), (.int (0 : Int32)), (.ref d)])
  refine os (fun _ k => XS.iloadN X69.here hx rfl (hb hby d65_133_23) rfl k) ?_
  show OGo p e below _ T69 (mkF m 24 #[.val (.ref d), .val (.int (0 : Int32)), .val (.int (Int32.ofNat bs.length)), .val (.int (Int32.ofNat bs.length)), .val (.ref b69)] [(.int (Int32.ofNat bs.length)), (.int (Int32.ofNat zn)), (.int (0 : Int32)), (.ref b69), (.int (0 : Int32)), (.ref d)])
  obtain ⟨v70, T70, L70, X70, hQ70, st70⟩ := scall X69 hx hZ hown (own_g hw 201 rfl) (own_g hw 202 rfl) (own_g hw 203 rfl) (own_g hw 204 rfl) (by decide) (W := 4) (rm_min l Z a0 hw [] (Int32.ofNat zn) (Int32.ofNat bs.length) h69 ((own_lt hb2 (by omega)).mpr hbz)) e69 (by decide) (by decide) (by decide) (by decide) (g := (mkF m 24 #[.val (.ref d), .val (.int (0 : Int32)), .val (.int (Int32.ofNat bs.length)), .val (.int (Int32.ofNat bs.length)), .val (.ref b69)] [(.int (Int32.ofNat bs.length)), (.int (Int32.ofNat zn)), (.int (0 : Int32)), (.ref b69), (.int (0 : Int32)), (.ref d)])) rfl (by rw [hml]; rfl) (argsL := [(.int (Int32.ofNat zn)), (.int (Int32.ofNat bs.length))]) (rest := [(.int (0 : Int32)), (.ref b69), (.int (0 : Int32)), (.ref d)]) opd_5 rfl rfl rfl (by show 2 * 0 + _ ≤ _; exact Nat.le_of_eq rfl) (hb hby d65_133_24)
  obtain ⟨rfl, rfl, e70⟩ := hQ70
  rw [List.append_nil] at X70
  refine os st70 ?_
  show OGo p e below _ T70 (mkF m 27 #[.val (.ref d), .val (.int (0 : Int32)), .val (.int (Int32.ofNat bs.length)), .val (.int (Int32.ofNat bs.length)), .val (.ref b69)] [(.int (Int32.ofNat bs.length)), (.int (0 : Int32)), (.ref b69), (.int (0 : Int32)), (.ref d)])
  obtain ⟨T71, h71, L71, X71, e71, N71, K71, V71, st71⟩ := own_cp X70 hx hZ hown (own_g hw 205 rfl) (own_g hw 157 rfl) (own_g hw 155 rfl) (own_g hw 156 rfl) e70 (V.ext E69) V69 (by rw [own_cl (by omega)]; omega) (by rw [own_cl hb2]; exact Nat.le_of_eq (Nat.zero_add _)) hb2 (by decide) N0 (Nat.le_trans Z0 sz_b69) (g := (mkF m 27 #[.val (.ref d), .val (.int (0 : Int32)), .val (.int (Int32.ofNat bs.length)), .val (.int (Int32.ofNat bs.length)), .val (.ref b69)] [(.int (Int32.ofNat bs.length)), (.int (0 : Int32)), (.ref b69), (.int (0 : Int32)), (.ref d)])) rfl (by rw [hml]; rfl) (rest := []) rfl (hb hby d65_133_27) (by decide) (W := 0) (by show 2 * 0 + _ ≤ _; exact Nat.le_of_eq rfl) (by decide)
  have KK71 : Keep h0 h71 [] := KK69.trans K71 (allS (Or.inr sz_b69) all0)
  refine os st71 ?_
  show OGo p e below _ T71 (mkF m 30 #[.val (.ref d), .val (.int (0 : Int32)), .val (.int (Int32.ofNat bs.length)), .val (.int (Int32.ofNat bs.length)), .val (.ref b69)] [])
  refine os (fun _ k => XS.aload X71.here hx rfl (hb hby d65_133_30) rfl rfl k) ?_
  show OGo p e below _ T71 (mkF m 32 #[.val (.ref d), .val (.int (0 : Int32)), .val (.int (Int32.ofNat bs.length)), .val (.int (Int32.ofNat bs.length)), .val (.ref b69)] [(.ref b69)])
  exact OGo.ret X71 hx (t := (.array .byte)) hret hlk rfl (Or.inr (Or.inr (Or.inr (Or.inr ⟨rfl, rfl, rfl⟩)))) (hb hby d65_133_32) (by decide) (by decide) (by rw [e71]; exact ⟨b69, _, rfl, sz_b69, N71, KK71, V71⟩)
theorem d65_132_0 : decode jdk_65_method_132_code 0 = .ok (.iload_n 1, 1) := by decide +kernel
theorem d65_132_1 : decode jdk_65_method_132_code 1 = .ok (.ifCond .ne 9, 3) := by decide +kernel
theorem d65_132_4 : decode jdk_65_method_132_code 4 = .ok (.iload_n 2, 1) := by decide +kernel
theorem d65_132_5 : decode jdk_65_method_132_code 5 = .ok (.aload_n 0, 1) := by decide +kernel
theorem d65_132_6 : decode jdk_65_method_132_code 6 = .ok (.arraylength, 1) := by decide +kernel
theorem d65_132_7 : decode jdk_65_method_132_code 7 = .ok (.if_icmp .eq 10, 3) := by decide +kernel
theorem d65_132_17 : decode jdk_65_method_132_code 17 = .ok (.aload_n 0, 1) := by decide +kernel
theorem d65_132_18 : decode jdk_65_method_132_code 18 = .ok (.invokevirtual 310, 3) := by decide +kernel
theorem d65_132_21 : decode jdk_65_method_132_code 21 = .ok (.checkcast 311, 3) := by decide +kernel
theorem d65_132_24 : decode jdk_65_method_132_code 24 = .ok (.areturn, 1) := by decide +kernel
theorem d65_132_10 : decode jdk_65_method_132_code 10 = .ok (.aload_n 0, 1) := by decide +kernel
theorem d65_132_11 : decode jdk_65_method_132_code 11 = .ok (.iload_n 1, 1) := by decide +kernel
theorem d65_132_12 : decode jdk_65_method_132_code 12 = .ok (.iload_n 2, 1) := by decide +kernel
theorem opd_15 : parseMethodDescriptor "([BII)[B" = some ⟨[(.array .byte), .int, .int], some (.array .byte)⟩ := by decide +kernel
theorem d65_132_13 : decode jdk_65_method_132_code 13 = .ok (.invokestatic 339, 3) := by decide +kernel
theorem d65_132_16 : decode jdk_65_method_132_code 16 = .ok (.areturn, 1) := by decide +kernel
theorem opl_rm_cor : plainFor (⟨"java/util/Arrays", "copyOfRange", "([BII)[B"⟩ : MethodName) = true := plainFor_of_name (by first | (simp [plainName, overriddenIn]; done) | decide +kernel)
set_option maxRecDepth 65536 in
set_option maxHeartbeats 40000000 in
theorem rm_cor (l : Launch) (Z : State) (a0 : Array Value) (hw : ∀ d ∈ tables_1, d.before a0 Z = true) (ws : List Jvm.Cond) (d : Addr) (k : ClassId) (zn : Nat) (bs : List Value) (zc : Int32) (wf : Value) (n0 : Nat) (h0 : Heap) (SS : own_SS Z zc wf) (O : Old Z n0 h0) (V : Arv Z h0 d k .byte (Int32.ofNat zn) bs (.int (0 : Int32))) (hzn : zn ≤ 74) (hbz : bs.length ≤ zn) (hbn : bs.length ≤ 36) (VX : Exa Z h0 d "[B") :
    Con l Z (⟨"java/util/Arrays", "copyOfRange", "([BII)[B"⟩ : MethodName) jdk_65_method_132_code 3 (some (.array .byte)) ws ({ frames := 2, cells := 1, slots := 36, locals := 45 } : Room) #[(.ref d), (.int (0 : Int32)), (.int (Int32.ofNat bs.length))] h0 (fun v h L => ∃ r k', v = some (.ref r) ∧ h0.size ≤ r ∧ Fr n0 L ∧ Keep h0 h [] ∧ Arv Z h r k' .byte (Int32.ofNat bs.length) bs (.int (0 : Int32))) := by
  refine Con.intro opl_rm_cor ?_
  intro p e s m below meth c s₁ hx hby hml hown hret hlk hZ hnm X0 e0
  have SS' := SS
  obtain ⟨hzc, SC, hwf, SF⟩ := SS
  have Z0 : n0 ≤ h0.size := O.1 ▸ O.2.1
  have N0 := Fr.nil n0
  refine OGo.cast (g' := (mkF m 0 #[.val (.ref d), .val (.int (0 : Int32)), .val (.int (Int32.ofNat bs.length))] [])) (by first | (simp [entryFrame, mkF, argsToLocals, Value.category]; done) | rfl) ?_
  show OGo p e below _ s₁ (mkF m 0 #[.val (.ref d), .val (.int (0 : Int32)), .val (.int (Int32.ofNat bs.length))] [])
  refine os (fun _ k => XS.iloadN X0.here hx rfl (hb hby d65_132_0) rfl k) ?_
  show OGo p e below _ s₁ (mkF m 1 #[.val (.ref d), .val (.int (0 : Int32)), .val (.int (Int32.ofNat bs.length))] [(.int (0 : Int32))])
  refine os (fun _ k => XS.ifNo X0.here hx rfl (hb hby d65_132_1) rfl ((if0 _ _).trans (teq (rfl : (0 : Int32) = 0)).2) k) ?_
  show OGo p e below _ s₁ (mkF m 4 #[.val (.ref d), .val (.int (0 : Int32)), .val (.int (Int32.ofNat bs.length))] [])
  refine os (fun _ k => XS.iloadN X0.here hx rfl (hb hby d65_132_4) rfl k) ?_
  show OGo p e below _ s₁ (mkF m 5 #[.val (.ref d), .val (.int (0 : Int32)), .val (.int (Int32.ofNat bs.length))] [(.int (Int32.ofNat bs.length))])
  refine os (fun _ k => XS.aloadN X0.here hx rfl (hb hby d65_132_5) rfl rfl k) ?_
  show OGo p e below _ s₁ (mkF m 6 #[.val (.ref d), .val (.int (0 : Int32)), .val (.int (Int32.ofNat bs.length))] [(.ref d), (.int (Int32.ofNat bs.length))])
  refine os (fun _ k => alenV X0 hx hZ e0 V (g := (mkF m 6 #[.val (.ref d), .val (.int (0 : Int32)), .val (.int (Int32.ofNat bs.length))] [(.ref d), (.int (Int32.ofNat bs.length))])) rfl rfl (hb hby d65_132_6) _ k) ?_
  show OGo p e below _ s₁ (mkF m 7 #[.val (.ref d), .val (.int (0 : Int32)), .val (.int (Int32.ofNat bs.length))] [(.int (Int32.ofNat zn)), (.int (Int32.ofNat bs.length))])
  by_cases q : bs.length = zn
  · refine os (fun _ k => XS.icmpYes X0.here hx rfl (pc0 := 7) (pc' := 17) rfl (hb hby d65_132_7) rfl (teq (congrArg Int32.ofNat q)).1 (by decide) (by decide) k) ?_
    show OGo p e below _ s₁ (mkF m 17 #[.val (.ref d), .val (.int (0 : Int32)), .val (.int (Int32.ofNat bs.length))] [])
    refine os (fun _ k => XS.aloadN X0.here hx rfl (hb hby d65_132_17) rfl rfl k) ?_
    show OGo p e below _ s₁ (mkF m 18 #[.val (.ref d), .val (.int (0 : Int32)), .val (.int (Int32.ofNat bs.length))] [(.ref d)])
    obtain ⟨T72, h72, X72, e72, E72, V72, AE72, st72⟩ := cloneH X0 hx hZ hown (own_g hw 288 rfl) (own_g hw 289 rfl) (own_g hw 293 rfl) (own_g hw 291 rfl) (own_g hw 292 rfl) (own_g hw 294 rfl) e0 V.arh VX (g := (mkF m 18 #[.val (.ref d), .val (.int (0 : Int32)), .val (.int (Int32.ofNat bs.length))] [(.ref d)])) rfl (by rw [hml]; rfl) (rest := []) rfl (hb hby d65_132_18) (by decide) (W := 0) (cap := 36) (by show 2 * 0 + _ ≤ _; exact Nat.le_of_eq rfl) (by decide) (by rw [own_cl (by omega)]; omega) (by decide) (by decide)
    obtain ⟨b72, g72⟩ : ∃ z, z = h0.size := ⟨_, rfl⟩
    rw [← g72] at V72 AE72 st72
    have sz_b72 : h0.size ≤ b72 := Nat.le_trans (Keep.refl h0 []).1 (Nat.le_of_eq g72.symm)
    have KK72 : Keep h0 h72 [] := (Keep.refl h0 []).ext E72
    have VV72 : Arv Z h72 b72 k .byte (Int32.ofNat zn) bs (.int (0 : Int32)) := V72
    refine os st72 ?_
    show OGo p e below _ T72 (mkF m 21 #[.val (.ref d), .val (.int (0 : Int32)), .val (.int (Int32.ofNat bs.length))] [(.ref b72)])
    obtain ⟨T73, X73, e73, st73⟩ := castY X72 hx hZ hown (own_g hw 295 rfl) e72 (Ins.of_exa AE72 (own_g hw 296 rfl)) (g := (mkF m 21 #[.val (.ref d), .val (.int (0 : Int32)), .val (.int (Int32.ofNat bs.length))] [(.ref b72)])) rfl rfl (hb hby d65_132_21)
    refine os st73 ?_
    show OGo p e below _ T73 (mkF m 24 #[.val (.ref d), .val (.int (0 : Int32)), .val (.int (Int32.ofNat bs.length))] [(.ref b72)])
    have Vf : Arv Z h72 b72 k .byte (Int32.ofNat bs.length) bs (.int (0 : Int32)) := by rw [q]; exact VV72
    exact OGo.ret X73 hx (t := (.array .byte)) hret hlk rfl (Or.inr (Or.inr (Or.inr (Or.inr ⟨rfl, rfl, rfl⟩)))) (hb hby d65_132_24) (by decide) (by decide) (by rw [e73]; exact ⟨b72, _, rfl, sz_b72, N0, KK72, Vf⟩)
  refine os (fun _ k => XS.icmpNo X0.here hx rfl (hb hby d65_132_7) rfl (feq (fun p => by have e1 := congrArg Int32.toInt p; rw [own_toInt (by omega), own_toInt (by omega)] at e1; omega)).1 k) ?_
  show OGo p e below _ s₁ (mkF m 10 #[.val (.ref d), .val (.int (0 : Int32)), .val (.int (Int32.ofNat bs.length))] [])
  refine os (fun _ k => XS.aloadN X0.here hx rfl (hb hby d65_132_10) rfl rfl k) ?_
  show OGo p e below _ s₁ (mkF m 11 #[.val (.ref d), .val (.int (0 : Int32)), .val (.int (Int32.ofNat bs.length))] [(.ref d)])
  refine os (fun _ k => XS.iloadN X0.here hx rfl (hb hby d65_132_11) rfl k) ?_
  show OGo p e below _ s₁ (mkF m 12 #[.val (.ref d), .val (.int (0 : Int32)), .val (.int (Int32.ofNat bs.length))] [(.int (0 : Int32)), (.ref d)])
  refine os (fun _ k => XS.iloadN X0.here hx rfl (hb hby d65_132_12) rfl k) ?_
  show OGo p e below _ s₁ (mkF m 13 #[.val (.ref d), .val (.int (0 : Int32)), .val (.int (Int32.ofNat bs.length))] [(.int (Int32.ofNat bs.length)), (.int (0 : Int32)), (.ref d)])
  obtain ⟨v74, T74, L74, X74, hQ74, st74⟩ := scall X0 hx hZ hown (own_g hw 195 rfl) (own_g hw 196 rfl) (own_g hw 193 rfl) (own_g hw 197 rfl) (by decide) (W := 0) (rm_corb l Z a0 hw [] d k zn bs zc wf n0 h0 SS' O V hzn (by omega) hbn) e0 (by decide) (by decide) (by decide) (by decide) (g := (mkF m 13 #[.val (.ref d), .val (.int (0 : Int32)), .val (.int (Int32.ofNat bs.length))] [(.int (Int32.ofNat bs.length)), (.int (0 : Int32)), (.ref d)])) rfl (by rw [hml]; rfl) (argsL := [(.ref d), (.int (0 : Int32)), (.int (Int32.ofNat bs.length))]) (rest := []) opd_15 rfl rfl rfl (by show 2 * 0 + _ ≤ _; exact Nat.le_of_eq rfl) (hb hby d65_132_13)
  obtain ⟨r74, kr74, rfl, sr74, N74, K74, V74⟩ := hQ74
  have NN74 := Fr.app N0 N74
  have KK74 : Keep h0 T74.heap [] := (Keep.refl h0 []).trans K74 all0
  refine os st74 ?_
  show OGo p e below _ T74 (mkF m 16 #[.val (.ref d), .val (.int (0 : Int32)), .val (.int (Int32.ofNat bs.length))] [(.ref r74)])
  exact OGo.ret X74 hx (t := (.array .byte)) hret hlk rfl (Or.inr (Or.inr (Or.inr (Or.inr ⟨rfl, rfl, rfl⟩)))) (hb hby d65_132_16) (by decide) (by decide) ⟨r74, _, rfl, sr74, NN74, KK74, V74⟩
theorem d42_150_0 : decode jdk_42_method_150_code 0 = .ok (.aload_n 0, 1) := by decide +kernel
theorem d42_150_1 : decode jdk_42_method_150_code 1 = .ok (.invokespecial 1, 3) := by decide +kernel
theorem d42_150_4 : decode jdk_42_method_150_code 4 = .ok (.aload_n 1, 1) := by decide +kernel
theorem opd_16 : parseMethodDescriptor "()[B" = some ⟨[], some (.array .byte)⟩ := by decide +kernel
theorem d42_150_5 : decode jdk_42_method_150_code 5 = .ok (.invokevirtual 552, 3) := by decide +kernel
theorem d42_150_8 : decode jdk_42_method_150_code 8 = .ok (.astore_n 3, 1) := by decide +kernel
theorem d42_150_9 : decode jdk_42_method_150_code 9 = .ok (.aload_n 1, 1) := by decide +kernel
theorem d42_150_10 : decode jdk_42_method_150_code 10 = .ok (.invokevirtual 549, 3) := by decide +kernel
theorem d42_150_13 : decode jdk_42_method_150_code 13 = .ok (.istore 4, 2) := by decide +kernel
theorem d42_150_15 : decode jdk_42_method_150_code 15 = .ok (.aload_n 1, 1) := by decide +kernel
theorem d42_150_16 : decode jdk_42_method_150_code 16 = .ok (.invokevirtual 1047, 3) := by decide +kernel
theorem d42_150_19 : decode jdk_42_method_150_code 19 = .ok (.ifCond .eq 22, 3) := by decide +kernel
theorem d42_150_22 : decode jdk_42_method_150_code 22 = .ok (.aload_n 0, 1) := by decide +kernel
theorem d42_150_23 : decode jdk_42_method_150_code 23 = .ok (.iconst 0, 1) := by decide +kernel
theorem d42_150_24 : decode jdk_42_method_150_code 24 = .ok (.putfield 15, 3) := by decide +kernel
theorem d42_150_27 : decode jdk_42_method_150_code 27 = .ok (.aload_n 0, 1) := by decide +kernel
theorem d42_150_28 : decode jdk_42_method_150_code 28 = .ok (.aload_n 3, 1) := by decide +kernel
theorem d42_150_29 : decode jdk_42_method_150_code 29 = .ok (.iconst 0, 1) := by decide +kernel
theorem d42_150_30 : decode jdk_42_method_150_code 30 = .ok (.iload 4, 2) := by decide +kernel
theorem d42_150_32 : decode jdk_42_method_150_code 32 = .ok (.invokestatic 54, 3) := by decide +kernel
theorem d42_150_35 : decode jdk_42_method_150_code 35 = .ok (.putfield 9, 3) := by decide +kernel
theorem d42_150_38 : decode jdk_42_method_150_code 38 = .ok (.goto 59, 3) := by decide +kernel
theorem d42_150_97 : decode jdk_42_method_150_code 97 = .ok (.return_, 1) := by decide +kernel
theorem opl_rm_sia : plainFor (⟨"java/lang/String", "<init>", "(Ljava/lang/AbstractStringBuilder;Ljava/lang/Void;)V"⟩ : MethodName) = true := plainFor_of_name (by first | (simp [plainName, overriddenIn]; done) | decide +kernel)
set_option maxRecDepth 65536 in
set_option maxHeartbeats 40000000 in
theorem rm_sia (l : Launch) (Z : State) (a0 : Array Value) (hw : ∀ d ∈ tables_1, d.before a0 Z = true) (ws : List Jvm.Cond) (a : Addr) (b d : Addr) (k : ClassId) (zn : Nat) (bs : List Value) (zc : Int32) (wf : Value) (n0 : Nat) (h0 : Heap) (SS : own_SS Z zc wf) (O : Old Z n0 h0) (J : SBI Z h0 b d k (Int32.ofNat zn) bs) (hzn : zn ≤ 74) (hbz : bs.length ≤ zn) (hbn : bs.length ≤ 36) (E : Exa Z h0 a "java/lang/String") (Fc : Fld Z h0 a "java/lang/String" "coder" "B" (.int (0 : Int32))) (Fv : Fld Z h0 a "java/lang/String" "value" "[B" .null) (g_a : n0 ≤ a) (nba : b ≠ a) (nda : d ≠ a) :
    Con l Z (⟨"java/lang/String", "<init>", "(Ljava/lang/AbstractStringBuilder;Ljava/lang/Void;)V"⟩ : MethodName) jdk_42_method_150_code 5 none ws ({ frames := 3, cells := 1, slots := 36, locals := 60 } : Room) #[(.ref a), (.ref b), .null] h0 (fun v h L => v = none ∧ Fr n0 L ∧ Keep h0 h [a] ∧ ∃ r k', h0.size ≤ r ∧ STI Z h a r k' bs) := by
  refine Con.intro opl_rm_sia ?_
  intro p e s m below meth c s₁ hx hby hml hown hret hlk hZ hnm X0 e0
  have SS' := SS
  obtain ⟨hzc, SC, hwf, SF⟩ := SS
  have Z0 : n0 ≤ h0.size := O.1 ▸ O.2.1
  have N0 := Fr.nil n0
  obtain ⟨JE, JF, JC, JN, JV, JX⟩ := J
  refine OGo.cast (g' := (mkF m 0 #[.val (.ref a), .val (.ref b), .val .null, .unset, .unset] [])) (by first | (simp [entryFrame, mkF, argsToLocals, Value.category]; done) | rfl) ?_
  show OGo p e below _ s₁ (mkF m 0 #[.val (.ref a), .val (.ref b), .val .null, .unset, .unset] [])
  refine os (fun _ k => XS.aloadN X0.here hx rfl (hb hby d42_150_0) rfl rfl k) ?_
  show OGo p e below _ s₁ (mkF m 1 #[.val (.ref a), .val (.ref b), .val .null, .unset, .unset] [(.ref a)])
  obtain ⟨T75, X75, e75, st75⟩ := initO X0 hx hZ hown (own_g hw 11 rfl) (own_g hw 12 rfl) (own_g hw 13 rfl) e0 (g := (mkF m 1 #[.val (.ref a), .val (.ref b), .val .null, .unset, .unset] [(.ref a)])) rfl (by rw [hml]; rfl) rfl (hb hby d42_150_1) (by decide) (W := 0) (by show 2 * 0 + _ ≤ _; exact Nat.le_of_eq rfl) (by decide)
  refine os st75 ?_
  show OGo p e below _ T75 (mkF m 4 #[.val (.ref a), .val (.ref b), .val .null, .unset, .unset] [])
  refine os (fun _ k => XS.aloadN X75.here hx rfl (hb hby d42_150_4) rfl rfl k) ?_
  show OGo p e below _ T75 (mkF m 5 #[.val (.ref a), .val (.ref b), .val .null, .unset, .unset] [(.ref b)])
  obtain ⟨v76, T76, L76, X76, hQ76, st76⟩ := vcall X75 hx hZ hown (own_g hw 173 rfl) (own_g hw 174 rfl) (own_g hw 176 rfl) rfl (own_g hw 176 rfl) (own_g hw 175 rfl) (own_g hw 103 rfl) (own_g hw 177 rfl) (by decide) (W := 0) (rm_getV l Z a0 hw [] b d k zn bs zc wf n0 h0 SS' O ⟨JE, JF, JC, JN, JV, JX⟩) e75 (by decide) (by decide) (by decide) (by decide) (g := (mkF m 5 #[.val (.ref a), .val (.ref b), .val .null, .unset, .unset] [(.ref b)])) rfl (by rw [hml]; rfl) JE (argsL := []) (rest := []) opd_16 rfl rfl rfl (by show 2 * 0 + _ ≤ _; exact Nat.le_of_eq rfl) (hb hby d42_150_5)
  obtain ⟨rfl, rfl, e76⟩ := hQ76
  rw [List.append_nil] at X76
  refine os st76 ?_
  show OGo p e below _ T76 (mkF m 8 #[.val (.ref a), .val (.ref b), .val .null, .unset, .unset] [(.ref d)])
  refine os (fun _ k => XS.astoreN X76.here hx rfl (hb hby d42_150_8) rfl rfl (l' := #[.val (.ref a), .val (.ref b), .val .null, .val (.ref d), .unset]) rfl k) ?_
  show OGo p e below _ T76 (mkF m 9 #[.val (.ref a), .val (.ref b), .val .null, .val (.ref d), .unset] [])
  refine os (fun _ k => XS.aloadN X76.here hx rfl (hb hby d42_150_9) rfl rfl k) ?_
  show OGo p e below _ T76 (mkF m 10 #[.val (.ref a), .val (.ref b), .val .null, .val (.ref d), .unset] [(.ref b)])
  obtain ⟨v77, T77, L77, X77, hQ77, st77⟩ := vcall X76 hx hZ hown (own_g hw 178 rfl) (own_g hw 179 rfl) (own_g hw 136 rfl) rfl (own_g hw 181 rfl) (own_g hw 182 rfl) (own_g hw 95 rfl) (own_g hw 183 rfl) (by decide) (W := 0) (rm_sbLen l Z a0 hw [] b d k zn bs zc wf n0 h0 SS' O ⟨JE, JF, JC, JN, JV, JX⟩) e76 (by decide) (by decide) (by decide) (by decide) (g := (mkF m 10 #[.val (.ref a), .val (.ref b), .val .null, .val (.ref d), .unset] [(.ref b)])) rfl (by rw [hml]; rfl) JE (argsL := []) (rest := []) opd_11 rfl rfl rfl (by show 2 * 0 + _ ≤ _; exact Nat.le_of_eq rfl) (hb hby d42_150_10)
  obtain ⟨rfl, rfl, e77⟩ := hQ77
  rw [List.append_nil] at X77
  refine os st77 ?_
  show OGo p e below _ T77 (mkF m 13 #[.val (.ref a), .val (.ref b), .val .null, .val (.ref d), .unset] [(.int (Int32.ofNat bs.length))])
  refine os (fun _ k => XS.istore X77.here hx rfl (hb hby d42_150_13) rfl (l' := #[.val (.ref a), .val (.ref b), .val .null, .val (.ref d), .val (.int (Int32.ofNat bs.length))]) rfl k) ?_
  show OGo p e below _ T77 (mkF m 15 #[.val (.ref a), .val (.ref b), .val .null, .val (.ref d), .val (.int (Int32.ofNat bs.length))] [])
  refine os (fun _ k => XS.aloadN X77.here hx rfl (hb hby d42_150_15) rfl rfl k) ?_
  show OGo p e below _ T77 (mkF m 16 #[.val (.ref a), .val (.ref b), .val .null, .val (.ref d), .val (.int (Int32.ofNat bs.length))] [(.ref b)])
  obtain ⟨v78, T78, L78, X78, hQ78, st78⟩ := vcall X77 hx hZ hown (own_g hw 186 rfl) (own_g hw 187 rfl) (own_g hw 189 rfl) rfl (own_g hw 189 rfl) (own_g hw 188 rfl) (own_g hw 103 rfl) (own_g hw 190 rfl) (by decide) (W := 0) (rm_asbL1 l Z a0 hw [] b d k zn bs zc wf n0 h0 SS' O ⟨JE, JF, JC, JN, JV, JX⟩) e77 (by decide) (by decide) (by decide) (by decide) (g := (mkF m 16 #[.val (.ref a), .val (.ref b), .val .null, .val (.ref d), .val (.int (Int32.ofNat bs.length))] [(.ref b)])) rfl (by rw [hml]; rfl) JE (argsL := []) (rest := []) opd_3 rfl rfl rfl (by show 2 * 0 + _ ≤ _; exact Nat.le_of_eq rfl) (hb hby d42_150_16)
  obtain ⟨rfl, rfl, e78⟩ := hQ78
  rw [List.append_nil] at X78
  refine os st78 ?_
  show OGo p e below _ T78 (mkF m 19 #[.val (.ref a), .val (.ref b), .val .null, .val (.ref d), .val (.int (Int32.ofNat bs.length))] [(.int (1 : Int32))])
  refine os (fun _ k => XS.ifNo X78.here hx rfl (hb hby d42_150_19) rfl ((if0 _ _).trans (feq (by decide : ¬ (1 : Int32) = 0)).1) k) ?_
  show OGo p e below _ T78 (mkF m 22 #[.val (.ref a), .val (.ref b), .val .null, .val (.ref d), .val (.int (Int32.ofNat bs.length))] [])
  refine os (fun _ k => XS.aloadN X78.here hx rfl (hb hby d42_150_22) rfl rfl k) ?_
  show OGo p e below _ T78 (mkF m 23 #[.val (.ref a), .val (.ref b), .val .null, .val (.ref d), .val (.int (Int32.ofNat bs.length))] [(.ref a)])
  refine os (fun _ k => XS.iconst X78.here hx rfl (hb hby d42_150_23) k) ?_
  show OGo p e below _ T78 (mkF m 24 #[.val (.ref a), .val (.ref b), .val .null, .val (.ref d), .val (.int (Int32.ofNat bs.length))] [(.int (0 : Int32)), (.ref a)])
  obtain ⟨T79, h79, X79, e79, W79, st79⟩ := putFN X78 hx hZ hown (own_g hw 26 rfl) Via.refl e78 Fc E (Or.inr ⟨(own_g hw 27 rfl), rfl, hnm⟩) (own_g hw 2 rfl) (ty := .byte) (v' := (.int (0 : Int32))) (by decide) rfl rfl (g := (mkF m 24 #[.val (.ref a), .val (.ref b), .val .null, .val (.ref d), .val (.int (Int32.ofNat bs.length))] [(.int (0 : Int32)), (.ref a)])) rfl rfl (hb hby d42_150_24)
  have Fw79 := Fc.same W79
  have N79 := Fr.snoc X79 N0 g_a
  have KK79 : Keep h0 h79 [a] := (Keep.refl h0 [a]).wr W79 (Or.inl (List.mem_of_getElem? (i := 0) rfl))
  refine os st79 ?_
  show OGo p e below _ T79 (mkF m 27 #[.val (.ref a), .val (.ref b), .val .null, .val (.ref d), .val (.int (Int32.ofNat bs.length))] [])
  refine os (fun _ k => XS.aloadN X79.here hx rfl (hb hby d42_150_27) rfl rfl k) ?_
  show OGo p e below _ T79 (mkF m 28 #[.val (.ref a), .val (.ref b), .val .null, .val (.ref d), .val (.int (Int32.ofNat bs.length))] [(.ref a)])
  refine os (fun _ k => XS.aloadN X79.here hx rfl (hb hby d42_150_28) rfl rfl k) ?_
  show OGo p e below _ T79 (mkF m 29 #[.val (.ref a), .val (.ref b), .val .null, .val (.ref d), .val (.int (Int32.ofNat bs.length))] [(.ref d), (.ref a)])
  refine os (fun _ k => XS.iconst X79.here hx rfl (hb hby d42_150_29) k) ?_
  show OGo p e below _ T79 (mkF m 30 #[.val (.ref a), .val (.ref b), .val .null, .val (.ref d), .val (.int (Int32.ofNat bs.length))] [(.int (0 : Int32)), (.ref d), (.ref a)])
  refine os (fun _ k => XS.iload X79.here hx rfl (hb hby d42_150_30) rfl k) ?_
  show OGo p e below _ T79 (mkF m 32 #[.val (.ref a), .val (.ref b), .val .null, .val (.ref d), .val (.int (Int32.ofNat bs.length))] [(.int (Int32.ofNat bs.length)), (.int (0 : Int32)), (.ref d), (.ref a)])
  obtain ⟨v80, T80, L80, X80, hQ80, st80⟩ := scall X79 hx hZ hown (own_g hw 191 rfl) (own_g hw 192 rfl) (own_g hw 193 rfl) (own_g hw 194 rfl) (by decide) (W := 1) (rm_cor l Z a0 hw [] d k zn bs zc wf n0 h79 SS' (O.wr W79 g_a) (JV.other W79 nda) hzn hbz hbn (JX.wr W79)) e79 (by decide) (by decide) (by decide) (by decide) (g := (mkF m 32 #[.val (.ref a), .val (.ref b), .val .null, .val (.ref d), .val (.int (Int32.ofNat bs.length))] [(.int (Int32.ofNat bs.length)), (.int (0 : Int32)), (.ref d), (.ref a)])) rfl (by rw [hml]; rfl) (argsL := [(.ref d), (.int (0 : Int32)), (.int (Int32.ofNat bs.length))]) (rest := [(.ref a)]) opd_15 rfl rfl rfl (by show 2 * 0 + _ ≤ _; exact Nat.le_of_eq rfl) (hb hby d42_150_32)
  obtain ⟨r80, kr80, rfl, sr80, N80, K80, V80⟩ := hQ80
  have NN80 := Fr.app N79 N80
  have KK80 : Keep h0 T80.heap [a] := KK79.trans K80 all0
  have sz_r80 : h0.size ≤ r80 := Nat.le_trans KK79.1 sr80
  refine os st80 ?_
  show OGo p e below _ T80 (mkF m 35 #[.val (.ref a), .val (.ref b), .val .null, .val (.ref d), .val (.int (Int32.ofNat bs.length))] [(.ref r80), (.ref a)])
  have q82 := ((Fv.other W79 (Or.inr (slot_ne (Or.inr (own_g hw 29 rfl)) (Or.inr (own_g hw 27 rfl)) (by decide) (t := (.array .byte)) (t' := .byte) (by decide) (by decide)))).keep K80 nin0)
  obtain ⟨T81, h81, X81, e81, W81, st81⟩ := putF X80 hx hZ hown (host := "") (Or.inl (own_g hw 28 rfl)) Via.refl rfl q82 ((E.wr W79).keep K80) (Or.inr ⟨(own_g hw 29 rfl), rfl, hnm⟩) (own_g hw 2 rfl) (ty := (.array .byte)) (by decide) rfl rfl (g := (mkF m 35 #[.val (.ref a), .val (.ref b), .val .null, .val (.ref d), .val (.int (Int32.ofNat bs.length))] [(.ref r80), (.ref a)])) rfl rfl (hb hby d42_150_35)
  have Fw81 := q82.same W81
  have N81 := Fr.snoc X81 NN80 g_a
  have KK81 : Keep h0 h81 [a] := KK80.wr W81 (Or.inl (List.mem_of_getElem? (i := 0) rfl))
  refine os st81 ?_
  show OGo p e below _ T81 (mkF m 38 #[.val (.ref a), .val (.ref b), .val .null, .val (.ref d), .val (.int (Int32.ofNat bs.length))] [])
  refine os (fun _ k => XS.goto X81.here hx rfl (pc0 := 38) (pc' := 97) rfl (hb hby d42_150_38) (by decide) (by decide) k) ?_
  show OGo p e below _ T81 (mkF m 97 #[.val (.ref a), .val (.ref b), .val .null, .val (.ref d), .val (.int (Int32.ofNat bs.length))] [])
  have q83 := ((Fw79.keep K80 nin0).other W81 (Or.inr (slot_ne (Or.inr (own_g hw 27 rfl)) (Or.inr (own_g hw 29 rfl)) (by decide) (t := .byte) (t' := (.array .byte)) (by decide) (by decide))))
  have ne84 : r80 ≠ a := (Ne.symm (Nat.ne_of_lt (Nat.lt_of_lt_of_le E.lt sz_r80)))
  exact OGo.retV X81 hx hret hlk (hb hby d42_150_97) (by decide) (by decide) (by rw [e81]; exact ⟨rfl, N81, KK81, r80, _, sz_r80, ⟨(((E.wr W79).keep K80).wr W81), q83, Fw81, (V80.other W81 ne84)⟩⟩)
theorem d42_53_0 : decode jdk_42_method_53_code 0 = .ok (.aload_n 0, 1) := by decide +kernel
theorem d42_53_1 : decode jdk_42_method_53_code 1 = .ok (.aload_n 1, 1) := by decide +kernel
theorem d42_53_2 : decode jdk_42_method_53_code 2 = .ok (.aconst_null, 1) := by decide +kernel
theorem opd_17 : parseMethodDescriptor "(Ljava/lang/AbstractStringBuilder;Ljava/lang/Void;)V" = some ⟨[(.object "java/lang/AbstractStringBuilder"), (.object "java/lang/Void")], none⟩ := by decide +kernel
theorem d42_53_3 : decode jdk_42_method_53_code 3 = .ok (.invokespecial 489, 3) := by decide +kernel
theorem d42_53_6 : decode jdk_42_method_53_code 6 = .ok (.return_, 1) := by decide +kernel
theorem opl_rm_sisb : plainFor (⟨"java/lang/String", "<init>", "(Ljava/lang/StringBuilder;)V"⟩ : MethodName) = true := plainFor_of_name (by first | (simp [plainName, overriddenIn]; done) | decide +kernel)
set_option maxRecDepth 65536 in
set_option maxHeartbeats 40000000 in
theorem rm_sisb (l : Launch) (Z : State) (a0 : Array Value) (hw : ∀ d ∈ tables_1, d.before a0 Z = true) (ws : List Jvm.Cond) (a : Addr) (b d : Addr) (k : ClassId) (zn : Nat) (bs : List Value) (zc : Int32) (wf : Value) (n0 : Nat) (h0 : Heap) (SS : own_SS Z zc wf) (O : Old Z n0 h0) (J : SBI Z h0 b d k (Int32.ofNat zn) bs) (hzn : zn ≤ 74) (hbz : bs.length ≤ zn) (hbn : bs.length ≤ 36) (E : Exa Z h0 a "java/lang/String") (Fc : Fld Z h0 a "java/lang/String" "coder" "B" (.int (0 : Int32))) (Fv : Fld Z h0 a "java/lang/String" "value" "[B" .null) (g_a : n0 ≤ a) (nba : b ≠ a) (nda : d ≠ a) :
    Con l Z (⟨"java/lang/String", "<init>", "(Ljava/lang/StringBuilder;)V"⟩ : MethodName) jdk_42_method_53_code 2 none ws ({ frames := 4, cells := 1, slots := 36, locals := 76 } : Room) #[(.ref a), (.ref b)] h0 (fun v h L => v = none ∧ Fr n0 L ∧ Keep h0 h [a] ∧ ∃ r k', h0.size ≤ r ∧ STI Z h a r k' bs) := by
  refine Con.intro opl_rm_sisb ?_
  intro p e s m below meth c s₁ hx hby hml hown hret hlk hZ hnm X0 e0
  have SS' := SS
  obtain ⟨hzc, SC, hwf, SF⟩ := SS
  have Z0 : n0 ≤ h0.size := O.1 ▸ O.2.1
  have N0 := Fr.nil n0
  obtain ⟨JE, JF, JC, JN, JV, JX⟩ := J
  refine OGo.cast (g' := (mkF m 0 #[.val (.ref a), .val (.ref b)] [])) (by first | (simp [entryFrame, mkF, argsToLocals, Value.category]; done) | rfl) ?_
  show OGo p e below _ s₁ (mkF m 0 #[.val (.ref a), .val (.ref b)] [])
  refine os (fun _ k => XS.aloadN X0.here hx rfl (hb hby d42_53_0) rfl rfl k) ?_
  show OGo p e below _ s₁ (mkF m 1 #[.val (.ref a), .val (.ref b)] [(.ref a)])
  refine os (fun _ k => XS.aloadN X0.here hx rfl (hb hby d42_53_1) rfl rfl k) ?_
  show OGo p e below _ s₁ (mkF m 2 #[.val (.ref a), .val (.ref b)] [(.ref b), (.ref a)])
  refine os (fun _ k => XS.aconstNull X0.here hx rfl (hb hby d42_53_2) k) ?_
  show OGo p e below _ s₁ (mkF m 3 #[.val (.ref a), .val (.ref b)] [.null, (.ref b), (.ref a)])
  obtain ⟨v85, T85, L85, X85, hQ85, st85⟩ := icall X0 hx hZ rfl hown (own_g hw 170 rfl) (own_g hw 171 rfl) (own_g hw 3 rfl) (own_g hw 172 rfl) (by decide) (W := 0) (rm_sia l Z a0 hw [] a b d k zn bs zc wf n0 h0 SS' O ⟨JE, JF, JC, JN, JV, JX⟩ hzn hbz hbn E Fc Fv g_a nba nda) e0 (by decide) (by decide) (by decide) (by decide) (g := (mkF m 3 #[.val (.ref a), .val (.ref b)] [.null, (.ref b), (.ref a)])) rfl (by rw [hml]; rfl) (a := a) (argsL := [(.ref b), .null]) (rest := []) opd_17 rfl rfl rfl (by show 2 * 0 + _ ≤ _; exact Nat.le_of_eq rfl) (hb hby d42_53_3)
  obtain ⟨rfl, N85, K85, r85, kr85, sr85, I85⟩ := hQ85
  have NN85 := Fr.app N0 N85
  have KK85 : Keep h0 T85.heap [a] := (Keep.refl h0 [a]).trans K85 (allS (Or.inl (List.mem_of_getElem? (i := 0) rfl)) all0)
  refine os st85 ?_
  show OGo p e below _ T85 (mkF m 6 #[.val (.ref a), .val (.ref b)] [])
  exact OGo.retV X85 hx hret hlk (hb hby d42_53_6) (by decide) (by decide) ⟨rfl, NN85, KK85, r85, _, sr85, I85⟩
theorem d67_42_0 : decode jdk_67_method_42_code 0 = .ok (.new 18, 3) := by decide +kernel
theorem d67_42_3 : decode jdk_67_method_42_code 3 = .ok (.dup, 1) := by decide +kernel
theorem d67_42_4 : decode jdk_67_method_42_code 4 = .ok (.aload_n 0, 1) := by decide +kernel
theorem opd_18 : parseMethodDescriptor "(Ljava/lang/StringBuilder;)V" = some ⟨[(.object "java/lang/StringBuilder")], none⟩ := by decide +kernel
theorem d67_42_5 : decode jdk_67_method_42_code 5 = .ok (.invokespecial 137, 3) := by decide +kernel
theorem d67_42_8 : decode jdk_67_method_42_code 8 = .ok (.areturn, 1) := by decide +kernel
theorem opl_rm_toS : plainFor (⟨"java/lang/StringBuilder", "toString", "()Ljava/lang/String;"⟩ : MethodName) = true := plainFor_of_name (by first | (simp [plainName, overriddenIn]; done) | decide +kernel)
set_option maxRecDepth 65536 in
set_option maxHeartbeats 40000000 in
theorem rm_toS (l : Launch) (Z : State) (a0 : Array Value) (hw : ∀ d ∈ tables_1, d.before a0 Z = true) (ws : List Jvm.Cond) (b d : Addr) (k : ClassId) (zn : Nat) (bs : List Value) (zc : Int32) (wf : Value) (n0 : Nat) (h0 : Heap) (SS : own_SS Z zc wf) (O : Old Z n0 h0) (J : SBI Z h0 b d k (Int32.ofNat zn) bs) (hzn : zn ≤ 74) (hbz : bs.length ≤ zn) (hbn : bs.length ≤ 36) :
    Con l Z (⟨"java/lang/StringBuilder", "toString", "()Ljava/lang/String;"⟩ : MethodName) jdk_67_method_42_code 1 (some (.object "java/lang/String")) ws ({ frames := 5, cells := 2, slots := 40, locals := 90 } : Room) #[(.ref b)] h0 (fun v h L => ∃ a r k', v = some (.ref a) ∧ h0.size ≤ a ∧ h0.size ≤ r ∧ Fr n0 L ∧ Keep h0 h [] ∧ STI Z h a r k' bs) := by
  refine Con.intro opl_rm_toS ?_
  intro p e s m below meth c s₁ hx hby hml hown hret hlk hZ hnm X0 e0
  have SS' := SS
  obtain ⟨hzc, SC, hwf, SF⟩ := SS
  have Z0 : n0 ≤ h0.size := O.1 ▸ O.2.1
  have N0 := Fr.nil n0
  obtain ⟨JE, JF, JC, JN, JV, JX⟩ := J
  refine OGo.cast (g' := (mkF m 0 #[.val (.ref b)] [])) (by first | (simp [entryFrame, mkF, argsToLocals, Value.category]; done) | rfl) ?_
  show OGo p e below _ s₁ (mkF m 0 #[.val (.ref b)] [])
  obtain ⟨T86, h86, X86, e86, E86, A86, D86, UN86, st86⟩ := newO X0 hx hZ hown (own_g hw 166 rfl) (own_g hw 2 rfl) (own_g hw 3 rfl) e0 (g := (mkF m 0 #[.val (.ref b)] [])) rfl (hb hby d67_42_0) (by decide) (by decide)
  obtain ⟨b86, g86⟩ : ∃ z, z = h0.size := ⟨_, rfl⟩
  rw [← g86] at A86 D86 UN86 st86
  have sz_b86 : h0.size ≤ b86 := Nat.le_trans (Keep.refl h0 []).1 (Nat.le_of_eq g86.symm)
  have KK86 : Keep h0 h86 [] := (Keep.refl h0 []).ext E86
  have F86_coder : Fld Z h86 b86 "java/lang/String" "coder" "B" (.int (0 : Int32)) := D86 (Or.inr (own_g hw 27 rfl)) (ty := .byte) (by decide)
  have F86_value : Fld Z h86 b86 "java/lang/String" "value" "[B" .null := D86 (Or.inr (own_g hw 29 rfl)) (ty := (.array .byte)) (by decide)
  refine os st86 ?_
  show OGo p e below _ T86 (mkF m 3 #[.val (.ref b)] [(.ref b86)])
  refine os (fun _ k => XS.dup X86.here hx rfl (hb hby d67_42_3) rfl rfl k) ?_
  show OGo p e below _ T86 (mkF m 4 #[.val (.ref b)] [(.ref b86), (.ref b86)])
  refine os (fun _ k => XS.aloadN X86.here hx rfl (hb hby d67_42_4) rfl rfl k) ?_
  show OGo p e below _ T86 (mkF m 5 #[.val (.ref b)] [(.ref b), (.ref b86), (.ref b86)])
  obtain ⟨v87, T87, L87, X87, hQ87, st87⟩ := icall X86 hx hZ rfl hown (own_g hw 167 rfl) (own_g hw 168 rfl) (own_g hw 3 rfl) (own_g hw 169 rfl) (by decide) (W := 1) (rm_sisb l Z a0 hw [] b86 b d k zn bs zc wf n0 h86 SS' (O.ext E86) ⟨(JE.ext E86), (JF.ext E86), (JC.ext E86), (JN.ext E86), (JV.ext E86), (JX.ext E86)⟩ hzn hbz hbn A86 F86_coder F86_value (Nat.le_trans Z0 sz_b86) (Nat.ne_of_lt (Nat.lt_of_lt_of_le JE.lt sz_b86)) (Nat.ne_of_lt (Nat.lt_of_lt_of_le JV.lt sz_b86))) e86 (by decide) (by decide) (by decide) (by decide) (g := (mkF m 5 #[.val (.ref b)] [(.ref b), (.ref b86), (.ref b86)])) rfl (by rw [hml]; rfl) (a := b86) (argsL := [(.ref b)]) (rest := [(.ref b86)]) opd_18 rfl rfl rfl (by show 2 * 0 + _ ≤ _; exact Nat.le_of_eq rfl) (hb hby d67_42_5)
  obtain ⟨rfl, N87, K87, r87, kr87, sr87, I87⟩ := hQ87
  have NN87 := Fr.app N0 N87
  have KK87 : Keep h0 T87.heap [] := KK86.trans K87 (allS (Or.inr sz_b86) all0)
  have sz_r87 : h0.size ≤ r87 := Nat.le_trans KK86.1 sr87
  refine os st87 ?_
  show OGo p e below _ T87 (mkF m 8 #[.val (.ref b)] [(.ref b86)])
  exact OGo.ret X87 hx (t := (.object "java/lang/String")) hret hlk rfl (Or.inr (Or.inr (Or.inr (Or.inr ⟨rfl, rfl, rfl⟩)))) (hb hby d67_42_8) (by decide) (by decide) ⟨b86, r87, _, rfl, sz_b86, sz_r87, NN87, KK87, I87⟩
theorem d33_13_0 : decode jdk_33_method_13_code 0 = .ok (.iconst 1, 1) := by decide +kernel
theorem d33_13_1 : decode jdk_33_method_13_code 1 = .ok (.istore_n 1, 1) := by decide +kernel
theorem d33_13_2 : decode jdk_33_method_13_code 2 = .ok (.iload_n 0, 1) := by decide +kernel
theorem d33_13_3 : decode jdk_33_method_13_code 3 = .ok (.ifCond .lt 8, 3) := by decide +kernel
theorem d33_13_6 : decode jdk_33_method_13_code 6 = .ok (.iconst 0, 1) := by decide +kernel
theorem d33_13_7 : decode jdk_33_method_13_code 7 = .ok (.istore_n 1, 1) := by decide +kernel
theorem d33_13_8 : decode jdk_33_method_13_code 8 = .ok (.iload_n 0, 1) := by decide +kernel
theorem d33_13_9 : decode jdk_33_method_13_code 9 = .ok (.ineg, 1) := by decide +kernel
theorem d33_13_10 : decode jdk_33_method_13_code 10 = .ok (.istore_n 0, 1) := by decide +kernel
theorem d33_13_11 : decode jdk_33_method_13_code 11 = .ok (.bipush (-10), 2) := by decide +kernel
theorem d33_13_13 : decode jdk_33_method_13_code 13 = .ok (.istore_n 2, 1) := by decide +kernel
theorem d33_13_14 : decode jdk_33_method_13_code 14 = .ok (.iconst 1, 1) := by decide +kernel
theorem d33_13_15 : decode jdk_33_method_13_code 15 = .ok (.istore_n 3, 1) := by decide +kernel
theorem d33_13_16 : decode jdk_33_method_13_code 16 = .ok (.iload_n 3, 1) := by decide +kernel
theorem d33_13_17 : decode jdk_33_method_13_code 17 = .ok (.bipush 10, 2) := by decide +kernel
theorem d33_13_19 : decode jdk_33_method_13_code 19 = .ok (.if_icmp .ge 23, 3) := by decide +kernel
theorem d33_13_22 : decode jdk_33_method_13_code 22 = .ok (.iload_n 0, 1) := by decide +kernel
theorem d33_13_23 : decode jdk_33_method_13_code 23 = .ok (.iload_n 2, 1) := by decide +kernel
theorem d33_13_24 : decode jdk_33_method_13_code 24 = .ok (.if_icmp .le 7, 3) := by decide +kernel
theorem d33_13_27 : decode jdk_33_method_13_code 27 = .ok (.iload_n 3, 1) := by decide +kernel
theorem d33_13_28 : decode jdk_33_method_13_code 28 = .ok (.iload_n 1, 1) := by decide +kernel
theorem d33_13_29 : decode jdk_33_method_13_code 29 = .ok (.iadd, 1) := by decide +kernel
theorem d33_13_30 : decode jdk_33_method_13_code 30 = .ok (.ireturn, 1) := by decide +kernel
theorem d33_13_31 : decode jdk_33_method_13_code 31 = .ok (.bipush 10, 2) := by decide +kernel
theorem d33_13_33 : decode jdk_33_method_13_code 33 = .ok (.iload_n 2, 1) := by decide +kernel
theorem d33_13_34 : decode jdk_33_method_13_code 34 = .ok (.imul, 1) := by decide +kernel
theorem d33_13_35 : decode jdk_33_method_13_code 35 = .ok (.istore_n 2, 1) := by decide +kernel
theorem d33_13_36 : decode jdk_33_method_13_code 36 = .ok (.iinc 3 1, 3) := by decide +kernel
theorem d33_13_39 : decode jdk_33_method_13_code 39 = .ok (.goto (-23), 3) := by decide +kernel
theorem d33_13_42 : decode jdk_33_method_13_code 42 = .ok (.bipush 10, 2) := by decide +kernel
theorem d33_13_44 : decode jdk_33_method_13_code 44 = .ok (.iload_n 1, 1) := by decide +kernel
theorem d33_13_45 : decode jdk_33_method_13_code 45 = .ok (.iadd, 1) := by decide +kernel
theorem d33_13_46 : decode jdk_33_method_13_code 46 = .ok (.ireturn, 1) := by decide +kernel
theorem opl_rm_ssize : plainFor (⟨"java/lang/Integer", "stringSize", "(I)I"⟩ : MethodName) = true := plainFor_of_name (by first | (simp [plainName, overriddenIn]; done) | decide +kernel)
set_option maxRecDepth 65536 in
set_option maxHeartbeats 40000000 in
theorem rm_ssize (l : Launch) (Z : State) (a0 : Array Value) (hw : ∀ d ∈ tables_1, d.before a0 Z = true) (ws : List Jvm.Cond) (n : Nat) (h0 : Heap) (hn : n < 2147483648) :
    Con l Z (⟨"java/lang/Integer", "stringSize", "(I)I"⟩ : MethodName) jdk_33_method_13_code 4 (some .int) ws ({ frames := 0, cells := 0, slots := 0, locals := 0 } : Room) #[(.int (Int32.ofNat n))] h0 (fun v h L => v = some (.int (Int32.ofNat (own_w n))) ∧ L = [] ∧ h = h0) := by
  refine Con.intro opl_rm_ssize ?_
  intro p e s m below meth c s₁ hx hby hml hown hret hlk hZ hnm X0 e0
  refine OGo.cast (g' := (mkF m 0 #[.val (.int (Int32.ofNat n)), .unset, .unset, .unset] [])) (by first | (simp [entryFrame, mkF, argsToLocals, Value.category]; done) | rfl) ?_
  show OGo p e below _ s₁ (mkF m 0 #[.val (.int (Int32.ofNat n)), .unset, .unset, .unset] [])
  have hn2 : n ≤ 2 ^ 31 := by omega
  refine os (fun _ k => XS.iconst X0.here hx rfl (hb hby d33_13_0) k) ?_
  show OGo p e below _ s₁ (mkF m 1 #[.val (.int (Int32.ofNat n)), .unset, .unset, .unset] [(.int (1 : Int32))])
  refine os (fun _ k => XS.istoreN X0.here hx rfl (hb hby d33_13_1) rfl (l' := #[.val (.int (Int32.ofNat n)), .val (.int (1 : Int32)), .unset, .unset]) rfl k) ?_
  show OGo p e below _ s₁ (mkF m 2 #[.val (.int (Int32.ofNat n)), .val (.int (1 : Int32)), .unset, .unset] [])
  refine os (fun _ k => XS.iloadN X0.here hx rfl (hb hby d33_13_2) rfl k) ?_
  show OGo p e below _ s₁ (mkF m 3 #[.val (.int (Int32.ofNat n)), .val (.int (1 : Int32)), .unset, .unset] [(.int (Int32.ofNat n))])
  refine os (fun _ k => XS.ifNo X0.here hx rfl (hb hby d33_13_3) rfl ((if0 _ _).trans (flt (own_nn hn)).1) k) ?_
  show OGo p e below _ s₁ (mkF m 6 #[.val (.int (Int32.ofNat n)), .val (.int (1 : Int32)), .unset, .unset] [])
  refine os (fun _ k => XS.iconst X0.here hx rfl (hb hby d33_13_6) k) ?_
  show OGo p e below _ s₁ (mkF m 7 #[.val (.int (Int32.ofNat n)), .val (.int (1 : Int32)), .unset, .unset] [(.int (0 : Int32))])
  refine os (fun _ k => XS.istoreN X0.here hx rfl (hb hby d33_13_7) rfl (l' := #[.val (.int (Int32.ofNat n)), .val (.int (0 : Int32)), .unset, .unset]) rfl k) ?_
  show OGo p e below _ s₁ (mkF m 8 #[.val (.int (Int32.ofNat n)), .val (.int (0 : Int32)), .unset, .unset] [])
  refine os (fun _ k => XS.iloadN X0.here hx rfl (hb hby d33_13_8) rfl k) ?_
  show OGo p e below _ s₁ (mkF m 9 #[.val (.int (Int32.ofNat n)), .val (.int (0 : Int32)), .unset, .unset] [(.int (Int32.ofNat n))])
  refine os (fun _ k => XS.ineg X0.here hx rfl (hb hby d33_13_9) rfl k) ?_
  show OGo p e below _ s₁ (mkF m 10 #[.val (.int (Int32.ofNat n)), .val (.int (0 : Int32)), .unset, .unset] [(.int (-(Int32.ofNat n)))])
  rw [own_negn hn]
  show OGo p e below _ s₁ (mkF m 10 #[.val (.int (Int32.ofNat n)), .val (.int (0 : Int32)), .unset, .unset] [(.int (Jvm.Free.SBG.negI (n)))])
  refine os (fun _ k => XS.istoreN X0.here hx rfl (hb hby d33_13_10) rfl (l' := #[.val (.int (Jvm.Free.SBG.negI (n))), .val (.int (0 : Int32)), .unset, .unset]) rfl k) ?_
  show OGo p e below _ s₁ (mkF m 11 #[.val (.int (Jvm.Free.SBG.negI (n))), .val (.int (0 : Int32)), .unset, .unset] [])
  refine os (fun _ k => XS.bipush X0.here hx rfl (hb hby d33_13_11) k) ?_
  show OGo p e below _ s₁ (mkF m 13 #[.val (.int (Jvm.Free.SBG.negI (n))), .val (.int (0 : Int32)), .unset, .unset] [(.int (-10 : Int32))])
  refine os (fun _ k => XS.istoreN X0.here hx rfl (hb hby d33_13_13) rfl (l' := #[.val (.int (Jvm.Free.SBG.negI (n))), .val (.int (0 : Int32)), .val (.int (-10 : Int32)), .unset]) rfl k) ?_
  show OGo p e below _ s₁ (mkF m 14 #[.val (.int (Jvm.Free.SBG.negI (n))), .val (.int (0 : Int32)), .val (.int (-10 : Int32)), .unset] [])
  refine os (fun _ k => XS.iconst X0.here hx rfl (hb hby d33_13_14) k) ?_
  show OGo p e below _ s₁ (mkF m 15 #[.val (.int (Jvm.Free.SBG.negI (n))), .val (.int (0 : Int32)), .val (.int (-10 : Int32)), .unset] [(.int (1 : Int32))])
  refine os (fun _ k => XS.istoreN X0.here hx rfl (hb hby d33_13_15) rfl (l' := #[.val (.int (Jvm.Free.SBG.negI (n))), .val (.int (0 : Int32)), .val (.int (-10 : Int32)), .val (.int (1 : Int32))]) rfl k) ?_
  show OGo p e below _ s₁ (mkF m 16 #[.val (.int (Jvm.Free.SBG.negI (n))), .val (.int (0 : Int32)), .val (.int (-10 : Int32)), .val (.int (1 : Int32))] [])
  refine os (fun _ k => XS.iloadN X0.here hx rfl (hb hby d33_13_16) rfl k) ?_
  show OGo p e below _ s₁ (mkF m 17 #[.val (.int (Jvm.Free.SBG.negI (n))), .val (.int (0 : Int32)), .val (.int (-10 : Int32)), .val (.int (1 : Int32))] [(.int (1 : Int32))])
  refine os (fun _ k => XS.bipush X0.here hx rfl (hb hby d33_13_17) k) ?_
  show OGo p e below _ s₁ (mkF m 19 #[.val (.int (Jvm.Free.SBG.negI (n))), .val (.int (0 : Int32)), .val (.int (-10 : Int32)), .val (.int (1 : Int32))] [(.int (10 : Int32)), (.int (1 : Int32))])
  refine os (fun _ k => XS.icmpNo X0.here hx rfl (hb hby d33_13_19) rfl (tlt (by decide : (1 : Int32) < 10)).2.1 k) ?_
  show OGo p e below _ s₁ (mkF m 22 #[.val (.int (Jvm.Free.SBG.negI (n))), .val (.int (0 : Int32)), .val (.int (-10 : Int32)), .val (.int (1 : Int32))] [])
  refine os (fun _ k => XS.iloadN X0.here hx rfl (hb hby d33_13_22) rfl k) ?_
  show OGo p e below _ s₁ (mkF m 23 #[.val (.int (Jvm.Free.SBG.negI (n))), .val (.int (0 : Int32)), .val (.int (-10 : Int32)), .val (.int (1 : Int32))] [(.int (Jvm.Free.SBG.negI (n)))])
  refine os (fun _ k => XS.iloadN X0.here hx rfl (hb hby d33_13_23) rfl k) ?_
  show OGo p e below _ s₁ (mkF m 24 #[.val (.int (Jvm.Free.SBG.negI (n))), .val (.int (0 : Int32)), .val (.int (-10 : Int32)), .val (.int (1 : Int32))] [(.int (-10 : Int32)), (.int (Jvm.Free.SBG.negI (n)))])
  have c1 := Jvm.Free.SBG.negI_lt hn2 10 (by decide)
  rw [show Jvm.Free.SBG.negI 10 = (-10 : Int32) from by decide +kernel] at c1
  by_cases q1 : n < 10
  case pos =>
    refine os (fun _ k => XS.icmpNo X0.here hx rfl (hb hby d33_13_24) rfl (tlt (c1.mpr q1)).2.2.2 k) ?_
    show OGo p e below _ s₁ (mkF m 27 #[.val (.int (Jvm.Free.SBG.negI (n))), .val (.int (0 : Int32)), .val (.int (-10 : Int32)), .val (.int (1 : Int32))] [])
    refine os (fun _ k => XS.iloadN X0.here hx rfl (hb hby d33_13_27) rfl k) ?_
    show OGo p e below _ s₁ (mkF m 28 #[.val (.int (Jvm.Free.SBG.negI (n))), .val (.int (0 : Int32)), .val (.int (-10 : Int32)), .val (.int (1 : Int32))] [(.int (1 : Int32))])
    refine os (fun _ k => XS.iloadN X0.here hx rfl (hb hby d33_13_28) rfl k) ?_
    show OGo p e below _ s₁ (mkF m 29 #[.val (.int (Jvm.Free.SBG.negI (n))), .val (.int (0 : Int32)), .val (.int (-10 : Int32)), .val (.int (1 : Int32))] [(.int (0 : Int32)), (.int (1 : Int32))])
    refine os (fun _ k => XS.iadd X0.here hx rfl (hb hby d33_13_29) rfl k) ?_
    show OGo p e below _ s₁ (mkF m 30 #[.val (.int (Jvm.Free.SBG.negI (n))), .val (.int (0 : Int32)), .val (.int (-10 : Int32)), .val (.int (1 : Int32))] [(.int ((1 : Int32) + (0 : Int32)))])
    exact OGo.ret X0 hx (t := .int) hret hlk rfl (Or.inl ⟨rfl, by simp, _, rfl⟩) (hb hby d33_13_30) (by decide) (by decide) ⟨by rw [show own_w n = 1 from (by unfold own_w; (repeat' split) <;> omega)]; rfl, rfl, e0⟩
  refine os (fun _ k => XS.icmpYes X0.here hx rfl (pc0 := 24) (pc' := 31) rfl (hb hby d33_13_24) rfl (flt (fun h => q1 (c1.mp h))).2.2.2 (by decide) (by decide) k) ?_
  show OGo p e below _ s₁ (mkF m 31 #[.val (.int (Jvm.Free.SBG.negI (n))), .val (.int (0 : Int32)), .val (.int (-10 : Int32)), .val (.int (1 : Int32))] [])
  refine os (fun _ k => XS.bipush X0.here hx rfl (hb hby d33_13_31) k) ?_
  show OGo p e below _ s₁ (mkF m 33 #[.val (.int (Jvm.Free.SBG.negI (n))), .val (.int (0 : Int32)), .val (.int (-10 : Int32)), .val (.int (1 : Int32))] [(.int (10 : Int32))])
  refine os (fun _ k => XS.iloadN X0.here hx rfl (hb hby d33_13_33) rfl k) ?_
  show OGo p e below _ s₁ (mkF m 34 #[.val (.int (Jvm.Free.SBG.negI (n))), .val (.int (0 : Int32)), .val (.int (-10 : Int32)), .val (.int (1 : Int32))] [(.int (-10 : Int32)), (.int (10 : Int32))])
  refine os (fun _ k => XS.imul X0.here hx rfl (hb hby d33_13_34) rfl k) ?_
  show OGo p e below _ s₁ (mkF m 35 #[.val (.int (Jvm.Free.SBG.negI (n))), .val (.int (0 : Int32)), .val (.int (-10 : Int32)), .val (.int (1 : Int32))] [(.int ((10 : Int32) * (-10 : Int32)))])
  rw [show ((10 : Int32) * (-10 : Int32)) = (-100 : Int32) from by decide]
  show OGo p e below _ s₁ (mkF m 35 #[.val (.int (Jvm.Free.SBG.negI (n))), .val (.int (0 : Int32)), .val (.int (-10 : Int32)), .val (.int (1 : Int32))] [(.int (-100 : Int32))])
  refine os (fun _ k => XS.istoreN X0.here hx rfl (hb hby d33_13_35) rfl (l' := #[.val (.int (Jvm.Free.SBG.negI (n))), .val (.int (0 : Int32)), .val (.int (-100 : Int32)), .val (.int (1 : Int32))]) rfl k) ?_
  show OGo p e below _ s₁ (mkF m 36 #[.val (.int (Jvm.Free.SBG.negI (n))), .val (.int (0 : Int32)), .val (.int (-100 : Int32)), .val (.int (1 : Int32))] [])
  refine os (fun _ k => XS.iinc X0.here hx rfl (hb hby d33_13_36) rfl (l' := #[.val (.int (Jvm.Free.SBG.negI (n))), .val (.int (0 : Int32)), .val (.int (-100 : Int32)), .val (.int ((1 : Int32) + (1 : Int32)))]) rfl k) ?_
  show OGo p e below _ s₁ (mkF m 39 #[.val (.int (Jvm.Free.SBG.negI (n))), .val (.int (0 : Int32)), .val (.int (-100 : Int32)), .val (.int ((1 : Int32) + (1 : Int32)))] [])
  rw [show ((1 : Int32) + (1 : Int32)) = (2 : Int32) from by decide]
  show OGo p e below _ s₁ (mkF m 39 #[.val (.int (Jvm.Free.SBG.negI (n))), .val (.int (0 : Int32)), .val (.int (-100 : Int32)), .val (.int (2 : Int32))] [])
  refine os (fun _ k => XS.goto X0.here hx rfl (pc0 := 39) (pc' := 16) rfl (hb hby d33_13_39) (by decide) (by decide) k) ?_
  show OGo p e below _ s₁ (mkF m 16 #[.val (.int (Jvm.Free.SBG.negI (n))), .val (.int (0 : Int32)), .val (.int (-100 : Int32)), .val (.int (2 : Int32))] [])
  refine os (fun _ k => XS.iloadN X0.here hx rfl (hb hby d33_13_16) rfl k) ?_
  show OGo p e below _ s₁ (mkF m 17 #[.val (.int (Jvm.Free.SBG.negI (n))), .val (.int (0 : Int32)), .val (.int (-100 : Int32)), .val (.int (2 : Int32))] [(.int (2 : Int32))])
  refine os (fun _ k => XS.bipush X0.here hx rfl (hb hby d33_13_17) k) ?_
  show OGo p e below _ s₁ (mkF m 19 #[.val (.int (Jvm.Free.SBG.negI (n))), .val (.int (0 : Int32)), .val (.int (-100 : Int32)), .val (.int (2 : Int32))] [(.int (10 : Int32)), (.int (2 : Int32))])
  refine os (fun _ k => XS.icmpNo X0.here hx rfl (hb hby d33_13_19) rfl (tlt (by decide : (2 : Int32) < 10)).2.1 k) ?_
  show OGo p e below _ s₁ (mkF m 22 #[.val (.int (Jvm.Free.SBG.negI (n))), .val (.int (0 : Int32)), .val (.int (-100 : Int32)), .val (.int (2 : Int32))] [])
  refine os (fun _ k => XS.iloadN X0.here hx rfl (hb hby d33_13_22) rfl k) ?_
  show OGo p e below _ s₁ (mkF m 23 #[.val (.int (Jvm.Free.SBG.negI (n))), .val (.int (0 : Int32)), .val (.int (-100 : Int32)), .val (.int (2 : Int32))] [(.int (Jvm.Free.SBG.negI (n)))])
  refine os (fun _ k => XS.iloadN X0.here hx rfl (hb hby d33_13_23) rfl k) ?_
  show OGo p e below _ s₁ (mkF m 24 #[.val (.int (Jvm.Free.SBG.negI (n))), .val (.int (0 : Int32)), .val (.int (-100 : Int32)), .val (.int (2 : Int32))] [(.int (-100 : Int32)), (.int (Jvm.Free.SBG.negI (n)))])
  have c2 := Jvm.Free.SBG.negI_lt hn2 100 (by decide)
  rw [show Jvm.Free.SBG.negI 100 = (-100 : Int32) from by decide +kernel] at c2
  by_cases q2 : n < 100
  case pos =>
    refine os (fun _ k => XS.icmpNo X0.here hx rfl (hb hby d33_13_24) rfl (tlt (c2.mpr q2)).2.2.2 k) ?_
    show OGo p e below _ s₁ (mkF m 27 #[.val (.int (Jvm.Free.SBG.negI (n))), .val (.int (0 : Int32)), .val (.int (-100 : Int32)), .val (.int (2 : Int32))] [])
    refine os (fun _ k => XS.iloadN X0.here hx rfl (hb hby d33_13_27) rfl k) ?_
    show OGo p e below _ s₁ (mkF m 28 #[.val (.int (Jvm.Free.SBG.negI (n))), .val (.int (0 : Int32)), .val (.int (-100 : Int32)), .val (.int (2 : Int32))] [(.int (2 : Int32))])
    refine os (fun _ k => XS.iloadN X0.here hx rfl (hb hby d33_13_28) rfl k) ?_
    show OGo p e below _ s₁ (mkF m 29 #[.val (.int (Jvm.Free.SBG.negI (n))), .val (.int (0 : Int32)), .val (.int (-100 : Int32)), .val (.int (2 : Int32))] [(.int (0 : Int32)), (.int (2 : Int32))])
    refine os (fun _ k => XS.iadd X0.here hx rfl (hb hby d33_13_29) rfl k) ?_
    show OGo p e below _ s₁ (mkF m 30 #[.val (.int (Jvm.Free.SBG.negI (n))), .val (.int (0 : Int32)), .val (.int (-100 : Int32)), .val (.int (2 : Int32))] [(.int ((2 : Int32) + (0 : Int32)))])
    exact OGo.ret X0 hx (t := .int) hret hlk rfl (Or.inl ⟨rfl, by simp, _, rfl⟩) (hb hby d33_13_30) (by decide) (by decide) ⟨by rw [show own_w n = 2 from (by unfold own_w; (repeat' split) <;> omega)]; rfl, rfl, e0⟩
  refine os (fun _ k => XS.icmpYes X0.here hx rfl (pc0 := 24) (pc' := 31) rfl (hb hby d33_13_24) rfl (flt (fun h => q2 (c2.mp h))).2.2.2 (by decide) (by decide) k) ?_
  show OGo p e below _ s₁ (mkF m 31 #[.val (.int (Jvm.Free.SBG.negI (n))), .val (.int (0 : Int32)), .val (.int (-100 : Int32)), .val (.int (2 : Int32))] [])
  refine os (fun _ k => XS.bipush X0.here hx rfl (hb hby d33_13_31) k) ?_
  show OGo p e below _ s₁ (mkF m 33 #[.val (.int (Jvm.Free.SBG.negI (n))), .val (.int (0 : Int32)), .val (.int (-100 : Int32)), .val (.int (2 : Int32))] [(.int (10 : Int32))])
  refine os (fun _ k => XS.iloadN X0.here hx rfl (hb hby d33_13_33) rfl k) ?_
  show OGo p e below _ s₁ (mkF m 34 #[.val (.int (Jvm.Free.SBG.negI (n))), .val (.int (0 : Int32)), .val (.int (-100 : Int32)), .val (.int (2 : Int32))] [(.int (-100 : Int32)), (.int (10 : Int32))])
  refine os (fun _ k => XS.imul X0.here hx rfl (hb hby d33_13_34) rfl k) ?_
  show OGo p e below _ s₁ (mkF m 35 #[.val (.int (Jvm.Free.SBG.negI (n))), .val (.int (0 : Int32)), .val (.int (-100 : Int32)), .val (.int (2 : Int32))] [(.int ((10 : Int32) * (-100 : Int32)))])
  rw [show ((10 : Int32) * (-100 : Int32)) = (-1000 : Int32) from by decide]
  show OGo p e below _ s₁ (mkF m 35 #[.val (.int (Jvm.Free.SBG.negI (n))), .val (.int (0 : Int32)), .val (.int (-100 : Int32)), .val (.int (2 : Int32))] [(.int (-1000 : Int32))])
  refine os (fun _ k => XS.istoreN X0.here hx rfl (hb hby d33_13_35) rfl (l' := #[.val (.int (Jvm.Free.SBG.negI (n))), .val (.int (0 : Int32)), .val (.int (-1000 : Int32)), .val (.int (2 : Int32))]) rfl k) ?_
  show OGo p e below _ s₁ (mkF m 36 #[.val (.int (Jvm.Free.SBG.negI (n))), .val (.int (0 : Int32)), .val (.int (-1000 : Int32)), .val (.int (2 : Int32))] [])
  refine os (fun _ k => XS.iinc X0.here hx rfl (hb hby d33_13_36) rfl (l' := #[.val (.int (Jvm.Free.SBG.negI (n))), .val (.int (0 : Int32)), .val (.int (-1000 : Int32)), .val (.int ((2 : Int32) + (1 : Int32)))]) rfl k) ?_
  show OGo p e below _ s₁ (mkF m 39 #[.val (.int (Jvm.Free.SBG.negI (n))), .val (.int (0 : Int32)), .val (.int (-1000 : Int32)), .val (.int ((2 : Int32) + (1 : Int32)))] [])
  rw [show ((2 : Int32) + (1 : Int32)) = (3 : Int32) from by decide]
  show OGo p e below _ s₁ (mkF m 39 #[.val (.int (Jvm.Free.SBG.negI (n))), .val (.int (0 : Int32)), .val (.int (-1000 : Int32)), .val (.int (3 : Int32))] [])
  refine os (fun _ k => XS.goto X0.here hx rfl (pc0 := 39) (pc' := 16) rfl (hb hby d33_13_39) (by decide) (by decide) k) ?_
  show OGo p e below _ s₁ (mkF m 16 #[.val (.int (Jvm.Free.SBG.negI (n))), .val (.int (0 : Int32)), .val (.int (-1000 : Int32)), .val (.int (3 : Int32))] [])
  refine os (fun _ k => XS.iloadN X0.here hx rfl (hb hby d33_13_16) rfl k) ?_
  show OGo p e below _ s₁ (mkF m 17 #[.val (.int (Jvm.Free.SBG.negI (n))), .val (.int (0 : Int32)), .val (.int (-1000 : Int32)), .val (.int (3 : Int32))] [(.int (3 : Int32))])
  refine os (fun _ k => XS.bipush X0.here hx rfl (hb hby d33_13_17) k) ?_
  show OGo p e below _ s₁ (mkF m 19 #[.val (.int (Jvm.Free.SBG.negI (n))), .val (.int (0 : Int32)), .val (.int (-1000 : Int32)), .val (.int (3 : Int32))] [(.int (10 : Int32)), (.int (3 : Int32))])
  refine os (fun _ k => XS.icmpNo X0.here hx rfl (hb hby d33_13_19) rfl (tlt (by decide : (3 : Int32) < 10)).2.1 k) ?_
  show OGo p e below _ s₁ (mkF m 22 #[.val (.int (Jvm.Free.SBG.negI (n))), .val (.int (0 : Int32)), .val (.int (-1000 : Int32)), .val (.int (3 : Int32))] [])
  refine os (fun _ k => XS.iloadN X0.here hx rfl (hb hby d33_13_22) rfl k) ?_
  show OGo p e below _ s₁ (mkF m 23 #[.val (.int (Jvm.Free.SBG.negI (n))), .val (.int (0 : Int32)), .val (.int (-1000 : Int32)), .val (.int (3 : Int32))] [(.int (Jvm.Free.SBG.negI (n)))])
  refine os (fun _ k => XS.iloadN X0.here hx rfl (hb hby d33_13_23) rfl k) ?_
  show OGo p e below _ s₁ (mkF m 24 #[.val (.int (Jvm.Free.SBG.negI (n))), .val (.int (0 : Int32)), .val (.int (-1000 : Int32)), .val (.int (3 : Int32))] [(.int (-1000 : Int32)), (.int (Jvm.Free.SBG.negI (n)))])
  have c3 := Jvm.Free.SBG.negI_lt hn2 1000 (by decide)
  rw [show Jvm.Free.SBG.negI 1000 = (-1000 : Int32) from by decide +kernel] at c3
  by_cases q3 : n < 1000
  case pos =>
    refine os (fun _ k => XS.icmpNo X0.here hx rfl (hb hby d33_13_24) rfl (tlt (c3.mpr q3)).2.2.2 k) ?_
    show OGo p e below _ s₁ (mkF m 27 #[.val (.int (Jvm.Free.SBG.negI (n))), .val (.int (0 : Int32)), .val (.int (-1000 : Int32)), .val (.int (3 : Int32))] [])
    refine os (fun _ k => XS.iloadN X0.here hx rfl (hb hby d33_13_27) rfl k) ?_
    show OGo p e below _ s₁ (mkF m 28 #[.val (.int (Jvm.Free.SBG.negI (n))), .val (.int (0 : Int32)), .val (.int (-1000 : Int32)), .val (.int (3 : Int32))] [(.int (3 : Int32))])
    refine os (fun _ k => XS.iloadN X0.here hx rfl (hb hby d33_13_28) rfl k) ?_
    show OGo p e below _ s₁ (mkF m 29 #[.val (.int (Jvm.Free.SBG.negI (n))), .val (.int (0 : Int32)), .val (.int (-1000 : Int32)), .val (.int (3 : Int32))] [(.int (0 : Int32)), (.int (3 : Int32))])
    refine os (fun _ k => XS.iadd X0.here hx rfl (hb hby d33_13_29) rfl k) ?_
    show OGo p e below _ s₁ (mkF m 30 #[.val (.int (Jvm.Free.SBG.negI (n))), .val (.int (0 : Int32)), .val (.int (-1000 : Int32)), .val (.int (3 : Int32))] [(.int ((3 : Int32) + (0 : Int32)))])
    exact OGo.ret X0 hx (t := .int) hret hlk rfl (Or.inl ⟨rfl, by simp, _, rfl⟩) (hb hby d33_13_30) (by decide) (by decide) ⟨by rw [show own_w n = 3 from (by unfold own_w; (repeat' split) <;> omega)]; rfl, rfl, e0⟩
  refine os (fun _ k => XS.icmpYes X0.here hx rfl (pc0 := 24) (pc' := 31) rfl (hb hby d33_13_24) rfl (flt (fun h => q3 (c3.mp h))).2.2.2 (by decide) (by decide) k) ?_
  show OGo p e below _ s₁ (mkF m 31 #[.val (.int (Jvm.Free.SBG.negI (n))), .val (.int (0 : Int32)), .val (.int (-1000 : Int32)), .val (.int (3 : Int32))] [])
  refine os (fun _ k => XS.bipush X0.here hx rfl (hb hby d33_13_31) k) ?_
  show OGo p e below _ s₁ (mkF m 33 #[.val (.int (Jvm.Free.SBG.negI (n))), .val (.int (0 : Int32)), .val (.int (-1000 : Int32)), .val (.int (3 : Int32))] [(.int (10 : Int32))])
  refine os (fun _ k => XS.iloadN X0.here hx rfl (hb hby d33_13_33) rfl k) ?_
  show OGo p e below _ s₁ (mkF m 34 #[.val (.int (Jvm.Free.SBG.negI (n))), .val (.int (0 : Int32)), .val (.int (-1000 : Int32)), .val (.int (3 : Int32))] [(.int (-1000 : Int32)), (.int (10 : Int32))])
  refine os (fun _ k => XS.imul X0.here hx rfl (hb hby d33_13_34) rfl k) ?_
  show OGo p e below _ s₁ (mkF m 35 #[.val (.int (Jvm.Free.SBG.negI (n))), .val (.int (0 : Int32)), .val (.int (-1000 : Int32)), .val (.int (3 : Int32))] [(.int ((10 : Int32) * (-1000 : Int32)))])
  rw [show ((10 : Int32) * (-1000 : Int32)) = (-10000 : Int32) from by decide]
  show OGo p e below _ s₁ (mkF m 35 #[.val (.int (Jvm.Free.SBG.negI (n))), .val (.int (0 : Int32)), .val (.int (-1000 : Int32)), .val (.int (3 : Int32))] [(.int (-10000 : Int32))])
  refine os (fun _ k => XS.istoreN X0.here hx rfl (hb hby d33_13_35) rfl (l' := #[.val (.int (Jvm.Free.SBG.negI (n))), .val (.int (0 : Int32)), .val (.int (-10000 : Int32)), .val (.int (3 : Int32))]) rfl k) ?_
  show OGo p e below _ s₁ (mkF m 36 #[.val (.int (Jvm.Free.SBG.negI (n))), .val (.int (0 : Int32)), .val (.int (-10000 : Int32)), .val (.int (3 : Int32))] [])
  refine os (fun _ k => XS.iinc X0.here hx rfl (hb hby d33_13_36) rfl (l' := #[.val (.int (Jvm.Free.SBG.negI (n))), .val (.int (0 : Int32)), .val (.int (-10000 : Int32)), .val (.int ((3 : Int32) + (1 : Int32)))]) rfl k) ?_
  show OGo p e below _ s₁ (mkF m 39 #[.val (.int (Jvm.Free.SBG.negI (n))), .val (.int (0 : Int32)), .val (.int (-10000 : Int32)), .val (.int ((3 : Int32) + (1 : Int32)))] [])
  rw [show ((3 : Int32) + (1 : Int32)) = (4 : Int32) from by decide]
  show OGo p e below _ s₁ (mkF m 39 #[.val (.int (Jvm.Free.SBG.negI (n))), .val (.int (0 : Int32)), .val (.int (-10000 : Int32)), .val (.int (4 : Int32))] [])
  refine os (fun _ k => XS.goto X0.here hx rfl (pc0 := 39) (pc' := 16) rfl (hb hby d33_13_39) (by decide) (by decide) k) ?_
  show OGo p e below _ s₁ (mkF m 16 #[.val (.int (Jvm.Free.SBG.negI (n))), .val (.int (0 : Int32)), .val (.int (-10000 : Int32)), .val (.int (4 : Int32))] [])
  refine os (fun _ k => XS.iloadN X0.here hx rfl (hb hby d33_13_16) rfl k) ?_
  show OGo p e below _ s₁ (mkF m 17 #[.val (.int (Jvm.Free.SBG.negI (n))), .val (.int (0 : Int32)), .val (.int (-10000 : Int32)), .val (.int (4 : Int32))] [(.int (4 : Int32))])
  refine os (fun _ k => XS.bipush X0.here hx rfl (hb hby d33_13_17) k) ?_
  show OGo p e below _ s₁ (mkF m 19 #[.val (.int (Jvm.Free.SBG.negI (n))), .val (.int (0 : Int32)), .val (.int (-10000 : Int32)), .val (.int (4 : Int32))] [(.int (10 : Int32)), (.int (4 : Int32))])
  refine os (fun _ k => XS.icmpNo X0.here hx rfl (hb hby d33_13_19) rfl (tlt (by decide : (4 : Int32) < 10)).2.1 k) ?_
  show OGo p e below _ s₁ (mkF m 22 #[.val (.int (Jvm.Free.SBG.negI (n))), .val (.int (0 : Int32)), .val (.int (-10000 : Int32)), .val (.int (4 : Int32))] [])
  refine os (fun _ k => XS.iloadN X0.here hx rfl (hb hby d33_13_22) rfl k) ?_
  show OGo p e below _ s₁ (mkF m 23 #[.val (.int (Jvm.Free.SBG.negI (n))), .val (.int (0 : Int32)), .val (.int (-10000 : Int32)), .val (.int (4 : Int32))] [(.int (Jvm.Free.SBG.negI (n)))])
  refine os (fun _ k => XS.iloadN X0.here hx rfl (hb hby d33_13_23) rfl k) ?_
  show OGo p e below _ s₁ (mkF m 24 #[.val (.int (Jvm.Free.SBG.negI (n))), .val (.int (0 : Int32)), .val (.int (-10000 : Int32)), .val (.int (4 : Int32))] [(.int (-10000 : Int32)), (.int (Jvm.Free.SBG.negI (n)))])
  have c4 := Jvm.Free.SBG.negI_lt hn2 10000 (by decide)
  rw [show Jvm.Free.SBG.negI 10000 = (-10000 : Int32) from by decide +kernel] at c4
  by_cases q4 : n < 10000
  case pos =>
    refine os (fun _ k => XS.icmpNo X0.here hx rfl (hb hby d33_13_24) rfl (tlt (c4.mpr q4)).2.2.2 k) ?_
    show OGo p e below _ s₁ (mkF m 27 #[.val (.int (Jvm.Free.SBG.negI (n))), .val (.int (0 : Int32)), .val (.int (-10000 : Int32)), .val (.int (4 : Int32))] [])
    refine os (fun _ k => XS.iloadN X0.here hx rfl (hb hby d33_13_27) rfl k) ?_
    show OGo p e below _ s₁ (mkF m 28 #[.val (.int (Jvm.Free.SBG.negI (n))), .val (.int (0 : Int32)), .val (.int (-10000 : Int32)), .val (.int (4 : Int32))] [(.int (4 : Int32))])
    refine os (fun _ k => XS.iloadN X0.here hx rfl (hb hby d33_13_28) rfl k) ?_
    show OGo p e below _ s₁ (mkF m 29 #[.val (.int (Jvm.Free.SBG.negI (n))), .val (.int (0 : Int32)), .val (.int (-10000 : Int32)), .val (.int (4 : Int32))] [(.int (0 : Int32)), (.int (4 : Int32))])
    refine os (fun _ k => XS.iadd X0.here hx rfl (hb hby d33_13_29) rfl k) ?_
    show OGo p e below _ s₁ (mkF m 30 #[.val (.int (Jvm.Free.SBG.negI (n))), .val (.int (0 : Int32)), .val (.int (-10000 : Int32)), .val (.int (4 : Int32))] [(.int ((4 : Int32) + (0 : Int32)))])
    exact OGo.ret X0 hx (t := .int) hret hlk rfl (Or.inl ⟨rfl, by simp, _, rfl⟩) (hb hby d33_13_30) (by decide) (by decide) ⟨by rw [show own_w n = 4 from (by unfold own_w; (repeat' split) <;> omega)]; rfl, rfl, e0⟩
  refine os (fun _ k => XS.icmpYes X0.here hx rfl (pc0 := 24) (pc' := 31) rfl (hb hby d33_13_24) rfl (flt (fun h => q4 (c4.mp h))).2.2.2 (by decide) (by decide) k) ?_
  show OGo p e below _ s₁ (mkF m 31 #[.val (.int (Jvm.Free.SBG.negI (n))), .val (.int (0 : Int32)), .val (.int (-10000 : Int32)), .val (.int (4 : Int32))] [])
  refine os (fun _ k => XS.bipush X0.here hx rfl (hb hby d33_13_31) k) ?_
  show OGo p e below _ s₁ (mkF m 33 #[.val (.int (Jvm.Free.SBG.negI (n))), .val (.int (0 : Int32)), .val (.int (-10000 : Int32)), .val (.int (4 : Int32))] [(.int (10 : Int32))])
  refine os (fun _ k => XS.iloadN X0.here hx rfl (hb hby d33_13_33) rfl k) ?_
  show OGo p e below _ s₁ (mkF m 34 #[.val (.int (Jvm.Free.SBG.negI (n))), .val (.int (0 : Int32)), .val (.int (-10000 : Int32)), .val (.int (4 : Int32))] [(.int (-10000 : Int32)), (.int (10 : Int32))])
  refine os (fun _ k => XS.imul X0.here hx rfl (hb hby d33_13_34) rfl k) ?_
  show OGo p e below _ s₁ (mkF m 35 #[.val (.int (Jvm.Free.SBG.negI (n))), .val (.int (0 : Int32)), .val (.int (-10000 : Int32)), .val (.int (4 : Int32))] [(.int ((10 : Int32) * (-10000 : Int32)))])
  rw [show ((10 : Int32) * (-10000 : Int32)) = (-100000 : Int32) from by decide]
  show OGo p e below _ s₁ (mkF m 35 #[.val (.int (Jvm.Free.SBG.negI (n))), .val (.int (0 : Int32)), .val (.int (-10000 : Int32)), .val (.int (4 : Int32))] [(.int (-100000 : Int32))])
  refine os (fun _ k => XS.istoreN X0.here hx rfl (hb hby d33_13_35) rfl (l' := #[.val (.int (Jvm.Free.SBG.negI (n))), .val (.int (0 : Int32)), .val (.int (-100000 : Int32)), .val (.int (4 : Int32))]) rfl k) ?_
  show OGo p e below _ s₁ (mkF m 36 #[.val (.int (Jvm.Free.SBG.negI (n))), .val (.int (0 : Int32)), .val (.int (-100000 : Int32)), .val (.int (4 : Int32))] [])
  refine os (fun _ k => XS.iinc X0.here hx rfl (hb hby d33_13_36) rfl (l' := #[.val (.int (Jvm.Free.SBG.negI (n))), .val (.int (0 : Int32)), .val (.int (-100000 : Int32)), .val (.int ((4 : Int32) + (1 : Int32)))]) rfl k) ?_
  show OGo p e below _ s₁ (mkF m 39 #[.val (.int (Jvm.Free.SBG.negI (n))), .val (.int (0 : Int32)), .val (.int (-100000 : Int32)), .val (.int ((4 : Int32) + (1 : Int32)))] [])
  rw [show ((4 : Int32) + (1 : Int32)) = (5 : Int32) from by decide]
  show OGo p e below _ s₁ (mkF m 39 #[.val (.int (Jvm.Free.SBG.negI (n))), .val (.int (0 : Int32)), .val (.int (-100000 : Int32)), .val (.int (5 : Int32))] [])
  refine os (fun _ k => XS.goto X0.here hx rfl (pc0 := 39) (pc' := 16) rfl (hb hby d33_13_39) (by decide) (by decide) k) ?_
  show OGo p e below _ s₁ (mkF m 16 #[.val (.int (Jvm.Free.SBG.negI (n))), .val (.int (0 : Int32)), .val (.int (-100000 : Int32)), .val (.int (5 : Int32))] [])
  refine os (fun _ k => XS.iloadN X0.here hx rfl (hb hby d33_13_16) rfl k) ?_
  show OGo p e below _ s₁ (mkF m 17 #[.val (.int (Jvm.Free.SBG.negI (n))), .val (.int (0 : Int32)), .val (.int (-100000 : Int32)), .val (.int (5 : Int32))] [(.int (5 : Int32))])
  refine os (fun _ k => XS.bipush X0.here hx rfl (hb hby d33_13_17) k) ?_
  show OGo p e below _ s₁ (mkF m 19 #[.val (.int (Jvm.Free.SBG.negI (n))), .val (.int (0 : Int32)), .val (.int (-100000 : Int32)), .val (.int (5 : Int32))] [(.int (10 : Int32)), (.int (5 : Int32))])
  refine os (fun _ k => XS.icmpNo X0.here hx rfl (hb hby d33_13_19) rfl (tlt (by decide : (5 : Int32) < 10)).2.1 k) ?_
  show OGo p e below _ s₁ (mkF m 22 #[.val (.int (Jvm.Free.SBG.negI (n))), .val (.int (0 : Int32)), .val (.int (-100000 : Int32)), .val (.int (5 : Int32))] [])
  refine os (fun _ k => XS.iloadN X0.here hx rfl (hb hby d33_13_22) rfl k) ?_
  show OGo p e below _ s₁ (mkF m 23 #[.val (.int (Jvm.Free.SBG.negI (n))), .val (.int (0 : Int32)), .val (.int (-100000 : Int32)), .val (.int (5 : Int32))] [(.int (Jvm.Free.SBG.negI (n)))])
  refine os (fun _ k => XS.iloadN X0.here hx rfl (hb hby d33_13_23) rfl k) ?_
  show OGo p e below _ s₁ (mkF m 24 #[.val (.int (Jvm.Free.SBG.negI (n))), .val (.int (0 : Int32)), .val (.int (-100000 : Int32)), .val (.int (5 : Int32))] [(.int (-100000 : Int32)), (.int (Jvm.Free.SBG.negI (n)))])
  have c5 := Jvm.Free.SBG.negI_lt hn2 100000 (by decide)
  rw [show Jvm.Free.SBG.negI 100000 = (-100000 : Int32) from by decide +kernel] at c5
  by_cases q5 : n < 100000
  case pos =>
    refine os (fun _ k => XS.icmpNo X0.here hx rfl (hb hby d33_13_24) rfl (tlt (c5.mpr q5)).2.2.2 k) ?_
    show OGo p e below _ s₁ (mkF m 27 #[.val (.int (Jvm.Free.SBG.negI (n))), .val (.int (0 : Int32)), .val (.int (-100000 : Int32)), .val (.int (5 : Int32))] [])
    refine os (fun _ k => XS.iloadN X0.here hx rfl (hb hby d33_13_27) rfl k) ?_
    show OGo p e below _ s₁ (mkF m 28 #[.val (.int (Jvm.Free.SBG.negI (n))), .val (.int (0 : Int32)), .val (.int (-100000 : Int32)), .val (.int (5 : Int32))] [(.int (5 : Int32))])
    refine os (fun _ k => XS.iloadN X0.here hx rfl (hb hby d33_13_28) rfl k) ?_
    show OGo p e below _ s₁ (mkF m 29 #[.val (.int (Jvm.Free.SBG.negI (n))), .val (.int (0 : Int32)), .val (.int (-100000 : Int32)), .val (.int (5 : Int32))] [(.int (0 : Int32)), (.int (5 : Int32))])
    refine os (fun _ k => XS.iadd X0.here hx rfl (hb hby d33_13_29) rfl k) ?_
    show OGo p e below _ s₁ (mkF m 30 #[.val (.int (Jvm.Free.SBG.negI (n))), .val (.int (0 : Int32)), .val (.int (-100000 : Int32)), .val (.int (5 : Int32))] [(.int ((5 : Int32) + (0 : Int32)))])
    exact OGo.ret X0 hx (t := .int) hret hlk rfl (Or.inl ⟨rfl, by simp, _, rfl⟩) (hb hby d33_13_30) (by decide) (by decide) ⟨by rw [show own_w n = 5 from (by unfold own_w; (repeat' split) <;> omega)]; rfl, rfl, e0⟩
  refine os (fun _ k => XS.icmpYes X0.here hx rfl (pc0 := 24) (pc' := 31) rfl (hb hby d33_13_24) rfl (flt (fun h => q5 (c5.mp h))).2.2.2 (by decide) (by decide) k) ?_
  show OGo p e below _ s₁ (mkF m 31 #[.val (.int (Jvm.Free.SBG.negI (n))), .val (.int (0 : Int32)), .val (.int (-100000 : Int32)), .val (.int (5 : Int32))] [])
  refine os (fun _ k => XS.bipush X0.here hx rfl (hb hby d33_13_31) k) ?_
  show OGo p e below _ s₁ (mkF m 33 #[.val (.int (Jvm.Free.SBG.negI (n))), .val (.int (0 : Int32)), .val (.int (-100000 : Int32)), .val (.int (5 : Int32))] [(.int (10 : Int32))])
  refine os (fun _ k => XS.iloadN X0.here hx rfl (hb hby d33_13_33) rfl k) ?_
  show OGo p e below _ s₁ (mkF m 34 #[.val (.int (Jvm.Free.SBG.negI (n))), .val (.int (0 : Int32)), .val (.int (-100000 : Int32)), .val (.int (5 : Int32))] [(.int (-100000 : Int32)), (.int (10 : Int32))])
  refine os (fun _ k => XS.imul X0.here hx rfl (hb hby d33_13_34) rfl k) ?_
  show OGo p e below _ s₁ (mkF m 35 #[.val (.int (Jvm.Free.SBG.negI (n))), .val (.int (0 : Int32)), .val (.int (-100000 : Int32)), .val (.int (5 : Int32))] [(.int ((10 : Int32) * (-100000 : Int32)))])
  rw [show ((10 : Int32) * (-100000 : Int32)) = (-1000000 : Int32) from by decide]
  show OGo p e below _ s₁ (mkF m 35 #[.val (.int (Jvm.Free.SBG.negI (n))), .val (.int (0 : Int32)), .val (.int (-100000 : Int32)), .val (.int (5 : Int32))] [(.int (-1000000 : Int32))])
  refine os (fun _ k => XS.istoreN X0.here hx rfl (hb hby d33_13_35) rfl (l' := #[.val (.int (Jvm.Free.SBG.negI (n))), .val (.int (0 : Int32)), .val (.int (-1000000 : Int32)), .val (.int (5 : Int32))]) rfl k) ?_
  show OGo p e below _ s₁ (mkF m 36 #[.val (.int (Jvm.Free.SBG.negI (n))), .val (.int (0 : Int32)), .val (.int (-1000000 : Int32)), .val (.int (5 : Int32))] [])
  refine os (fun _ k => XS.iinc X0.here hx rfl (hb hby d33_13_36) rfl (l' := #[.val (.int (Jvm.Free.SBG.negI (n))), .val (.int (0 : Int32)), .val (.int (-1000000 : Int32)), .val (.int ((5 : Int32) + (1 : Int32)))]) rfl k) ?_
  show OGo p e below _ s₁ (mkF m 39 #[.val (.int (Jvm.Free.SBG.negI (n))), .val (.int (0 : Int32)), .val (.int (-1000000 : Int32)), .val (.int ((5 : Int32) + (1 : Int32)))] [])
  rw [show ((5 : Int32) + (1 : Int32)) = (6 : Int32) from by decide]
  show OGo p e below _ s₁ (mkF m 39 #[.val (.int (Jvm.Free.SBG.negI (n))), .val (.int (0 : Int32)), .val (.int (-1000000 : Int32)), .val (.int (6 : Int32))] [])
  refine os (fun _ k => XS.goto X0.here hx rfl (pc0 := 39) (pc' := 16) rfl (hb hby d33_13_39) (by decide) (by decide) k) ?_
  show OGo p e below _ s₁ (mkF m 16 #[.val (.int (Jvm.Free.SBG.negI (n))), .val (.int (0 : Int32)), .val (.int (-1000000 : Int32)), .val (.int (6 : Int32))] [])
  refine os (fun _ k => XS.iloadN X0.here hx rfl (hb hby d33_13_16) rfl k) ?_
  show OGo p e below _ s₁ (mkF m 17 #[.val (.int (Jvm.Free.SBG.negI (n))), .val (.int (0 : Int32)), .val (.int (-1000000 : Int32)), .val (.int (6 : Int32))] [(.int (6 : Int32))])
  refine os (fun _ k => XS.bipush X0.here hx rfl (hb hby d33_13_17) k) ?_
  show OGo p e below _ s₁ (mkF m 19 #[.val (.int (Jvm.Free.SBG.negI (n))), .val (.int (0 : Int32)), .val (.int (-1000000 : Int32)), .val (.int (6 : Int32))] [(.int (10 : Int32)), (.int (6 : Int32))])
  refine os (fun _ k => XS.icmpNo X0.here hx rfl (hb hby d33_13_19) rfl (tlt (by decide : (6 : Int32) < 10)).2.1 k) ?_
  show OGo p e below _ s₁ (mkF m 22 #[.val (.int (Jvm.Free.SBG.negI (n))), .val (.int (0 : Int32)), .val (.int (-1000000 : Int32)), .val (.int (6 : Int32))] [])
  refine os (fun _ k => XS.iloadN X0.here hx rfl (hb hby d33_13_22) rfl k) ?_
  show OGo p e below _ s₁ (mkF m 23 #[.val (.int (Jvm.Free.SBG.negI (n))), .val (.int (0 : Int32)), .val (.int (-1000000 : Int32)), .val (.int (6 : Int32))] [(.int (Jvm.Free.SBG.negI (n)))])
  refine os (fun _ k => XS.iloadN X0.here hx rfl (hb hby d33_13_23) rfl k) ?_
  show OGo p e below _ s₁ (mkF m 24 #[.val (.int (Jvm.Free.SBG.negI (n))), .val (.int (0 : Int32)), .val (.int (-1000000 : Int32)), .val (.int (6 : Int32))] [(.int (-1000000 : Int32)), (.int (Jvm.Free.SBG.negI (n)))])
  have c6 := Jvm.Free.SBG.negI_lt hn2 1000000 (by decide)
  rw [show Jvm.Free.SBG.negI 1000000 = (-1000000 : Int32) from by decide +kernel] at c6
  by_cases q6 : n < 1000000
  case pos =>
    refine os (fun _ k => XS.icmpNo X0.here hx rfl (hb hby d33_13_24) rfl (tlt (c6.mpr q6)).2.2.2 k) ?_
    show OGo p e below _ s₁ (mkF m 27 #[.val (.int (Jvm.Free.SBG.negI (n))), .val (.int (0 : Int32)), .val (.int (-1000000 : Int32)), .val (.int (6 : Int32))] [])
    refine os (fun _ k => XS.iloadN X0.here hx rfl (hb hby d33_13_27) rfl k) ?_
    show OGo p e below _ s₁ (mkF m 28 #[.val (.int (Jvm.Free.SBG.negI (n))), .val (.int (0 : Int32)), .val (.int (-1000000 : Int32)), .val (.int (6 : Int32))] [(.int (6 : Int32))])
    refine os (fun _ k => XS.iloadN X0.here hx rfl (hb hby d33_13_28) rfl k) ?_
    show OGo p e below _ s₁ (mkF m 29 #[.val (.int (Jvm.Free.SBG.negI (n))), .val (.int (0 : Int32)), .val (.int (-1000000 : Int32)), .val (.int (6 : Int32))] [(.int (0 : Int32)), (.int (6 : Int32))])
    refine os (fun _ k => XS.iadd X0.here hx rfl (hb hby d33_13_29) rfl k) ?_
    show OGo p e below _ s₁ (mkF m 30 #[.val (.int (Jvm.Free.SBG.negI (n))), .val (.int (0 : Int32)), .val (.int (-1000000 : Int32)), .val (.int (6 : Int32))] [(.int ((6 : Int32) + (0 : Int32)))])
    exact OGo.ret X0 hx (t := .int) hret hlk rfl (Or.inl ⟨rfl, by simp, _, rfl⟩) (hb hby d33_13_30) (by decide) (by decide) ⟨by rw [show own_w n = 6 from (by unfold own_w; (repeat' split) <;> omega)]; rfl, rfl, e0⟩
  refine os (fun _ k => XS.icmpYes X0.here hx rfl (pc0 := 24) (pc' := 31) rfl (hb hby d33_13_24) rfl (flt (fun h => q6 (c6.mp h))).2.2.2 (by decide) (by decide) k) ?_
  show OGo p e below _ s₁ (mkF m 31 #[.val (.int (Jvm.Free.SBG.negI (n))), .val (.int (0 : Int32)), .val (.int (-1000000 : Int32)), .val (.int (6 : Int32))] [])
  refine os (fun _ k => XS.bipush X0.here hx rfl (hb hby d33_13_31) k) ?_
  show OGo p e below _ s₁ (mkF m 33 #[.val (.int (Jvm.Free.SBG.negI (n))), .val (.int (0 : Int32)), .val (.int (-1000000 : Int32)), .val (.int (6 : Int32))] [(.int (10 : Int32))])
  refine os (fun _ k => XS.iloadN X0.here hx rfl (hb hby d33_13_33) rfl k) ?_
  show OGo p e below _ s₁ (mkF m 34 #[.val (.int (Jvm.Free.SBG.negI (n))), .val (.int (0 : Int32)), .val (.int (-1000000 : Int32)), .val (.int (6 : Int32))] [(.int (-1000000 : Int32)), (.int (10 : Int32))])
  refine os (fun _ k => XS.imul X0.here hx rfl (hb hby d33_13_34) rfl k) ?_
  show OGo p e below _ s₁ (mkF m 35 #[.val (.int (Jvm.Free.SBG.negI (n))), .val (.int (0 : Int32)), .val (.int (-1000000 : Int32)), .val (.int (6 : Int32))] [(.int ((10 : Int32) * (-1000000 : Int32)))])
  rw [show ((10 : Int32) * (-1000000 : Int32)) = (-10000000 : Int32) from by decide]
  show OGo p e below _ s₁ (mkF m 35 #[.val (.int (Jvm.Free.SBG.negI (n))), .val (.int (0 : Int32)), .val (.int (-1000000 : Int32)), .val (.int (6 : Int32))] [(.int (-10000000 : Int32))])
  refine os (fun _ k => XS.istoreN X0.here hx rfl (hb hby d33_13_35) rfl (l' := #[.val (.int (Jvm.Free.SBG.negI (n))), .val (.int (0 : Int32)), .val (.int (-10000000 : Int32)), .val (.int (6 : Int32))]) rfl k) ?_
  show OGo p e below _ s₁ (mkF m 36 #[.val (.int (Jvm.Free.SBG.negI (n))), .val (.int (0 : Int32)), .val (.int (-10000000 : Int32)), .val (.int (6 : Int32))] [])
  refine os (fun _ k => XS.iinc X0.here hx rfl (hb hby d33_13_36) rfl (l' := #[.val (.int (Jvm.Free.SBG.negI (n))), .val (.int (0 : Int32)), .val (.int (-10000000 : Int32)), .val (.int ((6 : Int32) + (1 : Int32)))]) rfl k) ?_
  show OGo p e below _ s₁ (mkF m 39 #[.val (.int (Jvm.Free.SBG.negI (n))), .val (.int (0 : Int32)), .val (.int (-10000000 : Int32)), .val (.int ((6 : Int32) + (1 : Int32)))] [])
  rw [show ((6 : Int32) + (1 : Int32)) = (7 : Int32) from by decide]
  show OGo p e below _ s₁ (mkF m 39 #[.val (.int (Jvm.Free.SBG.negI (n))), .val (.int (0 : Int32)), .val (.int (-10000000 : Int32)), .val (.int (7 : Int32))] [])
  refine os (fun _ k => XS.goto X0.here hx rfl (pc0 := 39) (pc' := 16) rfl (hb hby d33_13_39) (by decide) (by decide) k) ?_
  show OGo p e below _ s₁ (mkF m 16 #[.val (.int (Jvm.Free.SBG.negI (n))), .val (.int (0 : Int32)), .val (.int (-10000000 : Int32)), .val (.int (7 : Int32))] [])
  refine os (fun _ k => XS.iloadN X0.here hx rfl (hb hby d33_13_16) rfl k) ?_
  show OGo p e below _ s₁ (mkF m 17 #[.val (.int (Jvm.Free.SBG.negI (n))), .val (.int (0 : Int32)), .val (.int (-10000000 : Int32)), .val (.int (7 : Int32))] [(.int (7 : Int32))])
  refine os (fun _ k => XS.bipush X0.here hx rfl (hb hby d33_13_17) k) ?_
  show OGo p e below _ s₁ (mkF m 19 #[.val (.int (Jvm.Free.SBG.negI (n))), .val (.int (0 : Int32)), .val (.int (-10000000 : Int32)), .val (.int (7 : Int32))] [(.int (10 : Int32)), (.int (7 : Int32))])
  refine os (fun _ k => XS.icmpNo X0.here hx rfl (hb hby d33_13_19) rfl (tlt (by decide : (7 : Int32) < 10)).2.1 k) ?_
  show OGo p e below _ s₁ (mkF m 22 #[.val (.int (Jvm.Free.SBG.negI (n))), .val (.int (0 : Int32)), .val (.int (-10000000 : Int32)), .val (.int (7 : Int32))] [])
  refine os (fun _ k => XS.iloadN X0.here hx rfl (hb hby d33_13_22) rfl k) ?_
  show OGo p e below _ s₁ (mkF m 23 #[.val (.int (Jvm.Free.SBG.negI (n))), .val (.int (0 : Int32)), .val (.int (-10000000 : Int32)), .val (.int (7 : Int32))] [(.int (Jvm.Free.SBG.negI (n)))])
  refine os (fun _ k => XS.iloadN X0.here hx rfl (hb hby d33_13_23) rfl k) ?_
  show OGo p e below _ s₁ (mkF m 24 #[.val (.int (Jvm.Free.SBG.negI (n))), .val (.int (0 : Int32)), .val (.int (-10000000 : Int32)), .val (.int (7 : Int32))] [(.int (-10000000 : Int32)), (.int (Jvm.Free.SBG.negI (n)))])
  have c7 := Jvm.Free.SBG.negI_lt hn2 10000000 (by decide)
  rw [show Jvm.Free.SBG.negI 10000000 = (-10000000 : Int32) from by decide +kernel] at c7
  by_cases q7 : n < 10000000
  case pos =>
    refine os (fun _ k => XS.icmpNo X0.here hx rfl (hb hby d33_13_24) rfl (tlt (c7.mpr q7)).2.2.2 k) ?_
    show OGo p e below _ s₁ (mkF m 27 #[.val (.int (Jvm.Free.SBG.negI (n))), .val (.int (0 : Int32)), .val (.int (-10000000 : Int32)), .val (.int (7 : Int32))] [])
    refine os (fun _ k => XS.iloadN X0.here hx rfl (hb hby d33_13_27) rfl k) ?_
    show OGo p e below _ s₁ (mkF m 28 #[.val (.int (Jvm.Free.SBG.negI (n))), .val (.int (0 : Int32)), .val (.int (-10000000 : Int32)), .val (.int (7 : Int32))] [(.int (7 : Int32))])
    refine os (fun _ k => XS.iloadN X0.here hx rfl (hb hby d33_13_28) rfl k) ?_
    show OGo p e below _ s₁ (mkF m 29 #[.val (.int (Jvm.Free.SBG.negI (n))), .val (.int (0 : Int32)), .val (.int (-10000000 : Int32)), .val (.int (7 : Int32))] [(.int (0 : Int32)), (.int (7 : Int32))])
    refine os (fun _ k => XS.iadd X0.here hx rfl (hb hby d33_13_29) rfl k) ?_
    show OGo p e below _ s₁ (mkF m 30 #[.val (.int (Jvm.Free.SBG.negI (n))), .val (.int (0 : Int32)), .val (.int (-10000000 : Int32)), .val (.int (7 : Int32))] [(.int ((7 : Int32) + (0 : Int32)))])
    exact OGo.ret X0 hx (t := .int) hret hlk rfl (Or.inl ⟨rfl, by simp, _, rfl⟩) (hb hby d33_13_30) (by decide) (by decide) ⟨by rw [show own_w n = 7 from (by unfold own_w; (repeat' split) <;> omega)]; rfl, rfl, e0⟩
  refine os (fun _ k => XS.icmpYes X0.here hx rfl (pc0 := 24) (pc' := 31) rfl (hb hby d33_13_24) rfl (flt (fun h => q7 (c7.mp h))).2.2.2 (by decide) (by decide) k) ?_
  show OGo p e below _ s₁ (mkF m 31 #[.val (.int (Jvm.Free.SBG.negI (n))), .val (.int (0 : Int32)), .val (.int (-10000000 : Int32)), .val (.int (7 : Int32))] [])
  refine os (fun _ k => XS.bipush X0.here hx rfl (hb hby d33_13_31) k) ?_
  show OGo p e below _ s₁ (mkF m 33 #[.val (.int (Jvm.Free.SBG.negI (n))), .val (.int (0 : Int32)), .val (.int (-10000000 : Int32)), .val (.int (7 : Int32))] [(.int (10 : Int32))])
  refine os (fun _ k => XS.iloadN X0.here hx rfl (hb hby d33_13_33) rfl k) ?_
  show OGo p e below _ s₁ (mkF m 34 #[.val (.int (Jvm.Free.SBG.negI (n))), .val (.int (0 : Int32)), .val (.int (-10000000 : Int32)), .val (.int (7 : Int32))] [(.int (-10000000 : Int32)), (.int (10 : Int32))])
  refine os (fun _ k => XS.imul X0.here hx rfl (hb hby d33_13_34) rfl k) ?_
  show OGo p e below _ s₁ (mkF m 35 #[.val (.int (Jvm.Free.SBG.negI (n))), .val (.int (0 : Int32)), .val (.int (-10000000 : Int32)), .val (.int (7 : Int32))] [(.int ((10 : Int32) * (-10000000 : Int32)))])
  rw [show ((10 : Int32) * (-10000000 : Int32)) = (-100000000 : Int32) from by decide]
  show OGo p e below _ s₁ (mkF m 35 #[.val (.int (Jvm.Free.SBG.negI (n))), .val (.int (0 : Int32)), .val (.int (-10000000 : Int32)), .val (.int (7 : Int32))] [(.int (-100000000 : Int32))])
  refine os (fun _ k => XS.istoreN X0.here hx rfl (hb hby d33_13_35) rfl (l' := #[.val (.int (Jvm.Free.SBG.negI (n))), .val (.int (0 : Int32)), .val (.int (-100000000 : Int32)), .val (.int (7 : Int32))]) rfl k) ?_
  show OGo p e below _ s₁ (mkF m 36 #[.val (.int (Jvm.Free.SBG.negI (n))), .val (.int (0 : Int32)), .val (.int (-100000000 : Int32)), .val (.int (7 : Int32))] [])
  refine os (fun _ k => XS.iinc X0.here hx rfl (hb hby d33_13_36) rfl (l' := #[.val (.int (Jvm.Free.SBG.negI (n))), .val (.int (0 : Int32)), .val (.int (-100000000 : Int32)), .val (.int ((7 : Int32) + (1 : Int32)))]) rfl k) ?_
  show OGo p e below _ s₁ (mkF m 39 #[.val (.int (Jvm.Free.SBG.negI (n))), .val (.int (0 : Int32)), .val (.int (-100000000 : Int32)), .val (.int ((7 : Int32) + (1 : Int32)))] [])
  rw [show ((7 : Int32) + (1 : Int32)) = (8 : Int32) from by decide]
  show OGo p e below _ s₁ (mkF m 39 #[.val (.int (Jvm.Free.SBG.negI (n))), .val (.int (0 : Int32)), .val (.int (-100000000 : Int32)), .val (.int (8 : Int32))] [])
  refine os (fun _ k => XS.goto X0.here hx rfl (pc0 := 39) (pc' := 16) rfl (hb hby d33_13_39) (by decide) (by decide) k) ?_
  show OGo p e below _ s₁ (mkF m 16 #[.val (.int (Jvm.Free.SBG.negI (n))), .val (.int (0 : Int32)), .val (.int (-100000000 : Int32)), .val (.int (8 : Int32))] [])
  refine os (fun _ k => XS.iloadN X0.here hx rfl (hb hby d33_13_16) rfl k) ?_
  show OGo p e below _ s₁ (mkF m 17 #[.val (.int (Jvm.Free.SBG.negI (n))), .val (.int (0 : Int32)), .val (.int (-100000000 : Int32)), .val (.int (8 : Int32))] [(.int (8 : Int32))])
  refine os (fun _ k => XS.bipush X0.here hx rfl (hb hby d33_13_17) k) ?_
  show OGo p e below _ s₁ (mkF m 19 #[.val (.int (Jvm.Free.SBG.negI (n))), .val (.int (0 : Int32)), .val (.int (-100000000 : Int32)), .val (.int (8 : Int32))] [(.int (10 : Int32)), (.int (8 : Int32))])
  refine os (fun _ k => XS.icmpNo X0.here hx rfl (hb hby d33_13_19) rfl (tlt (by decide : (8 : Int32) < 10)).2.1 k) ?_
  show OGo p e below _ s₁ (mkF m 22 #[.val (.int (Jvm.Free.SBG.negI (n))), .val (.int (0 : Int32)), .val (.int (-100000000 : Int32)), .val (.int (8 : Int32))] [])
  refine os (fun _ k => XS.iloadN X0.here hx rfl (hb hby d33_13_22) rfl k) ?_
  show OGo p e below _ s₁ (mkF m 23 #[.val (.int (Jvm.Free.SBG.negI (n))), .val (.int (0 : Int32)), .val (.int (-100000000 : Int32)), .val (.int (8 : Int32))] [(.int (Jvm.Free.SBG.negI (n)))])
  refine os (fun _ k => XS.iloadN X0.here hx rfl (hb hby d33_13_23) rfl k) ?_
  show OGo p e below _ s₁ (mkF m 24 #[.val (.int (Jvm.Free.SBG.negI (n))), .val (.int (0 : Int32)), .val (.int (-100000000 : Int32)), .val (.int (8 : Int32))] [(.int (-100000000 : Int32)), (.int (Jvm.Free.SBG.negI (n)))])
  have c8 := Jvm.Free.SBG.negI_lt hn2 100000000 (by decide)
  rw [show Jvm.Free.SBG.negI 100000000 = (-100000000 : Int32) from by decide +kernel] at c8
  by_cases q8 : n < 100000000
  case pos =>
    refine os (fun _ k => XS.icmpNo X0.here hx rfl (hb hby d33_13_24) rfl (tlt (c8.mpr q8)).2.2.2 k) ?_
    show OGo p e below _ s₁ (mkF m 27 #[.val (.int (Jvm.Free.SBG.negI (n))), .val (.int (0 : Int32)), .val (.int (-100000000 : Int32)), .val (.int (8 : Int32))] [])
    refine os (fun _ k => XS.iloadN X0.here hx rfl (hb hby d33_13_27) rfl k) ?_
    show OGo p e below _ s₁ (mkF m 28 #[.val (.int (Jvm.Free.SBG.negI (n))), .val (.int (0 : Int32)), .val (.int (-100000000 : Int32)), .val (.int (8 : Int32))] [(.int (8 : Int32))])
    refine os (fun _ k => XS.iloadN X0.here hx rfl (hb hby d33_13_28) rfl k) ?_
    show OGo p e below _ s₁ (mkF m 29 #[.val (.int (Jvm.Free.SBG.negI (n))), .val (.int (0 : Int32)), .val (.int (-100000000 : Int32)), .val (.int (8 : Int32))] [(.int (0 : Int32)), (.int (8 : Int32))])
    refine os (fun _ k => XS.iadd X0.here hx rfl (hb hby d33_13_29) rfl k) ?_
    show OGo p e below _ s₁ (mkF m 30 #[.val (.int (Jvm.Free.SBG.negI (n))), .val (.int (0 : Int32)), .val (.int (-100000000 : Int32)), .val (.int (8 : Int32))] [(.int ((8 : Int32) + (0 : Int32)))])
    exact OGo.ret X0 hx (t := .int) hret hlk rfl (Or.inl ⟨rfl, by simp, _, rfl⟩) (hb hby d33_13_30) (by decide) (by decide) ⟨by rw [show own_w n = 8 from (by unfold own_w; (repeat' split) <;> omega)]; rfl, rfl, e0⟩
  refine os (fun _ k => XS.icmpYes X0.here hx rfl (pc0 := 24) (pc' := 31) rfl (hb hby d33_13_24) rfl (flt (fun h => q8 (c8.mp h))).2.2.2 (by decide) (by decide) k) ?_
  show OGo p e below _ s₁ (mkF m 31 #[.val (.int (Jvm.Free.SBG.negI (n))), .val (.int (0 : Int32)), .val (.int (-100000000 : Int32)), .val (.int (8 : Int32))] [])
  refine os (fun _ k => XS.bipush X0.here hx rfl (hb hby d33_13_31) k) ?_
  show OGo p e below _ s₁ (mkF m 33 #[.val (.int (Jvm.Free.SBG.negI (n))), .val (.int (0 : Int32)), .val (.int (-100000000 : Int32)), .val (.int (8 : Int32))] [(.int (10 : Int32))])
  refine os (fun _ k => XS.iloadN X0.here hx rfl (hb hby d33_13_33) rfl k) ?_
  show OGo p e below _ s₁ (mkF m 34 #[.val (.int (Jvm.Free.SBG.negI (n))), .val (.int (0 : Int32)), .val (.int (-100000000 : Int32)), .val (.int (8 : Int32))] [(.int (-100000000 : Int32)), (.int (10 : Int32))])
  refine os (fun _ k => XS.imul X0.here hx rfl (hb hby d33_13_34) rfl k) ?_
  show OGo p e below _ s₁ (mkF m 35 #[.val (.int (Jvm.Free.SBG.negI (n))), .val (.int (0 : Int32)), .val (.int (-100000000 : Int32)), .val (.int (8 : Int32))] [(.int ((10 : Int32) * (-100000000 : Int32)))])
  rw [show ((10 : Int32) * (-100000000 : Int32)) = (-1000000000 : Int32) from by decide]
  show OGo p e below _ s₁ (mkF m 35 #[.val (.int (Jvm.Free.SBG.negI (n))), .val (.int (0 : Int32)), .val (.int (-100000000 : Int32)), .val (.int (8 : Int32))] [(.int (-1000000000 : Int32))])
  refine os (fun _ k => XS.istoreN X0.here hx rfl (hb hby d33_13_35) rfl (l' := #[.val (.int (Jvm.Free.SBG.negI (n))), .val (.int (0 : Int32)), .val (.int (-1000000000 : Int32)), .val (.int (8 : Int32))]) rfl k) ?_
  show OGo p e below _ s₁ (mkF m 36 #[.val (.int (Jvm.Free.SBG.negI (n))), .val (.int (0 : Int32)), .val (.int (-1000000000 : Int32)), .val (.int (8 : Int32))] [])
  refine os (fun _ k => XS.iinc X0.here hx rfl (hb hby d33_13_36) rfl (l' := #[.val (.int (Jvm.Free.SBG.negI (n))), .val (.int (0 : Int32)), .val (.int (-1000000000 : Int32)), .val (.int ((8 : Int32) + (1 : Int32)))]) rfl k) ?_
  show OGo p e below _ s₁ (mkF m 39 #[.val (.int (Jvm.Free.SBG.negI (n))), .val (.int (0 : Int32)), .val (.int (-1000000000 : Int32)), .val (.int ((8 : Int32) + (1 : Int32)))] [])
  rw [show ((8 : Int32) + (1 : Int32)) = (9 : Int32) from by decide]
  show OGo p e below _ s₁ (mkF m 39 #[.val (.int (Jvm.Free.SBG.negI (n))), .val (.int (0 : Int32)), .val (.int (-1000000000 : Int32)), .val (.int (9 : Int32))] [])
  refine os (fun _ k => XS.goto X0.here hx rfl (pc0 := 39) (pc' := 16) rfl (hb hby d33_13_39) (by decide) (by decide) k) ?_
  show OGo p e below _ s₁ (mkF m 16 #[.val (.int (Jvm.Free.SBG.negI (n))), .val (.int (0 : Int32)), .val (.int (-1000000000 : Int32)), .val (.int (9 : Int32))] [])
  refine os (fun _ k => XS.iloadN X0.here hx rfl (hb hby d33_13_16) rfl k) ?_
  show OGo p e below _ s₁ (mkF m 17 #[.val (.int (Jvm.Free.SBG.negI (n))), .val (.int (0 : Int32)), .val (.int (-1000000000 : Int32)), .val (.int (9 : Int32))] [(.int (9 : Int32))])
  refine os (fun _ k => XS.bipush X0.here hx rfl (hb hby d33_13_17) k) ?_
  show OGo p e below _ s₁ (mkF m 19 #[.val (.int (Jvm.Free.SBG.negI (n))), .val (.int (0 : Int32)), .val (.int (-1000000000 : Int32)), .val (.int (9 : Int32))] [(.int (10 : Int32)), (.int (9 : Int32))])
  refine os (fun _ k => XS.icmpNo X0.here hx rfl (hb hby d33_13_19) rfl (tlt (by decide : (9 : Int32) < 10)).2.1 k) ?_
  show OGo p e below _ s₁ (mkF m 22 #[.val (.int (Jvm.Free.SBG.negI (n))), .val (.int (0 : Int32)), .val (.int (-1000000000 : Int32)), .val (.int (9 : Int32))] [])
  refine os (fun _ k => XS.iloadN X0.here hx rfl (hb hby d33_13_22) rfl k) ?_
  show OGo p e below _ s₁ (mkF m 23 #[.val (.int (Jvm.Free.SBG.negI (n))), .val (.int (0 : Int32)), .val (.int (-1000000000 : Int32)), .val (.int (9 : Int32))] [(.int (Jvm.Free.SBG.negI (n)))])
  refine os (fun _ k => XS.iloadN X0.here hx rfl (hb hby d33_13_23) rfl k) ?_
  show OGo p e below _ s₁ (mkF m 24 #[.val (.int (Jvm.Free.SBG.negI (n))), .val (.int (0 : Int32)), .val (.int (-1000000000 : Int32)), .val (.int (9 : Int32))] [(.int (-1000000000 : Int32)), (.int (Jvm.Free.SBG.negI (n)))])
  have c9 := Jvm.Free.SBG.negI_lt hn2 1000000000 (by decide)
  rw [show Jvm.Free.SBG.negI 1000000000 = (-1000000000 : Int32) from by decide +kernel] at c9
  by_cases q9 : n < 1000000000
  case pos =>
    refine os (fun _ k => XS.icmpNo X0.here hx rfl (hb hby d33_13_24) rfl (tlt (c9.mpr q9)).2.2.2 k) ?_
    show OGo p e below _ s₁ (mkF m 27 #[.val (.int (Jvm.Free.SBG.negI (n))), .val (.int (0 : Int32)), .val (.int (-1000000000 : Int32)), .val (.int (9 : Int32))] [])
    refine os (fun _ k => XS.iloadN X0.here hx rfl (hb hby d33_13_27) rfl k) ?_
    show OGo p e below _ s₁ (mkF m 28 #[.val (.int (Jvm.Free.SBG.negI (n))), .val (.int (0 : Int32)), .val (.int (-1000000000 : Int32)), .val (.int (9 : Int32))] [(.int (9 : Int32))])
    refine os (fun _ k => XS.iloadN X0.here hx rfl (hb hby d33_13_28) rfl k) ?_
    show OGo p e below _ s₁ (mkF m 29 #[.val (.int (Jvm.Free.SBG.negI (n))), .val (.int (0 : Int32)), .val (.int (-1000000000 : Int32)), .val (.int (9 : Int32))] [(.int (0 : Int32)), (.int (9 : Int32))])
    refine os (fun _ k => XS.iadd X0.here hx rfl (hb hby d33_13_29) rfl k) ?_
    show OGo p e below _ s₁ (mkF m 30 #[.val (.int (Jvm.Free.SBG.negI (n))), .val (.int (0 : Int32)), .val (.int (-1000000000 : Int32)), .val (.int (9 : Int32))] [(.int ((9 : Int32) + (0 : Int32)))])
    exact OGo.ret X0 hx (t := .int) hret hlk rfl (Or.inl ⟨rfl, by simp, _, rfl⟩) (hb hby d33_13_30) (by decide) (by decide) ⟨by rw [show own_w n = 9 from (by unfold own_w; (repeat' split) <;> omega)]; rfl, rfl, e0⟩
  refine os (fun _ k => XS.icmpYes X0.here hx rfl (pc0 := 24) (pc' := 31) rfl (hb hby d33_13_24) rfl (flt (fun h => q9 (c9.mp h))).2.2.2 (by decide) (by decide) k) ?_
  show OGo p e below _ s₁ (mkF m 31 #[.val (.int (Jvm.Free.SBG.negI (n))), .val (.int (0 : Int32)), .val (.int (-1000000000 : Int32)), .val (.int (9 : Int32))] [])
  refine os (fun _ k => XS.bipush X0.here hx rfl (hb hby d33_13_31) k) ?_
  show OGo p e below _ s₁ (mkF m 33 #[.val (.int (Jvm.Free.SBG.negI (n))), .val (.int (0 : Int32)), .val (.int (-1000000000 : Int32)), .val (.int (9 : Int32))] [(.int (10 : Int32))])
  refine os (fun _ k => XS.iloadN X0.here hx rfl (hb hby d33_13_33) rfl k) ?_
  show OGo p e below _ s₁ (mkF m 34 #[.val (.int (Jvm.Free.SBG.negI (n))), .val (.int (0 : Int32)), .val (.int (-1000000000 : Int32)), .val (.int (9 : Int32))] [(.int (-1000000000 : Int32)), (.int (10 : Int32))])
  refine os (fun _ k => XS.imul X0.here hx rfl (hb hby d33_13_34) rfl k) ?_
  show OGo p e below _ s₁ (mkF m 35 #[.val (.int (Jvm.Free.SBG.negI (n))), .val (.int (0 : Int32)), .val (.int (-1000000000 : Int32)), .val (.int (9 : Int32))] [(.int ((10 : Int32) * (-1000000000 : Int32)))])
  refine os (fun _ k => XS.istoreN X0.here hx rfl (hb hby d33_13_35) rfl (l' := #[.val (.int (Jvm.Free.SBG.negI (n))), .val (.int (0 : Int32)), .val (.int ((10 : Int32) * (-1000000000 : Int32))), .val (.int (9 : Int32))]) rfl k) ?_
  show OGo p e below _ s₁ (mkF m 36 #[.val (.int (Jvm.Free.SBG.negI (n))), .val (.int (0 : Int32)), .val (.int ((10 : Int32) * (-1000000000 : Int32))), .val (.int (9 : Int32))] [])
  refine os (fun _ k => XS.iinc X0.here hx rfl (hb hby d33_13_36) rfl (l' := #[.val (.int (Jvm.Free.SBG.negI (n))), .val (.int (0 : Int32)), .val (.int ((10 : Int32) * (-1000000000 : Int32))), .val (.int ((9 : Int32) + (1 : Int32)))]) rfl k) ?_
  show OGo p e below _ s₁ (mkF m 39 #[.val (.int (Jvm.Free.SBG.negI (n))), .val (.int (0 : Int32)), .val (.int ((10 : Int32) * (-1000000000 : Int32))), .val (.int ((9 : Int32) + (1 : Int32)))] [])
  rw [show ((9 : Int32) + (1 : Int32)) = (10 : Int32) from by decide]
  show OGo p e below _ s₁ (mkF m 39 #[.val (.int (Jvm.Free.SBG.negI (n))), .val (.int (0 : Int32)), .val (.int ((10 : Int32) * (-1000000000 : Int32))), .val (.int (10 : Int32))] [])
  refine os (fun _ k => XS.goto X0.here hx rfl (pc0 := 39) (pc' := 16) rfl (hb hby d33_13_39) (by decide) (by decide) k) ?_
  show OGo p e below _ s₁ (mkF m 16 #[.val (.int (Jvm.Free.SBG.negI (n))), .val (.int (0 : Int32)), .val (.int ((10 : Int32) * (-1000000000 : Int32))), .val (.int (10 : Int32))] [])
  refine os (fun _ k => XS.iloadN X0.here hx rfl (hb hby d33_13_16) rfl k) ?_
  show OGo p e below _ s₁ (mkF m 17 #[.val (.int (Jvm.Free.SBG.negI (n))), .val (.int (0 : Int32)), .val (.int ((10 : Int32) * (-1000000000 : Int32))), .val (.int (10 : Int32))] [(.int (10 : Int32))])
  refine os (fun _ k => XS.bipush X0.here hx rfl (hb hby d33_13_17) k) ?_
  show OGo p e below _ s₁ (mkF m 19 #[.val (.int (Jvm.Free.SBG.negI (n))), .val (.int (0 : Int32)), .val (.int ((10 : Int32) * (-1000000000 : Int32))), .val (.int (10 : Int32))] [(.int (10 : Int32)), (.int (10 : Int32))])
  refine os (fun _ k => XS.icmpYes X0.here hx rfl (pc0 := 19) (pc' := 42) rfl (hb hby d33_13_19) rfl (flt (by decide : ¬ (10 : Int32) < 10)).2.1 (by decide) (by decide) k) ?_
  show OGo p e below _ s₁ (mkF m 42 #[.val (.int (Jvm.Free.SBG.negI (n))), .val (.int (0 : Int32)), .val (.int ((10 : Int32) * (-1000000000 : Int32))), .val (.int (10 : Int32))] [])
  refine os (fun _ k => XS.bipush X0.here hx rfl (hb hby d33_13_42) k) ?_
  show OGo p e below _ s₁ (mkF m 44 #[.val (.int (Jvm.Free.SBG.negI (n))), .val (.int (0 : Int32)), .val (.int ((10 : Int32) * (-1000000000 : Int32))), .val (.int (10 : Int32))] [(.int (10 : Int32))])
  refine os (fun _ k => XS.iloadN X0.here hx rfl (hb hby d33_13_44) rfl k) ?_
  show OGo p e below _ s₁ (mkF m 45 #[.val (.int (Jvm.Free.SBG.negI (n))), .val (.int (0 : Int32)), .val (.int ((10 : Int32) * (-1000000000 : Int32))), .val (.int (10 : Int32))] [(.int (0 : Int32)), (.int (10 : Int32))])
  refine os (fun _ k => XS.iadd X0.here hx rfl (hb hby d33_13_45) rfl k) ?_
  show OGo p e below _ s₁ (mkF m 46 #[.val (.int (Jvm.Free.SBG.negI (n))), .val (.int (0 : Int32)), .val (.int ((10 : Int32) * (-1000000000 : Int32))), .val (.int (10 : Int32))] [(.int ((10 : Int32) + (0 : Int32)))])
  exact OGo.ret X0 hx (t := .int) hret hlk rfl (Or.inl ⟨rfl, by simp, _, rfl⟩) (hb hby d33_13_46) (by decide) (by decide) ⟨by rw [show own_w n = 10 from (by unfold own_w; (repeat' split) <;> omega)]; rfl, rfl, e0⟩
theorem d33_12_0 : decode jdk_33_method_12_code 0 = .ok (.iload_n 1, 1) := by decide +kernel
theorem d33_12_1 : decode jdk_33_method_12_code 1 = .ok (.istore 5, 2) := by decide +kernel
theorem d33_12_3 : decode jdk_33_method_12_code 3 = .ok (.iload_n 0, 1) := by decide +kernel
theorem d33_12_4 : decode jdk_33_method_12_code 4 = .ok (.ifCond .ge 7, 3) := by decide +kernel
theorem d33_12_11 : decode jdk_33_method_12_code 11 = .ok (.iconst 0, 1) := by decide +kernel
theorem d33_12_12 : decode jdk_33_method_12_code 12 = .ok (.istore 6, 2) := by decide +kernel
theorem d33_12_14 : decode jdk_33_method_12_code 14 = .ok (.iload 6, 2) := by decide +kernel
theorem d33_12_16 : decode jdk_33_method_12_code 16 = .ok (.ifCond .ne 6, 3) := by decide +kernel
theorem d33_12_19 : decode jdk_33_method_12_code 19 = .ok (.iload_n 0, 1) := by decide +kernel
theorem d33_12_20 : decode jdk_33_method_12_code 20 = .ok (.ineg, 1) := by decide +kernel
theorem d33_12_21 : decode jdk_33_method_12_code 21 = .ok (.istore_n 0, 1) := by decide +kernel
theorem d33_12_22 : decode jdk_33_method_12_code 22 = .ok (.iload_n 0, 1) := by decide +kernel
theorem d33_12_23 : decode jdk_33_method_12_code 23 = .ok (.bipush (-100), 2) := by decide +kernel
theorem d33_12_25 : decode jdk_33_method_12_code 25 = .ok (.if_icmp .gt 47, 3) := by decide +kernel
theorem d33_12_28 : decode jdk_33_method_12_code 28 = .ok (.iload_n 0, 1) := by decide +kernel
theorem d33_12_29 : decode jdk_33_method_12_code 29 = .ok (.bipush 100, 2) := by decide +kernel
theorem d33_12_31 : decode jdk_33_method_12_code 31 = .ok (.idiv, 1) := by decide +kernel
theorem d33_12_32 : decode jdk_33_method_12_code 32 = .ok (.istore_n 3, 1) := by decide +kernel
theorem d33_12_33 : decode jdk_33_method_12_code 33 = .ok (.iload_n 3, 1) := by decide +kernel
theorem d33_12_34 : decode jdk_33_method_12_code 34 = .ok (.bipush 100, 2) := by decide +kernel
theorem d33_12_36 : decode jdk_33_method_12_code 36 = .ok (.imul, 1) := by decide +kernel
theorem d33_12_37 : decode jdk_33_method_12_code 37 = .ok (.iload_n 0, 1) := by decide +kernel
theorem d33_12_38 : decode jdk_33_method_12_code 38 = .ok (.isub, 1) := by decide +kernel
theorem d33_12_39 : decode jdk_33_method_12_code 39 = .ok (.istore 4, 2) := by decide +kernel
theorem d33_12_41 : decode jdk_33_method_12_code 41 = .ok (.iload_n 3, 1) := by decide +kernel
theorem d33_12_42 : decode jdk_33_method_12_code 42 = .ok (.istore_n 0, 1) := by decide +kernel
theorem d33_12_43 : decode jdk_33_method_12_code 43 = .ok (.aload_n 2, 1) := by decide +kernel
theorem d33_12_44 : decode jdk_33_method_12_code 44 = .ok (.iinc 5 (-1), 3) := by decide +kernel
theorem d33_12_47 : decode jdk_33_method_12_code 47 = .ok (.iload 5, 2) := by decide +kernel
theorem d33_12_49 : decode jdk_33_method_12_code 49 = .ok (.getstatic 83, 3) := by decide +kernel
theorem d33_12_52 : decode jdk_33_method_12_code 52 = .ok (.iload 4, 2) := by decide +kernel
theorem d33_12_54 : decode jdk_33_method_12_code 54 = .ok (.baload, 1) := by decide +kernel
theorem d33_12_55 : decode jdk_33_method_12_code 55 = .ok (.bastore, 1) := by decide +kernel
theorem d33_12_56 : decode jdk_33_method_12_code 56 = .ok (.aload_n 2, 1) := by decide +kernel
theorem d33_12_57 : decode jdk_33_method_12_code 57 = .ok (.iinc 5 (-1), 3) := by decide +kernel
theorem d33_12_60 : decode jdk_33_method_12_code 60 = .ok (.iload 5, 2) := by decide +kernel
theorem d33_12_62 : decode jdk_33_method_12_code 62 = .ok (.getstatic 87, 3) := by decide +kernel
theorem d33_12_65 : decode jdk_33_method_12_code 65 = .ok (.iload 4, 2) := by decide +kernel
theorem d33_12_67 : decode jdk_33_method_12_code 67 = .ok (.baload, 1) := by decide +kernel
theorem d33_12_68 : decode jdk_33_method_12_code 68 = .ok (.bastore, 1) := by decide +kernel
theorem d33_12_69 : decode jdk_33_method_12_code 69 = .ok (.goto (-47), 3) := by decide +kernel
theorem d33_12_72 : decode jdk_33_method_12_code 72 = .ok (.aload_n 2, 1) := by decide +kernel
theorem d33_12_73 : decode jdk_33_method_12_code 73 = .ok (.iinc 5 (-1), 3) := by decide +kernel
theorem d33_12_76 : decode jdk_33_method_12_code 76 = .ok (.iload 5, 2) := by decide +kernel
theorem d33_12_78 : decode jdk_33_method_12_code 78 = .ok (.getstatic 83, 3) := by decide +kernel
theorem d33_12_81 : decode jdk_33_method_12_code 81 = .ok (.iload_n 0, 1) := by decide +kernel
theorem d33_12_82 : decode jdk_33_method_12_code 82 = .ok (.ineg, 1) := by decide +kernel
theorem d33_12_83 : decode jdk_33_method_12_code 83 = .ok (.baload, 1) := by decide +kernel
theorem d33_12_84 : decode jdk_33_method_12_code 84 = .ok (.bastore, 1) := by decide +kernel
theorem d33_12_85 : decode jdk_33_method_12_code 85 = .ok (.iload_n 0, 1) := by decide +kernel
theorem d33_12_86 : decode jdk_33_method_12_code 86 = .ok (.bipush (-9), 2) := by decide +kernel
theorem d33_12_88 : decode jdk_33_method_12_code 88 = .ok (.if_icmp .ge 16, 3) := by decide +kernel
theorem d33_12_91 : decode jdk_33_method_12_code 91 = .ok (.aload_n 2, 1) := by decide +kernel
theorem d33_12_92 : decode jdk_33_method_12_code 92 = .ok (.iinc 5 (-1), 3) := by decide +kernel
theorem d33_12_95 : decode jdk_33_method_12_code 95 = .ok (.iload 5, 2) := by decide +kernel
theorem d33_12_97 : decode jdk_33_method_12_code 97 = .ok (.getstatic 87, 3) := by decide +kernel
theorem d33_12_100 : decode jdk_33_method_12_code 100 = .ok (.iload_n 0, 1) := by decide +kernel
theorem d33_12_101 : decode jdk_33_method_12_code 101 = .ok (.ineg, 1) := by decide +kernel
theorem d33_12_102 : decode jdk_33_method_12_code 102 = .ok (.baload, 1) := by decide +kernel
theorem d33_12_103 : decode jdk_33_method_12_code 103 = .ok (.bastore, 1) := by decide +kernel
theorem d33_12_104 : decode jdk_33_method_12_code 104 = .ok (.iload 6, 2) := by decide +kernel
theorem d33_12_106 : decode jdk_33_method_12_code 106 = .ok (.ifCond .eq 12, 3) := by decide +kernel
theorem d33_12_118 : decode jdk_33_method_12_code 118 = .ok (.iload 5, 2) := by decide +kernel
theorem d33_12_120 : decode jdk_33_method_12_code 120 = .ok (.ireturn, 1) := by decide +kernel
theorem opl_rm_getC : plainFor (⟨"java/lang/Integer", "getChars", "(II[B)I"⟩ : MethodName) = true := plainFor_of_name (by first | (simp [plainName, overriddenIn]; done) | decide +kernel)
set_option maxRecDepth 65536 in
set_option maxHeartbeats 40000000 in
theorem rm_getC (l : Launch) (Z : State) (a0 : Array Value) (hw : ∀ d ∈ tables_1, d.before a0 Z = true) (ws : List Jvm.Cond) (n : Nat) (d : Addr) (k : ClassId) (zn : Nat) (bs : List Value) (zc : Int32) (wf : Value) (n0 : Nat) (d1 d2 : Addr) (kd1 kd2 : ClassId) (h0 : Heap) (SS : own_SS Z zc wf) (O : Old Z n0 h0) (SI : own_SI Z d1 d2 kd1 kd2) (hn : n < 2147483648) (V : Arv Z h0 d k .byte (Int32.ofNat zn) bs (.int (0 : Int32))) (hbz : bs.length + own_w n ≤ zn) (hzn : zn ≤ 74) (g_d : n0 ≤ d) :
    Con l Z (⟨"java/lang/Integer", "getChars", "(II[B)I"⟩ : MethodName) jdk_33_method_12_code 7 (some .int) ws ({ frames := 0, cells := 0, slots := 0, locals := 0 } : Room) #[(.int (Int32.ofNat n)), (.int (Int32.ofNat (bs.length + own_w n))), (.ref d)] h0 (fun v h L => v = some (.int (Int32.ofNat bs.length)) ∧ Fr n0 L ∧ Keep h0 h [d] ∧ Arv Z h d k .byte (Int32.ofNat zn) (bs ++ own_dig (own_w n) n) (.int (0 : Int32))) := by
  refine Con.intro opl_rm_getC ?_
  intro p e s m below meth c s₁ hx hby hml hown hret hlk hZ hnm X0 e0
  have SS' := SS
  obtain ⟨hzc, SC, hwf, SF⟩ := SS
  have Z0 : n0 ≤ h0.size := O.1 ▸ O.2.1
  have N0 := Fr.nil n0
  have SI' := SI
  obtain ⟨S1, V1, S2, V2⟩ := SI
  refine OGo.cast (g' := (mkF m 0 #[.val (.int (Int32.ofNat n)), .val (.int (Int32.ofNat (bs.length + own_w n))), .val (.ref d), .unset, .unset, .unset, .unset] [])) (by first | (simp [entryFrame, mkF, argsToLocals, Value.category]; done) | rfl) ?_
  show OGo p e below _ s₁ (mkF m 0 #[.val (.int (Int32.ofNat n)), .val (.int (Int32.ofNat (bs.length + own_w n))), .val (.ref d), .unset, .unset, .unset, .unset] [])
  have hn2 : n ≤ 2 ^ 31 := by omega
  obtain ⟨P1, P2, P3, P4⟩ := own_dpow hn
  have W1 := V1.ext O.2
  have W2 := V2.ext O.2
  have n1 : d1 ≠ d := O.ne V1.lt g_d
  have n2 : d2 ≠ d := O.ne V2.lt g_d
  refine os (fun _ k => XS.iloadN X0.here hx rfl (hb hby d33_12_0) rfl k) ?_
  show OGo p e below _ s₁ (mkF m 1 #[.val (.int (Int32.ofNat n)), .val (.int (Int32.ofNat (bs.length + own_w n))), .val (.ref d), .unset, .unset, .unset, .unset] [(.int (Int32.ofNat (bs.length + own_w n)))])
  refine os (fun _ k => XS.istore X0.here hx rfl (hb hby d33_12_1) rfl (l' := #[.val (.int (Int32.ofNat n)), .val (.int (Int32.ofNat (bs.length + own_w n))), .val (.ref d), .unset, .unset, .val (.int (Int32.ofNat (bs.length + own_w n))), .unset]) rfl k) ?_
  show OGo p e below _ s₁ (mkF m 3 #[.val (.int (Int32.ofNat n)), .val (.int (Int32.ofNat (bs.length + own_w n))), .val (.ref d), .unset, .unset, .val (.int (Int32.ofNat (bs.length + own_w n))), .unset] [])
  refine os (fun _ k => XS.iloadN X0.here hx rfl (hb hby d33_12_3) rfl k) ?_
  show OGo p e below _ s₁ (mkF m 4 #[.val (.int (Int32.ofNat n)), .val (.int (Int32.ofNat (bs.length + own_w n))), .val (.ref d), .unset, .unset, .val (.int (Int32.ofNat (bs.length + own_w n))), .unset] [(.int (Int32.ofNat n))])
  refine os (fun _ k => XS.ifYes X0.here hx rfl (pc0 := 4) (pc' := 11) rfl (hb hby d33_12_4) rfl ((if0 _ _).trans (flt (own_nn hn)).2.1) (by decide) (by decide) k) ?_
  show OGo p e below _ s₁ (mkF m 11 #[.val (.int (Int32.ofNat n)), .val (.int (Int32.ofNat (bs.length + own_w n))), .val (.ref d), .unset, .unset, .val (.int (Int32.ofNat (bs.length + own_w n))), .unset] [])
  refine os (fun _ k => XS.iconst X0.here hx rfl (hb hby d33_12_11) k) ?_
  show OGo p e below _ s₁ (mkF m 12 #[.val (.int (Int32.ofNat n)), .val (.int (Int32.ofNat (bs.length + own_w n))), .val (.ref d), .unset, .unset, .val (.int (Int32.ofNat (bs.length + own_w n))), .unset] [(.int (0 : Int32))])
  refine os (fun _ k => XS.istore X0.here hx rfl (hb hby d33_12_12) rfl (l' := #[.val (.int (Int32.ofNat n)), .val (.int (Int32.ofNat (bs.length + own_w n))), .val (.ref d), .unset, .unset, .val (.int (Int32.ofNat (bs.length + own_w n))), .val (.int (0 : Int32))]) rfl k) ?_
  show OGo p e below _ s₁ (mkF m 14 #[.val (.int (Int32.ofNat n)), .val (.int (Int32.ofNat (bs.length + own_w n))), .val (.ref d), .unset, .unset, .val (.int (Int32.ofNat (bs.length + own_w n))), .val (.int (0 : Int32))] [])
  refine os (fun _ k => XS.iload X0.here hx rfl (hb hby d33_12_14) rfl k) ?_
  show OGo p e below _ s₁ (mkF m 16 #[.val (.int (Int32.ofNat n)), .val (.int (Int32.ofNat (bs.length + own_w n))), .val (.ref d), .unset, .unset, .val (.int (Int32.ofNat (bs.length + own_w n))), .val (.int (0 : Int32))] [(.int (0 : Int32))])
  refine os (fun _ k => XS.ifNo X0.here hx rfl (hb hby d33_12_16) rfl ((if0 _ _).trans (teq (rfl : (0 : Int32) = 0)).2) k) ?_
  show OGo p e below _ s₁ (mkF m 19 #[.val (.int (Int32.ofNat n)), .val (.int (Int32.ofNat (bs.length + own_w n))), .val (.ref d), .unset, .unset, .val (.int (Int32.ofNat (bs.length + own_w n))), .val (.int (0 : Int32))] [])
  refine os (fun _ k => XS.iloadN X0.here hx rfl (hb hby d33_12_19) rfl k) ?_
  show OGo p e below _ s₁ (mkF m 20 #[.val (.int (Int32.ofNat n)), .val (.int (Int32.ofNat (bs.length + own_w n))), .val (.ref d), .unset, .unset, .val (.int (Int32.ofNat (bs.length + own_w n))), .val (.int (0 : Int32))] [(.int (Int32.ofNat n))])
  refine os (fun _ k => XS.ineg X0.here hx rfl (hb hby d33_12_20) rfl k) ?_
  show OGo p e below _ s₁ (mkF m 21 #[.val (.int (Int32.ofNat n)), .val (.int (Int32.ofNat (bs.length + own_w n))), .val (.ref d), .unset, .unset, .val (.int (Int32.ofNat (bs.length + own_w n))), .val (.int (0 : Int32))] [(.int (-(Int32.ofNat n)))])
  rw [own_negn hn]
  show OGo p e below _ s₁ (mkF m 21 #[.val (.int (Int32.ofNat n)), .val (.int (Int32.ofNat (bs.length + own_w n))), .val (.ref d), .unset, .unset, .val (.int (Int32.ofNat (bs.length + own_w n))), .val (.int (0 : Int32))] [(.int (Jvm.Free.SBG.negI (n)))])
  refine os (fun _ k => XS.istoreN X0.here hx rfl (hb hby d33_12_21) rfl (l' := #[.val (.int (Jvm.Free.SBG.negI (n))), .val (.int (Int32.ofNat (bs.length + own_w n))), .val (.ref d), .unset, .unset, .val (.int (Int32.ofNat (bs.length + own_w n))), .val (.int (0 : Int32))]) rfl k) ?_
  show OGo p e below _ s₁ (mkF m 22 #[.val (.int (Jvm.Free.SBG.negI (n))), .val (.int (Int32.ofNat (bs.length + own_w n))), .val (.ref d), .unset, .unset, .val (.int (Int32.ofNat (bs.length + own_w n))), .val (.int (0 : Int32))] [])
  have loop : ∀ (f r t y : Nat) (T : State) (h : Heap) (locs : List Loc) (s3 s4 : Slot), r ≤ f → t + r = (own_w n) → y = n / 10 ^ t → y < 10 ^ r → (2 ≤ r → 10 ^ (r - 1) ≤ y) → 1 ≤ r → One s3 → One s4 → Stand p l e ({ frames := 0, cells := 0, slots := 0, locals := 0 } : Room) s m #[(.int (Int32.ofNat n)), (.int (Int32.ofNat (bs.length + (own_w n)))), (.ref d)] below meth c T locs 0 0 → T.heap = h → Fr n0 locs → Keep h0 h [d] → Old Z n0 h → Arv Z h d1 kd1 .byte (100 : Int32) own_onel (.int (0 : Int32)) → Arv Z h d2 kd2 .byte (100 : Int32) own_tenl (.int (0 : Int32)) → Arv Z h d k .byte (Int32.ofNat zn) (own_L bs (own_w n) t n) (.int (0 : Int32)) → OGo p e below (EndQ s ({ frames := 0, cells := 0, slots := 0, locals := 0 } : Room) (fun v h L => v = some (.int (Int32.ofNat bs.length)) ∧ Fr n0 L ∧ Keep h0 h [d] ∧ Arv Z h d k .byte (Int32.ofNat zn) (bs ++ own_dig (own_w n) n) (.int (0 : Int32)))) T (mkF m 22 #[.val (.int (Jvm.Free.SBG.negI (y))), .val (.int (Int32.ofNat (bs.length + (own_w n)))), .val (.ref d), s3, s4, .val (.int (Int32.ofNat (bs.length + r))), .val (.int (0 : Int32))] []) := by
    intro f
    induction f with
    | zero => intro r t y T h locs s3 s4 hf ht hm hlt hle hr; omega
    | succ f ih =>
      intro r t y T h locs s3 s4 hf ht hm hlt hle hr h3 h4 X eT N K Oo U1 U2 Vd
      have hm2 : y ≤ 2 ^ 31 := by have := Nat.div_le_self n (10 ^ t); omega
      have cg := Jvm.Free.SBG.negI_lt hm2 100 (by decide)
      rw [show Jvm.Free.SBG.negI 100 = (-100 : Int32) from by decide +kernel] at cg
      show OGo p e below _ T (mkF m 22 #[.val (.int (Jvm.Free.SBG.negI (y))), .val (.int (Int32.ofNat (bs.length + (own_w n)))), .val (.ref d), s3, s4, .val (.int (Int32.ofNat (bs.length + r))), .val (.int (0 : Int32))] [])
      refine os (fun _ k => XS.iloadN X.here hx rfl (hb hby d33_12_22) rfl k) ?_
      show OGo p e below _ T (mkF m 23 #[.val (.int (Jvm.Free.SBG.negI (y))), .val (.int (Int32.ofNat (bs.length + (own_w n)))), .val (.ref d), s3, s4, .val (.int (Int32.ofNat (bs.length + r))), .val (.int (0 : Int32))] [(.int (Jvm.Free.SBG.negI (y)))])
      refine os (fun _ k => XS.bipush X.here hx rfl (hb hby d33_12_23) k) ?_
      show OGo p e below _ T (mkF m 25 #[.val (.int (Jvm.Free.SBG.negI (y))), .val (.int (Int32.ofNat (bs.length + (own_w n)))), .val (.ref d), s3, s4, .val (.int (Int32.ofNat (bs.length + r))), .val (.int (0 : Int32))] [(.int (-100 : Int32)), (.int (Jvm.Free.SBG.negI (y)))])
      by_cases q : y < 100
      case neg =>
        have r3 := own_r3 hlt (by omega)
        obtain ⟨r, rfl⟩ : ∃ z, r = z + 2 := ⟨r - 2, by omega⟩
        refine os (fun _ k => XS.icmpNo X.here hx rfl (hb hby d33_12_25) rfl (flt (fun h => q (cg.mp h))).2.2.1 k) ?_
        show OGo p e below _ T (mkF m 28 #[.val (.int (Jvm.Free.SBG.negI (y))), .val (.int (Int32.ofNat (bs.length + (own_w n)))), .val (.ref d), s3, s4, .val (.int (Int32.ofNat (bs.length + (r + 2)))), .val (.int (0 : Int32))] [])
        refine os (fun _ k => XS.iloadN X.here hx rfl (hb hby d33_12_28) rfl k) ?_
        show OGo p e below _ T (mkF m 29 #[.val (.int (Jvm.Free.SBG.negI (y))), .val (.int (Int32.ofNat (bs.length + (own_w n)))), .val (.ref d), s3, s4, .val (.int (Int32.ofNat (bs.length + (r + 2)))), .val (.int (0 : Int32))] [(.int (Jvm.Free.SBG.negI (y)))])
        refine os (fun _ k => XS.bipush X.here hx rfl (hb hby d33_12_29) k) ?_
        show OGo p e below _ T (mkF m 31 #[.val (.int (Jvm.Free.SBG.negI (y))), .val (.int (Int32.ofNat (bs.length + (own_w n)))), .val (.ref d), s3, s4, .val (.int (Int32.ofNat (bs.length + (r + 2)))), .val (.int (0 : Int32))] [(.int (100 : Int32)), (.int (Jvm.Free.SBG.negI (y)))])
        refine os (fun _ k => XS.idiv X.here hx rfl (hb hby d33_12_31) rfl (by decide) k) ?_
        show OGo p e below _ T (mkF m 32 #[.val (.int (Jvm.Free.SBG.negI (y))), .val (.int (Int32.ofNat (bs.length + (own_w n)))), .val (.ref d), s3, s4, .val (.int (Int32.ofNat (bs.length + (r + 2)))), .val (.int (0 : Int32))] [(.int ((Jvm.Free.SBG.negI (y)) / (100 : Int32)))])
        rw [Jvm.Free.SBG.negI_div100 hm2]
        show OGo p e below _ T (mkF m 32 #[.val (.int (Jvm.Free.SBG.negI (y))), .val (.int (Int32.ofNat (bs.length + (own_w n)))), .val (.ref d), s3, s4, .val (.int (Int32.ofNat (bs.length + (r + 2)))), .val (.int (0 : Int32))] [(.int (Jvm.Free.SBG.negI (y / 100)))])
        refine os (fun _ k => XS.istoreN X.here hx rfl (hb hby d33_12_32) rfl (own_st3 h3 rfl rfl rfl) k) ?_
        show OGo p e below _ T (mkF m 33 #[.val (.int (Jvm.Free.SBG.negI (y))), .val (.int (Int32.ofNat (bs.length + (own_w n)))), .val (.ref d), .val (.int (Jvm.Free.SBG.negI (y / 100))), s4, .val (.int (Int32.ofNat (bs.length + (r + 2)))), .val (.int (0 : Int32))] [])
        refine os (fun _ k => XS.iloadN X.here hx rfl (hb hby d33_12_33) rfl k) ?_
        show OGo p e below _ T (mkF m 34 #[.val (.int (Jvm.Free.SBG.negI (y))), .val (.int (Int32.ofNat (bs.length + (own_w n)))), .val (.ref d), .val (.int (Jvm.Free.SBG.negI (y / 100))), s4, .val (.int (Int32.ofNat (bs.length + (r + 2)))), .val (.int (0 : Int32))] [(.int (Jvm.Free.SBG.negI (y / 100)))])
        refine os (fun _ k => XS.bipush X.here hx rfl (hb hby d33_12_34) k) ?_
        show OGo p e below _ T (mkF m 36 #[.val (.int (Jvm.Free.SBG.negI (y))), .val (.int (Int32.ofNat (bs.length + (own_w n)))), .val (.ref d), .val (.int (Jvm.Free.SBG.negI (y / 100))), s4, .val (.int (Int32.ofNat (bs.length + (r + 2)))), .val (.int (0 : Int32))] [(.int (100 : Int32)), (.int (Jvm.Free.SBG.negI (y / 100)))])
        refine os (fun _ k => XS.imul X.here hx rfl (hb hby d33_12_36) rfl k) ?_
        show OGo p e below _ T (mkF m 37 #[.val (.int (Jvm.Free.SBG.negI (y))), .val (.int (Int32.ofNat (bs.length + (own_w n)))), .val (.ref d), .val (.int (Jvm.Free.SBG.negI (y / 100))), s4, .val (.int (Int32.ofNat (bs.length + (r + 2)))), .val (.int (0 : Int32))] [(.int ((Jvm.Free.SBG.negI (y / 100)) * (100 : Int32)))])
        refine os (fun _ k => XS.iloadN X.here hx rfl (hb hby d33_12_37) rfl k) ?_
        show OGo p e below _ T (mkF m 38 #[.val (.int (Jvm.Free.SBG.negI (y))), .val (.int (Int32.ofNat (bs.length + (own_w n)))), .val (.ref d), .val (.int (Jvm.Free.SBG.negI (y / 100))), s4, .val (.int (Int32.ofNat (bs.length + (r + 2)))), .val (.int (0 : Int32))] [(.int (Jvm.Free.SBG.negI (y))), (.int ((Jvm.Free.SBG.negI (y / 100)) * (100 : Int32)))])
        refine os (fun _ k => XS.isub X.here hx rfl (hb hby d33_12_38) rfl k) ?_
        show OGo p e below _ T (mkF m 39 #[.val (.int (Jvm.Free.SBG.negI (y))), .val (.int (Int32.ofNat (bs.length + (own_w n)))), .val (.ref d), .val (.int (Jvm.Free.SBG.negI (y / 100))), s4, .val (.int (Int32.ofNat (bs.length + (r + 2)))), .val (.int (0 : Int32))] [(.int (((Jvm.Free.SBG.negI (y / 100)) * (100 : Int32)) - (Jvm.Free.SBG.negI (y))))])
        rw [Jvm.Free.SBG.negI_rem hm2]
        show OGo p e below _ T (mkF m 39 #[.val (.int (Jvm.Free.SBG.negI (y))), .val (.int (Int32.ofNat (bs.length + (own_w n)))), .val (.ref d), .val (.int (Jvm.Free.SBG.negI (y / 100))), s4, .val (.int (Int32.ofNat (bs.length + (r + 2)))), .val (.int (0 : Int32))] [(.int (Int32.ofNat (y % 100)))])
        refine os (fun _ k => XS.istore X.here hx rfl (hb hby d33_12_39) rfl (own_st4 h4) k) ?_
        show OGo p e below _ T (mkF m 41 #[.val (.int (Jvm.Free.SBG.negI (y))), .val (.int (Int32.ofNat (bs.length + (own_w n)))), .val (.ref d), .val (.int (Jvm.Free.SBG.negI (y / 100))), .val (.int (Int32.ofNat (y % 100))), .val (.int (Int32.ofNat (bs.length + (r + 2)))), .val (.int (0 : Int32))] [])
        refine os (fun _ k => XS.iloadN X.here hx rfl (hb hby d33_12_41) rfl k) ?_
        show OGo p e below _ T (mkF m 42 #[.val (.int (Jvm.Free.SBG.negI (y))), .val (.int (Int32.ofNat (bs.length + (own_w n)))), .val (.ref d), .val (.int (Jvm.Free.SBG.negI (y / 100))), .val (.int (Int32.ofNat (y % 100))), .val (.int (Int32.ofNat (bs.length + (r + 2)))), .val (.int (0 : Int32))] [(.int (Jvm.Free.SBG.negI (y / 100)))])
        refine os (fun _ k => XS.istoreN X.here hx rfl (hb hby d33_12_42) rfl (l' := #[.val (.int (Jvm.Free.SBG.negI (y / 100))), .val (.int (Int32.ofNat (bs.length + (own_w n)))), .val (.ref d), .val (.int (Jvm.Free.SBG.negI (y / 100))), .val (.int (Int32.ofNat (y % 100))), .val (.int (Int32.ofNat (bs.length + (r + 2)))), .val (.int (0 : Int32))]) rfl k) ?_
        show OGo p e below _ T (mkF m 43 #[.val (.int (Jvm.Free.SBG.negI (y / 100))), .val (.int (Int32.ofNat (bs.length + (own_w n)))), .val (.ref d), .val (.int (Jvm.Free.SBG.negI (y / 100))), .val (.int (Int32.ofNat (y % 100))), .val (.int (Int32.ofNat (bs.length + (r + 2)))), .val (.int (0 : Int32))] [])
        refine os (fun _ k => XS.aloadN X.here hx rfl (hb hby d33_12_43) rfl rfl k) ?_
        show OGo p e below _ T (mkF m 44 #[.val (.int (Jvm.Free.SBG.negI (y / 100))), .val (.int (Int32.ofNat (bs.length + (own_w n)))), .val (.ref d), .val (.int (Jvm.Free.SBG.negI (y / 100))), .val (.int (Int32.ofNat (y % 100))), .val (.int (Int32.ofNat (bs.length + (r + 2)))), .val (.int (0 : Int32))] [(.ref d)])
        refine os (fun _ k => XS.iinc X.here hx rfl (hb hby d33_12_44) rfl (l' := #[.val (.int (Jvm.Free.SBG.negI (y / 100))), .val (.int (Int32.ofNat (bs.length + (own_w n)))), .val (.ref d), .val (.int (Jvm.Free.SBG.negI (y / 100))), .val (.int (Int32.ofNat (y % 100))), .val (.int ((Int32.ofNat (bs.length + (r + 2))) + (-1 : Int32))), .val (.int (0 : Int32))]) rfl k) ?_
        show OGo p e below _ T (mkF m 47 #[.val (.int (Jvm.Free.SBG.negI (y / 100))), .val (.int (Int32.ofNat (bs.length + (own_w n)))), .val (.ref d), .val (.int (Jvm.Free.SBG.negI (y / 100))), .val (.int (Int32.ofNat (y % 100))), .val (.int ((Int32.ofNat (bs.length + (r + 2))) + (-1 : Int32))), .val (.int (0 : Int32))] [(.ref d)])
        rw [own_dec (show 1 ≤ bs.length + (r + 2) by omega), show bs.length + (r + 2) - 1 = bs.length + (r + 1) by omega]
        show OGo p e below _ T (mkF m 47 #[.val (.int (Jvm.Free.SBG.negI (y / 100))), .val (.int (Int32.ofNat (bs.length + (own_w n)))), .val (.ref d), .val (.int (Jvm.Free.SBG.negI (y / 100))), .val (.int (Int32.ofNat (y % 100))), .val (.int (Int32.ofNat (bs.length + (r + 1)))), .val (.int (0 : Int32))] [(.ref d)])
        refine os (fun _ k => XS.iload X.here hx rfl (hb hby d33_12_47) rfl k) ?_
        show OGo p e below _ T (mkF m 49 #[.val (.int (Jvm.Free.SBG.negI (y / 100))), .val (.int (Int32.ofNat (bs.length + (own_w n)))), .val (.ref d), .val (.int (Jvm.Free.SBG.negI (y / 100))), .val (.int (Int32.ofNat (y % 100))), .val (.int (Int32.ofNat (bs.length + (r + 1)))), .val (.int (0 : Int32))] [(.int (Int32.ofNat (bs.length + (r + 1)))), (.ref d)])
        obtain ⟨T88, X88, e88, st88⟩ := getS2 X hx hZ hown (host := "") (Or.inl (own_g hw 248 rfl)) Via.refl eT (S1.ext Oo.2) (g := (mkF m 49 #[.val (.int (Jvm.Free.SBG.negI (y / 100))), .val (.int (Int32.ofNat (bs.length + (own_w n)))), .val (.ref d), .val (.int (Jvm.Free.SBG.negI (y / 100))), .val (.int (Int32.ofNat (y % 100))), .val (.int (Int32.ofNat (bs.length + (r + 1)))), .val (.int (0 : Int32))] [(.int (Int32.ofNat (bs.length + (r + 1)))), (.ref d)])) rfl (hb hby d33_12_49)
        refine os st88 ?_
        show OGo p e below _ T88 (mkF m 52 #[.val (.int (Jvm.Free.SBG.negI (y / 100))), .val (.int (Int32.ofNat (bs.length + (own_w n)))), .val (.ref d), .val (.int (Jvm.Free.SBG.negI (y / 100))), .val (.int (Int32.ofNat (y % 100))), .val (.int (Int32.ofNat (bs.length + (r + 1)))), .val (.int (0 : Int32))] [(.ref d1), (.int (Int32.ofNat (bs.length + (r + 1)))), (.ref d)])
        refine os (fun _ k => XS.iload X88.here hx rfl (hb hby d33_12_52) rfl k) ?_
        show OGo p e below _ T88 (mkF m 54 #[.val (.int (Jvm.Free.SBG.negI (y / 100))), .val (.int (Int32.ofNat (bs.length + (own_w n)))), .val (.ref d), .val (.int (Jvm.Free.SBG.negI (y / 100))), .val (.int (Int32.ofNat (y % 100))), .val (.int (Int32.ofNat (bs.length + (r + 1)))), .val (.int (0 : Int32))] [(.int (Int32.ofNat (y % 100))), (.ref d1), (.int (Int32.ofNat (bs.length + (r + 1)))), (.ref d)])
        refine os (fun _ k => baloadV X88 hx hZ e88 U1 ⟨own_nn (by omega), (own_lt (b := 100) (by omega) (by decide)).mpr (by omega)⟩ (own_oneat (by omega)) (g := (mkF m 54 #[.val (.int (Jvm.Free.SBG.negI (y / 100))), .val (.int (Int32.ofNat (bs.length + (own_w n)))), .val (.ref d), .val (.int (Jvm.Free.SBG.negI (y / 100))), .val (.int (Int32.ofNat (y % 100))), .val (.int (Int32.ofNat (bs.length + (r + 1)))), .val (.int (0 : Int32))] [(.int (Int32.ofNat (y % 100))), (.ref d1), (.int (Int32.ofNat (bs.length + (r + 1)))), (.ref d)])) rfl rfl (hb hby d33_12_54) _ k) ?_
        show OGo p e below _ T88 (mkF m 55 #[.val (.int (Jvm.Free.SBG.negI (y / 100))), .val (.int (Int32.ofNat (bs.length + (own_w n)))), .val (.ref d), .val (.int (Jvm.Free.SBG.negI (y / 100))), .val (.int (Int32.ofNat (y % 100))), .val (.int (Int32.ofNat (bs.length + (r + 1)))), .val (.int (0 : Int32))] [(.int (Int32.ofNat (48 + y % 100 % 10))), (.int (Int32.ofNat (bs.length + (r + 1)))), (.ref d)])
        rw [show y % 100 % 10 = n / 10 ^ (t) % 10 from (by rw [own_ones, hm])]
        show OGo p e below _ T88 (mkF m 55 #[.val (.int (Jvm.Free.SBG.negI (y / 100))), .val (.int (Int32.ofNat (bs.length + (own_w n)))), .val (.ref d), .val (.int (Jvm.Free.SBG.negI (y / 100))), .val (.int (Int32.ofNat (y % 100))), .val (.int (Int32.ofNat (bs.length + (r + 1)))), .val (.int (0 : Int32))] [(.int (Int32.ofNat (48 + n / 10 ^ (t) % 10))), (.int (Int32.ofNat (bs.length + (r + 1)))), (.ref d)])
        have hj : ¬ Int32.ofNat (bs.length + (r + 1)) < 0 ∧ Int32.ofNat (bs.length + (r + 1)) < (Int32.ofNat zn) := ⟨own_nn (by omega), (own_lt (by omega) (by omega)).mpr (by omega)⟩
        obtain ⟨T89, h89, X89, e89, W89, Vq89, st89⟩ := bastoreV X88 hx hZ e88 Vd (j := (Int32.ofNat (bs.length + (r + 1)))) hj (by rw [own_cl (by omega), own_Llen (by omega)]; omega) (g := (mkF m 55 #[.val (.int (Jvm.Free.SBG.negI (y / 100))), .val (.int (Int32.ofNat (bs.length + (own_w n)))), .val (.ref d), .val (.int (Jvm.Free.SBG.negI (y / 100))), .val (.int (Int32.ofNat (y % 100))), .val (.int (Int32.ofNat (bs.length + (r + 1)))), .val (.int (0 : Int32))] [(.int (Int32.ofNat (48 + n / 10 ^ (t) % 10))), (.int (Int32.ofNat (bs.length + (r + 1)))), (.ref d)])) rfl rfl (hb hby d33_12_55)
        have N89 := Fr.snoc X89 N g_d
        have KK89 : Keep h0 h89 [d] := K.wr W89 (Or.inl (List.mem_of_getElem? (i := 0) rfl))
        refine os st89 ?_
        show OGo p e below _ T89 (mkF m 56 #[.val (.int (Jvm.Free.SBG.negI (y / 100))), .val (.int (Int32.ofNat (bs.length + (own_w n)))), .val (.ref d), .val (.int (Jvm.Free.SBG.negI (y / 100))), .val (.int (Int32.ofNat (y % 100))), .val (.int (Int32.ofNat (bs.length + (r + 1)))), .val (.int (0 : Int32))] [])
        rw [own_cl (show bs.length + (r + 1) < 2147483648 by omega), own_nard _ (by omega), show bs.length + (r + 1) = bs.length + ((own_w n) - (t) - 1) by omega, own_Lset (show t < (own_w n) by omega)] at Vq89
        refine os (fun _ k => XS.aloadN X89.here hx rfl (hb hby d33_12_56) rfl rfl k) ?_
        show OGo p e below _ T89 (mkF m 57 #[.val (.int (Jvm.Free.SBG.negI (y / 100))), .val (.int (Int32.ofNat (bs.length + (own_w n)))), .val (.ref d), .val (.int (Jvm.Free.SBG.negI (y / 100))), .val (.int (Int32.ofNat (y % 100))), .val (.int (Int32.ofNat (bs.length + (r + 1)))), .val (.int (0 : Int32))] [(.ref d)])
        refine os (fun _ k => XS.iinc X89.here hx rfl (hb hby d33_12_57) rfl (l' := #[.val (.int (Jvm.Free.SBG.negI (y / 100))), .val (.int (Int32.ofNat (bs.length + (own_w n)))), .val (.ref d), .val (.int (Jvm.Free.SBG.negI (y / 100))), .val (.int (Int32.ofNat (y % 100))), .val (.int ((Int32.ofNat (bs.length + (r + 1))) + (-1 : Int32))), .val (.int (0 : Int32))]) rfl k) ?_
        show OGo p e below _ T89 (mkF m 60 #[.val (.int (Jvm.Free.SBG.negI (y / 100))), .val (.int (Int32.ofNat (bs.length + (own_w n)))), .val (.ref d), .val (.int (Jvm.Free.SBG.negI (y / 100))), .val (.int (Int32.ofNat (y % 100))), .val (.int ((Int32.ofNat (bs.length + (r + 1))) + (-1 : Int32))), .val (.int (0 : Int32))] [(.ref d)])
        rw [own_dec (show 1 ≤ bs.length + (r + 1) by omega), show bs.length + (r + 1) - 1 = bs.length + (r) by omega]
        show OGo p e below _ T89 (mkF m 60 #[.val (.int (Jvm.Free.SBG.negI (y / 100))), .val (.int (Int32.ofNat (bs.length + (own_w n)))), .val (.ref d), .val (.int (Jvm.Free.SBG.negI (y / 100))), .val (.int (Int32.ofNat (y % 100))), .val (.int (Int32.ofNat (bs.length + (r)))), .val (.int (0 : Int32))] [(.ref d)])
        refine os (fun _ k => XS.iload X89.here hx rfl (hb hby d33_12_60) rfl k) ?_
        show OGo p e below _ T89 (mkF m 62 #[.val (.int (Jvm.Free.SBG.negI (y / 100))), .val (.int (Int32.ofNat (bs.length + (own_w n)))), .val (.ref d), .val (.int (Jvm.Free.SBG.negI (y / 100))), .val (.int (Int32.ofNat (y % 100))), .val (.int (Int32.ofNat (bs.length + (r)))), .val (.int (0 : Int32))] [(.int (Int32.ofNat (bs.length + (r)))), (.ref d)])
        obtain ⟨T90, X90, e90, st90⟩ := getS2 X89 hx hZ hown (host := "") (Or.inl (own_g hw 270 rfl)) Via.refl e89 (S2.ext (Oo.wr W89 g_d).2) (g := (mkF m 62 #[.val (.int (Jvm.Free.SBG.negI (y / 100))), .val (.int (Int32.ofNat (bs.length + (own_w n)))), .val (.ref d), .val (.int (Jvm.Free.SBG.negI (y / 100))), .val (.int (Int32.ofNat (y % 100))), .val (.int (Int32.ofNat (bs.length + (r)))), .val (.int (0 : Int32))] [(.int (Int32.ofNat (bs.length + (r)))), (.ref d)])) rfl (hb hby d33_12_62)
        refine os st90 ?_
        show OGo p e below _ T90 (mkF m 65 #[.val (.int (Jvm.Free.SBG.negI (y / 100))), .val (.int (Int32.ofNat (bs.length + (own_w n)))), .val (.ref d), .val (.int (Jvm.Free.SBG.negI (y / 100))), .val (.int (Int32.ofNat (y % 100))), .val (.int (Int32.ofNat (bs.length + (r)))), .val (.int (0 : Int32))] [(.ref d2), (.int (Int32.ofNat (bs.length + (r)))), (.ref d)])
        refine os (fun _ k => XS.iload X90.here hx rfl (hb hby d33_12_65) rfl k) ?_
        show OGo p e below _ T90 (mkF m 67 #[.val (.int (Jvm.Free.SBG.negI (y / 100))), .val (.int (Int32.ofNat (bs.length + (own_w n)))), .val (.ref d), .val (.int (Jvm.Free.SBG.negI (y / 100))), .val (.int (Int32.ofNat (y % 100))), .val (.int (Int32.ofNat (bs.length + (r)))), .val (.int (0 : Int32))] [(.int (Int32.ofNat (y % 100))), (.ref d2), (.int (Int32.ofNat (bs.length + (r)))), (.ref d)])
        refine os (fun _ k => baloadV X90 hx hZ e90 (U2.other W89 n2) ⟨own_nn (by omega), (own_lt (b := 100) (by omega) (by decide)).mpr (by omega)⟩ (own_tenat (by omega)) (g := (mkF m 67 #[.val (.int (Jvm.Free.SBG.negI (y / 100))), .val (.int (Int32.ofNat (bs.length + (own_w n)))), .val (.ref d), .val (.int (Jvm.Free.SBG.negI (y / 100))), .val (.int (Int32.ofNat (y % 100))), .val (.int (Int32.ofNat (bs.length + (r)))), .val (.int (0 : Int32))] [(.int (Int32.ofNat (y % 100))), (.ref d2), (.int (Int32.ofNat (bs.length + (r)))), (.ref d)])) rfl rfl (hb hby d33_12_67) _ k) ?_
        show OGo p e below _ T90 (mkF m 68 #[.val (.int (Jvm.Free.SBG.negI (y / 100))), .val (.int (Int32.ofNat (bs.length + (own_w n)))), .val (.ref d), .val (.int (Jvm.Free.SBG.negI (y / 100))), .val (.int (Int32.ofNat (y % 100))), .val (.int (Int32.ofNat (bs.length + (r)))), .val (.int (0 : Int32))] [(.int (Int32.ofNat (48 + y % 100 / 10))), (.int (Int32.ofNat (bs.length + (r)))), (.ref d)])
        rw [show y % 100 / 10 = n / 10 ^ (t + 1) % 10 from (by rw [own_tens, hm, own_divq])]
        show OGo p e below _ T90 (mkF m 68 #[.val (.int (Jvm.Free.SBG.negI (y / 100))), .val (.int (Int32.ofNat (bs.length + (own_w n)))), .val (.ref d), .val (.int (Jvm.Free.SBG.negI (y / 100))), .val (.int (Int32.ofNat (y % 100))), .val (.int (Int32.ofNat (bs.length + (r)))), .val (.int (0 : Int32))] [(.int (Int32.ofNat (48 + n / 10 ^ (t + 1) % 10))), (.int (Int32.ofNat (bs.length + (r)))), (.ref d)])
        have hj : ¬ Int32.ofNat (bs.length + (r)) < 0 ∧ Int32.ofNat (bs.length + (r)) < (Int32.ofNat zn) := ⟨own_nn (by omega), (own_lt (by omega) (by omega)).mpr (by omega)⟩
        obtain ⟨T91, h91, X91, e91, W91, Vq91, st91⟩ := bastoreV X90 hx hZ e90 Vq89 (j := (Int32.ofNat (bs.length + (r)))) hj (by rw [own_cl (by omega), own_Llen (by omega)]; omega) (g := (mkF m 68 #[.val (.int (Jvm.Free.SBG.negI (y / 100))), .val (.int (Int32.ofNat (bs.length + (own_w n)))), .val (.ref d), .val (.int (Jvm.Free.SBG.negI (y / 100))), .val (.int (Int32.ofNat (y % 100))), .val (.int (Int32.ofNat (bs.length + (r)))), .val (.int (0 : Int32))] [(.int (Int32.ofNat (48 + n / 10 ^ (t + 1) % 10))), (.int (Int32.ofNat (bs.length + (r)))), (.ref d)])) rfl rfl (hb hby d33_12_68)
        have N91 := Fr.snoc X91 N89 g_d
        have KK91 : Keep h0 h91 [d] := KK89.wr W91 (Or.inl (List.mem_of_getElem? (i := 0) rfl))
        refine os st91 ?_
        show OGo p e below _ T91 (mkF m 69 #[.val (.int (Jvm.Free.SBG.negI (y / 100))), .val (.int (Int32.ofNat (bs.length + (own_w n)))), .val (.ref d), .val (.int (Jvm.Free.SBG.negI (y / 100))), .val (.int (Int32.ofNat (y % 100))), .val (.int (Int32.ofNat (bs.length + (r)))), .val (.int (0 : Int32))] [])
        rw [own_cl (show bs.length + (r) < 2147483648 by omega), own_nard _ (by omega), show bs.length + (r) = bs.length + ((own_w n) - (t + 1) - 1) by omega, own_Lset (show t + 1 < (own_w n) by omega)] at Vq91
        refine os (fun _ k => XS.goto X91.here hx rfl (pc0 := 69) (pc' := 22) rfl (hb hby d33_12_69) (by decide) (by decide) k) ?_
        show OGo p e below _ T91 (mkF m 22 #[.val (.int (Jvm.Free.SBG.negI (y / 100))), .val (.int (Int32.ofNat (bs.length + (own_w n)))), .val (.ref d), .val (.int (Jvm.Free.SBG.negI (y / 100))), .val (.int (Int32.ofNat (y % 100))), .val (.int (Int32.ofNat (bs.length + (r)))), .val (.int (0 : Int32))] [])
        exact ih r (t + 2) (y / 100) _ _ _ _ _ (by omega) (by omega) (by rw [hm, own_divp]) (own_plt hlt) (fun h => by have q2 := hle (by omega); rw [show r + 2 - 1 = (r - 1) + 2 by omega] at q2; exact own_ple q2) (by omega) (One.val rfl) (One.val rfl) X91 e91 N91 KK91 ((Oo.wr W89 g_d).wr W91 g_d) ((U1.other W89 n1).other W91 n1) ((U2.other W89 n2).other W91 n2) Vq91
      refine os (fun _ k => XS.icmpYes X.here hx rfl (pc0 := 25) (pc' := 72) rfl (hb hby d33_12_25) rfl (tlt (cg.mpr q)).2.2.1 (by decide) (by decide) k) ?_
      show OGo p e below _ T (mkF m 72 #[.val (.int (Jvm.Free.SBG.negI (y))), .val (.int (Int32.ofNat (bs.length + (own_w n)))), .val (.ref d), s3, s4, .val (.int (Int32.ofNat (bs.length + r))), .val (.int (0 : Int32))] [])
      refine os (fun _ k => XS.aloadN X.here hx rfl (hb hby d33_12_72) rfl rfl k) ?_
      show OGo p e below _ T (mkF m 73 #[.val (.int (Jvm.Free.SBG.negI (y))), .val (.int (Int32.ofNat (bs.length + (own_w n)))), .val (.ref d), s3, s4, .val (.int (Int32.ofNat (bs.length + r))), .val (.int (0 : Int32))] [(.ref d)])
      refine os (fun _ k => XS.iinc X.here hx rfl (hb hby d33_12_73) rfl (l' := #[.val (.int (Jvm.Free.SBG.negI (y))), .val (.int (Int32.ofNat (bs.length + (own_w n)))), .val (.ref d), s3, s4, .val (.int ((Int32.ofNat (bs.length + r)) + (-1 : Int32))), .val (.int (0 : Int32))]) rfl k) ?_
      show OGo p e below _ T (mkF m 76 #[.val (.int (Jvm.Free.SBG.negI (y))), .val (.int (Int32.ofNat (bs.length + (own_w n)))), .val (.ref d), s3, s4, .val (.int ((Int32.ofNat (bs.length + r)) + (-1 : Int32))), .val (.int (0 : Int32))] [(.ref d)])
      have hr1 : bs.length + r = bs.length + (r - 1 + 1) := by omega
      rw [own_dec (show 1 ≤ bs.length + (r) by omega), show bs.length + (r) - 1 = bs.length + (r - 1) by omega]
      show OGo p e below _ T (mkF m 76 #[.val (.int (Jvm.Free.SBG.negI (y))), .val (.int (Int32.ofNat (bs.length + (own_w n)))), .val (.ref d), s3, s4, .val (.int (Int32.ofNat (bs.length + (r - 1)))), .val (.int (0 : Int32))] [(.ref d)])
      refine os (fun _ k => XS.iload X.here hx rfl (hb hby d33_12_76) rfl k) ?_
      show OGo p e below _ T (mkF m 78 #[.val (.int (Jvm.Free.SBG.negI (y))), .val (.int (Int32.ofNat (bs.length + (own_w n)))), .val (.ref d), s3, s4, .val (.int (Int32.ofNat (bs.length + (r - 1)))), .val (.int (0 : Int32))] [(.int (Int32.ofNat (bs.length + (r - 1)))), (.ref d)])
      obtain ⟨T92, X92, e92, st92⟩ := getS2 X hx hZ hown (host := "") (Or.inl (own_g hw 248 rfl)) Via.refl eT (S1.ext Oo.2) (g := (mkF m 78 #[.val (.int (Jvm.Free.SBG.negI (y))), .val (.int (Int32.ofNat (bs.length + (own_w n)))), .val (.ref d), s3, s4, .val (.int (Int32.ofNat (bs.length + (r - 1)))), .val (.int (0 : Int32))] [(.int (Int32.ofNat (bs.length + (r - 1)))), (.ref d)])) rfl (hb hby d33_12_78)
      refine os st92 ?_
      show OGo p e below _ T92 (mkF m 81 #[.val (.int (Jvm.Free.SBG.negI (y))), .val (.int (Int32.ofNat (bs.length + (own_w n)))), .val (.ref d), s3, s4, .val (.int (Int32.ofNat (bs.length + (r - 1)))), .val (.int (0 : Int32))] [(.ref d1), (.int (Int32.ofNat (bs.length + (r - 1)))), (.ref d)])
      refine os (fun _ k => XS.iloadN X92.here hx rfl (hb hby d33_12_81) rfl k) ?_
      show OGo p e below _ T92 (mkF m 82 #[.val (.int (Jvm.Free.SBG.negI (y))), .val (.int (Int32.ofNat (bs.length + (own_w n)))), .val (.ref d), s3, s4, .val (.int (Int32.ofNat (bs.length + (r - 1)))), .val (.int (0 : Int32))] [(.int (Jvm.Free.SBG.negI (y))), (.ref d1), (.int (Int32.ofNat (bs.length + (r - 1)))), (.ref d)])
      refine os (fun _ k => XS.ineg X92.here hx rfl (hb hby d33_12_82) rfl k) ?_
      show OGo p e below _ T92 (mkF m 83 #[.val (.int (Jvm.Free.SBG.negI (y))), .val (.int (Int32.ofNat (bs.length + (own_w n)))), .val (.ref d), s3, s4, .val (.int (Int32.ofNat (bs.length + (r - 1)))), .val (.int (0 : Int32))] [(.int (-(Jvm.Free.SBG.negI (y)))), (.ref d1), (.int (Int32.ofNat (bs.length + (r - 1)))), (.ref d)])
      rw [Jvm.Free.SBG.neg_negI (show y < 2 ^ 31 by omega)]
      show OGo p e below _ T92 (mkF m 83 #[.val (.int (Jvm.Free.SBG.negI (y))), .val (.int (Int32.ofNat (bs.length + (own_w n)))), .val (.ref d), s3, s4, .val (.int (Int32.ofNat (bs.length + (r - 1)))), .val (.int (0 : Int32))] [(.int (Int32.ofNat (y))), (.ref d1), (.int (Int32.ofNat (bs.length + (r - 1)))), (.ref d)])
      refine os (fun _ k => baloadV X92 hx hZ e92 U1 ⟨own_nn (by omega), (own_lt (b := 100) (by omega) (by decide)).mpr q⟩ (own_oneat q) (g := (mkF m 83 #[.val (.int (Jvm.Free.SBG.negI (y))), .val (.int (Int32.ofNat (bs.length + (own_w n)))), .val (.ref d), s3, s4, .val (.int (Int32.ofNat (bs.length + (r - 1)))), .val (.int (0 : Int32))] [(.int (Int32.ofNat (y))), (.ref d1), (.int (Int32.ofNat (bs.length + (r - 1)))), (.ref d)])) rfl rfl (hb hby d33_12_83) _ k) ?_
      show OGo p e below _ T92 (mkF m 84 #[.val (.int (Jvm.Free.SBG.negI (y))), .val (.int (Int32.ofNat (bs.length + (own_w n)))), .val (.ref d), s3, s4, .val (.int (Int32.ofNat (bs.length + (r - 1)))), .val (.int (0 : Int32))] [(.int (Int32.ofNat (48 + y % 10))), (.int (Int32.ofNat (bs.length + (r - 1)))), (.ref d)])
      rw [show y % 10 = n / 10 ^ (t) % 10 from (by rw [hm])]
      show OGo p e below _ T92 (mkF m 84 #[.val (.int (Jvm.Free.SBG.negI (y))), .val (.int (Int32.ofNat (bs.length + (own_w n)))), .val (.ref d), s3, s4, .val (.int (Int32.ofNat (bs.length + (r - 1)))), .val (.int (0 : Int32))] [(.int (Int32.ofNat (48 + n / 10 ^ (t) % 10))), (.int (Int32.ofNat (bs.length + (r - 1)))), (.ref d)])
      have hj : ¬ Int32.ofNat (bs.length + (r - 1)) < 0 ∧ Int32.ofNat (bs.length + (r - 1)) < (Int32.ofNat zn) := ⟨own_nn (by omega), (own_lt (by omega) (by omega)).mpr (by omega)⟩
      obtain ⟨T93, h93, X93, e93, W93, Vq93, st93⟩ := bastoreV X92 hx hZ e92 Vd (j := (Int32.ofNat (bs.length + (r - 1)))) hj (by rw [own_cl (by omega), own_Llen (by omega)]; omega) (g := (mkF m 84 #[.val (.int (Jvm.Free.SBG.negI (y))), .val (.int (Int32.ofNat (bs.length + (own_w n)))), .val (.ref d), s3, s4, .val (.int (Int32.ofNat (bs.length + (r - 1)))), .val (.int (0 : Int32))] [(.int (Int32.ofNat (48 + n / 10 ^ (t) % 10))), (.int (Int32.ofNat (bs.length + (r - 1)))), (.ref d)])) rfl rfl (hb hby d33_12_84)
      have N93 := Fr.snoc X93 N g_d
      have KK93 : Keep h0 h93 [d] := K.wr W93 (Or.inl (List.mem_of_getElem? (i := 0) rfl))
      refine os st93 ?_
      show OGo p e below _ T93 (mkF m 85 #[.val (.int (Jvm.Free.SBG.negI (y))), .val (.int (Int32.ofNat (bs.length + (own_w n)))), .val (.ref d), s3, s4, .val (.int (Int32.ofNat (bs.length + (r - 1)))), .val (.int (0 : Int32))] [])
      rw [own_cl (show bs.length + (r - 1) < 2147483648 by omega), own_nard _ (by omega), show bs.length + (r - 1) = bs.length + ((own_w n) - (t) - 1) by omega, own_Lset (show t < (own_w n) by omega)] at Vq93
      have c9 := Jvm.Free.SBG.negI_lt (show 9 ≤ 2 ^ 31 by decide) y hm2
      rw [show Jvm.Free.SBG.negI 9 = (-9 : Int32) from by decide +kernel] at c9
      refine os (fun _ k => XS.iloadN X93.here hx rfl (hb hby d33_12_85) rfl k) ?_
      show OGo p e below _ T93 (mkF m 86 #[.val (.int (Jvm.Free.SBG.negI (y))), .val (.int (Int32.ofNat (bs.length + (own_w n)))), .val (.ref d), s3, s4, .val (.int (Int32.ofNat (bs.length + (r - 1)))), .val (.int (0 : Int32))] [(.int (Jvm.Free.SBG.negI (y)))])
      refine os (fun _ k => XS.bipush X93.here hx rfl (hb hby d33_12_86) k) ?_
      show OGo p e below _ T93 (mkF m 88 #[.val (.int (Jvm.Free.SBG.negI (y))), .val (.int (Int32.ofNat (bs.length + (own_w n)))), .val (.ref d), s3, s4, .val (.int (Int32.ofNat (bs.length + (r - 1)))), .val (.int (0 : Int32))] [(.int (-9 : Int32)), (.int (Jvm.Free.SBG.negI (y)))])
      by_cases q9 : y < 10
      case neg =>
        obtain rfl := own_r2 hlt hle (by omega) q
        refine os (fun _ k => XS.icmpNo X93.here hx rfl (hb hby d33_12_88) rfl (tlt (c9.mpr (by omega))).2.1 k) ?_
        show OGo p e below _ T93 (mkF m 91 #[.val (.int (Jvm.Free.SBG.negI (y))), .val (.int (Int32.ofNat (bs.length + (own_w n)))), .val (.ref d), s3, s4, .val (.int (Int32.ofNat (bs.length + (2 - 1)))), .val (.int (0 : Int32))] [])
        refine os (fun _ k => XS.aloadN X93.here hx rfl (hb hby d33_12_91) rfl rfl k) ?_
        show OGo p e below _ T93 (mkF m 92 #[.val (.int (Jvm.Free.SBG.negI (y))), .val (.int (Int32.ofNat (bs.length + (own_w n)))), .val (.ref d), s3, s4, .val (.int (Int32.ofNat (bs.length + (2 - 1)))), .val (.int (0 : Int32))] [(.ref d)])
        refine os (fun _ k => XS.iinc X93.here hx rfl (hb hby d33_12_92) rfl (l' := #[.val (.int (Jvm.Free.SBG.negI (y))), .val (.int (Int32.ofNat (bs.length + (own_w n)))), .val (.ref d), s3, s4, .val (.int ((Int32.ofNat (bs.length + (2 - 1))) + (-1 : Int32))), .val (.int (0 : Int32))]) rfl k) ?_
        show OGo p e below _ T93 (mkF m 95 #[.val (.int (Jvm.Free.SBG.negI (y))), .val (.int (Int32.ofNat (bs.length + (own_w n)))), .val (.ref d), s3, s4, .val (.int ((Int32.ofNat (bs.length + (2 - 1))) + (-1 : Int32))), .val (.int (0 : Int32))] [(.ref d)])
        rw [own_dec (show 1 ≤ bs.length + (2 - 1) by omega), show bs.length + (2 - 1) - 1 = bs.length + (2 - 2) by omega]
        show OGo p e below _ T93 (mkF m 95 #[.val (.int (Jvm.Free.SBG.negI (y))), .val (.int (Int32.ofNat (bs.length + (own_w n)))), .val (.ref d), s3, s4, .val (.int (Int32.ofNat (bs.length + (2 - 2)))), .val (.int (0 : Int32))] [(.ref d)])
        refine os (fun _ k => XS.iload X93.here hx rfl (hb hby d33_12_95) rfl k) ?_
        show OGo p e below _ T93 (mkF m 97 #[.val (.int (Jvm.Free.SBG.negI (y))), .val (.int (Int32.ofNat (bs.length + (own_w n)))), .val (.ref d), s3, s4, .val (.int (Int32.ofNat (bs.length + (2 - 2)))), .val (.int (0 : Int32))] [(.int (Int32.ofNat (bs.length + (2 - 2)))), (.ref d)])
        obtain ⟨T94, X94, e94, st94⟩ := getS2 X93 hx hZ hown (host := "") (Or.inl (own_g hw 270 rfl)) Via.refl e93 (S2.ext (Oo.wr W93 g_d).2) (g := (mkF m 97 #[.val (.int (Jvm.Free.SBG.negI (y))), .val (.int (Int32.ofNat (bs.length + (own_w n)))), .val (.ref d), s3, s4, .val (.int (Int32.ofNat (bs.length + (2 - 2)))), .val (.int (0 : Int32))] [(.int (Int32.ofNat (bs.length + (2 - 2)))), (.ref d)])) rfl (hb hby d33_12_97)
        refine os st94 ?_
        show OGo p e below _ T94 (mkF m 100 #[.val (.int (Jvm.Free.SBG.negI (y))), .val (.int (Int32.ofNat (bs.length + (own_w n)))), .val (.ref d), s3, s4, .val (.int (Int32.ofNat (bs.length + (2 - 2)))), .val (.int (0 : Int32))] [(.ref d2), (.int (Int32.ofNat (bs.length + (2 - 2)))), (.ref d)])
        refine os (fun _ k => XS.iloadN X94.here hx rfl (hb hby d33_12_100) rfl k) ?_
        show OGo p e below _ T94 (mkF m 101 #[.val (.int (Jvm.Free.SBG.negI (y))), .val (.int (Int32.ofNat (bs.length + (own_w n)))), .val (.ref d), s3, s4, .val (.int (Int32.ofNat (bs.length + (2 - 2)))), .val (.int (0 : Int32))] [(.int (Jvm.Free.SBG.negI (y))), (.ref d2), (.int (Int32.ofNat (bs.length + (2 - 2)))), (.ref d)])
        refine os (fun _ k => XS.ineg X94.here hx rfl (hb hby d33_12_101) rfl k) ?_
        show OGo p e below _ T94 (mkF m 102 #[.val (.int (Jvm.Free.SBG.negI (y))), .val (.int (Int32.ofNat (bs.length + (own_w n)))), .val (.ref d), s3, s4, .val (.int (Int32.ofNat (bs.length + (2 - 2)))), .val (.int (0 : Int32))] [(.int (-(Jvm.Free.SBG.negI (y)))), (.ref d2), (.int (Int32.ofNat (bs.length + (2 - 2)))), (.ref d)])
        rw [Jvm.Free.SBG.neg_negI (show y < 2 ^ 31 by omega)]
        show OGo p e below _ T94 (mkF m 102 #[.val (.int (Jvm.Free.SBG.negI (y))), .val (.int (Int32.ofNat (bs.length + (own_w n)))), .val (.ref d), s3, s4, .val (.int (Int32.ofNat (bs.length + (2 - 2)))), .val (.int (0 : Int32))] [(.int (Int32.ofNat (y))), (.ref d2), (.int (Int32.ofNat (bs.length + (2 - 2)))), (.ref d)])
        refine os (fun _ k => baloadV X94 hx hZ e94 (U2.other W93 n2) ⟨own_nn (by omega), (own_lt (b := 100) (by omega) (by decide)).mpr q⟩ (own_tenat q) (g := (mkF m 102 #[.val (.int (Jvm.Free.SBG.negI (y))), .val (.int (Int32.ofNat (bs.length + (own_w n)))), .val (.ref d), s3, s4, .val (.int (Int32.ofNat (bs.length + (2 - 2)))), .val (.int (0 : Int32))] [(.int (Int32.ofNat (y))), (.ref d2), (.int (Int32.ofNat (bs.length + (2 - 2)))), (.ref d)])) rfl rfl (hb hby d33_12_102) _ k) ?_
        show OGo p e below _ T94 (mkF m 103 #[.val (.int (Jvm.Free.SBG.negI (y))), .val (.int (Int32.ofNat (bs.length + (own_w n)))), .val (.ref d), s3, s4, .val (.int (Int32.ofNat (bs.length + (2 - 2)))), .val (.int (0 : Int32))] [(.int (Int32.ofNat (48 + y / 10))), (.int (Int32.ofNat (bs.length + (2 - 2)))), (.ref d)])
        rw [show y / 10 = n / 10 ^ (t + 1) % 10 from (by rw [← own_divq, ← hm]; omega)]
        show OGo p e below _ T94 (mkF m 103 #[.val (.int (Jvm.Free.SBG.negI (y))), .val (.int (Int32.ofNat (bs.length + (own_w n)))), .val (.ref d), s3, s4, .val (.int (Int32.ofNat (bs.length + (2 - 2)))), .val (.int (0 : Int32))] [(.int (Int32.ofNat (48 + n / 10 ^ (t + 1) % 10))), (.int (Int32.ofNat (bs.length + (2 - 2)))), (.ref d)])
        have hj : ¬ Int32.ofNat (bs.length + (2 - 2)) < 0 ∧ Int32.ofNat (bs.length + (2 - 2)) < (Int32.ofNat zn) := ⟨own_nn (by omega), (own_lt (by omega) (by omega)).mpr (by omega)⟩
        obtain ⟨T95, h95, X95, e95, W95, Vq95, st95⟩ := bastoreV X94 hx hZ e94 Vq93 (j := (Int32.ofNat (bs.length + (2 - 2)))) hj (by rw [own_cl (by omega), own_Llen (by omega)]; omega) (g := (mkF m 103 #[.val (.int (Jvm.Free.SBG.negI (y))), .val (.int (Int32.ofNat (bs.length + (own_w n)))), .val (.ref d), s3, s4, .val (.int (Int32.ofNat (bs.length + (2 - 2)))), .val (.int (0 : Int32))] [(.int (Int32.ofNat (48 + n / 10 ^ (t + 1) % 10))), (.int (Int32.ofNat (bs.length + (2 - 2)))), (.ref d)])) rfl rfl (hb hby d33_12_103)
        have N95 := Fr.snoc X95 N93 g_d
        have KK95 : Keep h0 h95 [d] := KK93.wr W95 (Or.inl (List.mem_of_getElem? (i := 0) rfl))
        refine os st95 ?_
        show OGo p e below _ T95 (mkF m 104 #[.val (.int (Jvm.Free.SBG.negI (y))), .val (.int (Int32.ofNat (bs.length + (own_w n)))), .val (.ref d), s3, s4, .val (.int (Int32.ofNat (bs.length + (2 - 2)))), .val (.int (0 : Int32))] [])
        rw [own_cl (show bs.length + (2 - 2) < 2147483648 by omega), own_nard _ (by omega), show bs.length + (2 - 2) = bs.length + ((own_w n) - (t + 1) - 1) by omega, own_Lset (show t + 1 < (own_w n) by omega)] at Vq95
        refine os (fun _ k => XS.iload X95.here hx rfl (hb hby d33_12_104) rfl k) ?_
        show OGo p e below _ T95 (mkF m 106 #[.val (.int (Jvm.Free.SBG.negI (y))), .val (.int (Int32.ofNat (bs.length + (own_w n)))), .val (.ref d), s3, s4, .val (.int (Int32.ofNat (bs.length + (2 - 2)))), .val (.int (0 : Int32))] [(.int (0 : Int32))])
        refine os (fun _ k => XS.ifYes X95.here hx rfl (pc0 := 106) (pc' := 118) rfl (hb hby d33_12_106) rfl ((if0 _ _).trans (teq (rfl : (0 : Int32) = 0)).1) (by decide) (by decide) k) ?_
        show OGo p e below _ T95 (mkF m 118 #[.val (.int (Jvm.Free.SBG.negI (y))), .val (.int (Int32.ofNat (bs.length + (own_w n)))), .val (.ref d), s3, s4, .val (.int (Int32.ofNat (bs.length + (2 - 2)))), .val (.int (0 : Int32))] [])
        refine os (fun _ k => XS.iload X95.here hx rfl (hb hby d33_12_118) rfl k) ?_
        show OGo p e below _ T95 (mkF m 120 #[.val (.int (Jvm.Free.SBG.negI (y))), .val (.int (Int32.ofNat (bs.length + (own_w n)))), .val (.ref d), s3, s4, .val (.int (Int32.ofNat (bs.length + (2 - 2)))), .val (.int (0 : Int32))] [(.int (Int32.ofNat (bs.length + (2 - 2))))])
        exact OGo.ret X95 hx (t := .int) hret hlk rfl (Or.inl ⟨rfl, by simp, _, rfl⟩) (hb hby d33_12_120) (by decide) (by decide) (by rw [e95]; exact ⟨rfl, N95, KK95, by have q := Vq95; rw [show t + 1 + 1 = (own_w n) by omega, own_Lw] at q; exact q⟩)
      obtain rfl := own_r1 hr hle q9
      refine os (fun _ k => XS.icmpYes X93.here hx rfl (pc0 := 88) (pc' := 104) rfl (hb hby d33_12_88) rfl (flt (fun h => absurd (c9.mp h) (by omega))).2.1 (by decide) (by decide) k) ?_
      show OGo p e below _ T93 (mkF m 104 #[.val (.int (Jvm.Free.SBG.negI (y))), .val (.int (Int32.ofNat (bs.length + (own_w n)))), .val (.ref d), s3, s4, .val (.int (Int32.ofNat (bs.length + (1 - 1)))), .val (.int (0 : Int32))] [])
      refine os (fun _ k => XS.iload X93.here hx rfl (hb hby d33_12_104) rfl k) ?_
      show OGo p e below _ T93 (mkF m 106 #[.val (.int (Jvm.Free.SBG.negI (y))), .val (.int (Int32.ofNat (bs.length + (own_w n)))), .val (.ref d), s3, s4, .val (.int (Int32.ofNat (bs.length + (1 - 1)))), .val (.int (0 : Int32))] [(.int (0 : Int32))])
      refine os (fun _ k => XS.ifYes X93.here hx rfl (pc0 := 106) (pc' := 118) rfl (hb hby d33_12_106) rfl ((if0 _ _).trans (teq (rfl : (0 : Int32) = 0)).1) (by decide) (by decide) k) ?_
      show OGo p e below _ T93 (mkF m 118 #[.val (.int (Jvm.Free.SBG.negI (y))), .val (.int (Int32.ofNat (bs.length + (own_w n)))), .val (.ref d), s3, s4, .val (.int (Int32.ofNat (bs.length + (1 - 1)))), .val (.int (0 : Int32))] [])
      refine os (fun _ k => XS.iload X93.here hx rfl (hb hby d33_12_118) rfl k) ?_
      show OGo p e below _ T93 (mkF m 120 #[.val (.int (Jvm.Free.SBG.negI (y))), .val (.int (Int32.ofNat (bs.length + (own_w n)))), .val (.ref d), s3, s4, .val (.int (Int32.ofNat (bs.length + (1 - 1)))), .val (.int (0 : Int32))] [(.int (Int32.ofNat (bs.length + (1 - 1))))])
      exact OGo.ret X93 hx (t := .int) hret hlk rfl (Or.inl ⟨rfl, by simp, _, rfl⟩) (hb hby d33_12_120) (by decide) (by decide) (by rw [e93]; exact ⟨rfl, N93, KK93, by have q := Vq93; rw [show t + 1 = (own_w n) by omega, own_Lw] at q; exact q⟩)
  have V0 : Arv Z h0 d k .byte (Int32.ofNat zn) (own_L bs (own_w n) 0 n) (.int (0 : Int32)) := by rw [own_L0]; exact V.pad (pad_rep _ _ _)
  exact loop _ (own_w n) 0 n _ _ _ _ _ (Nat.le_refl _) (Nat.zero_add _) (by rw [Nat.pow_zero, Nat.div_one]) P1 P2 P3 One.u One.u X0 e0 N0 (Keep.refl _ _) O W1 W2 V0
theorem d68_32_0 : decode jdk_68_method_32_code 0 = .ok (.aload_n 0, 1) := by decide +kernel
theorem d68_32_1 : decode jdk_68_method_32_code 1 = .ok (.getfield 79, 3) := by decide +kernel
theorem d68_32_4 : decode jdk_68_method_32_code 4 = .ok (.istore_n 2, 1) := by decide +kernel
theorem d68_32_5 : decode jdk_68_method_32_code 5 = .ok (.iload_n 2, 1) := by decide +kernel
theorem d68_32_6 : decode jdk_68_method_32_code 6 = .ok (.iload_n 1, 1) := by decide +kernel
theorem d68_32_7 : decode jdk_68_method_32_code 7 = .ok (.invokestatic 245, 3) := by decide +kernel
theorem d68_32_10 : decode jdk_68_method_32_code 10 = .ok (.iadd, 1) := by decide +kernel
theorem d68_32_11 : decode jdk_68_method_32_code 11 = .ok (.istore_n 3, 1) := by decide +kernel
theorem d68_32_12 : decode jdk_68_method_32_code 12 = .ok (.aload_n 0, 1) := by decide +kernel
theorem d68_32_13 : decode jdk_68_method_32_code 13 = .ok (.iload_n 3, 1) := by decide +kernel
theorem d68_32_14 : decode jdk_68_method_32_code 14 = .ok (.invokevirtual 100, 3) := by decide +kernel
theorem d68_32_17 : decode jdk_68_method_32_code 17 = .ok (.aload_n 0, 1) := by decide +kernel
theorem d68_32_18 : decode jdk_68_method_32_code 18 = .ok (.invokevirtual 83, 3) := by decide +kernel
theorem d68_32_21 : decode jdk_68_method_32_code 21 = .ok (.ifCond .eq 16, 3) := by decide +kernel
theorem d68_32_24 : decode jdk_68_method_32_code 24 = .ok (.iload_n 1, 1) := by decide +kernel
theorem d68_32_25 : decode jdk_68_method_32_code 25 = .ok (.iload_n 3, 1) := by decide +kernel
theorem d68_32_26 : decode jdk_68_method_32_code 26 = .ok (.aload_n 0, 1) := by decide +kernel
theorem d68_32_27 : decode jdk_68_method_32_code 27 = .ok (.getfield 15, 3) := by decide +kernel
theorem opd_19 : parseMethodDescriptor "(II[B)I" = some ⟨[.int, .int, (.array .byte)], some .int⟩ := by decide +kernel
theorem d68_32_30 : decode jdk_68_method_32_code 30 = .ok (.invokestatic 248, 3) := by decide +kernel
theorem d68_32_33 : decode jdk_68_method_32_code 33 = .ok (.pop, 1) := by decide +kernel
theorem d68_32_34 : decode jdk_68_method_32_code 34 = .ok (.goto 14, 3) := by decide +kernel
theorem d68_32_48 : decode jdk_68_method_32_code 48 = .ok (.aload_n 0, 1) := by decide +kernel
theorem d68_32_49 : decode jdk_68_method_32_code 49 = .ok (.iload_n 3, 1) := by decide +kernel
theorem d68_32_50 : decode jdk_68_method_32_code 50 = .ok (.putfield 79, 3) := by decide +kernel
theorem d68_32_53 : decode jdk_68_method_32_code 53 = .ok (.aload_n 0, 1) := by decide +kernel
theorem d68_32_54 : decode jdk_68_method_32_code 54 = .ok (.areturn, 1) := by decide +kernel
theorem opl_rm_asbI : plainFor (⟨"java/lang/AbstractStringBuilder", "append", "(I)Ljava/lang/AbstractStringBuilder;"⟩ : MethodName) = true := plainFor_of_name (by first | (simp [plainName, overriddenIn]; done) | decide +kernel)
set_option maxRecDepth 65536 in
set_option maxHeartbeats 40000000 in
theorem rm_asbI (l : Launch) (Z : State) (a0 : Array Value) (hw : ∀ d ∈ tables_1, d.before a0 Z = true) (ws : List Jvm.Cond) (n : Nat) (b d : Addr) (k : ClassId) (zn : Nat) (bs : List Value) (zc : Int32) (wf : Value) (n0 : Nat) (d1 d2 : Addr) (kd1 kd2 : ClassId) (h0 : Heap) (SS : own_SS Z zc wf) (O : Old Z n0 h0) (SI : own_SI Z d1 d2 kd1 kd2) (hn : n < 2147483648) (J : SBI Z h0 b d k (Int32.ofNat zn) bs) (hzn : zn ≤ 36) (hbz : bs.length ≤ zn) (g_b : n0 ≤ b) (g_d : n0 ≤ d) (hsm : bs.length + own_w n ≤ 36) :
    Con l Z (⟨"java/lang/AbstractStringBuilder", "append", "(I)Ljava/lang/AbstractStringBuilder;"⟩ : MethodName) jdk_68_method_32_code 4 (some (.object "java/lang/AbstractStringBuilder")) ws ({ frames := 4, cells := 1, slots := 74, locals := 62 } : Room) #[(.ref b), (.int (Int32.ofNat n))] h0 (fun v h L => v = some (.ref b) ∧ Fr n0 L ∧ Keep h0 h [b, d] ∧ ∃ d' k', (d' = d ∨ h0.size ≤ d') ∧ SBI Z h b d' k' (Int32.ofNat (own_cap zn (bs.length + own_w n))) (bs ++ own_dig (own_w n) n)) := by
  refine Con.intro opl_rm_asbI ?_
  intro p e s m below meth c s₁ hx hby hml hown hret hlk hZ hnm X0 e0
  have SS' := SS
  obtain ⟨hzc, SC, hwf, SF⟩ := SS
  have Z0 : n0 ≤ h0.size := O.1 ▸ O.2.1
  have N0 := Fr.nil n0
  obtain ⟨JE, JF, JC, JN, JV, JX⟩ := J
  have nbd : b ≠ d := JE.neArv JV (own_g hw 94 rfl)
  have SI' := SI
  obtain ⟨S1, V1, S2, V2⟩ := SI
  refine OGo.cast (g' := (mkF m 0 #[.val (.ref b), .val (.int (Int32.ofNat n)), .unset, .unset] [])) (by first | (simp [entryFrame, mkF, argsToLocals, Value.category]; done) | rfl) ?_
  show OGo p e below _ s₁ (mkF m 0 #[.val (.ref b), .val (.int (Int32.ofNat n)), .unset, .unset] [])
  refine os (fun _ k => XS.aloadN X0.here hx rfl (hb hby d68_32_0) rfl rfl k) ?_
  show OGo p e below _ s₁ (mkF m 1 #[.val (.ref b), .val (.int (Int32.ofNat n)), .unset, .unset] [(.ref b)])
  obtain ⟨T96, X96, e96, st96⟩ := getF X0 hx hZ hown (host := "") (Or.inl (own_g hw 131 rfl)) Via.refl e0 JN (g := (mkF m 1 #[.val (.ref b), .val (.int (Int32.ofNat n)), .unset, .unset] [(.ref b)])) rfl rfl (hb hby d68_32_1)
  refine os st96 ?_
  show OGo p e below _ T96 (mkF m 4 #[.val (.ref b), .val (.int (Int32.ofNat n)), .unset, .unset] [(.int (Int32.ofNat bs.length))])
  refine os (fun _ k => XS.istoreN X96.here hx rfl (hb hby d68_32_4) rfl (l' := #[.val (.ref b), .val (.int (Int32.ofNat n)), .val (.int (Int32.ofNat bs.length)), .unset]) rfl k) ?_
  show OGo p e below _ T96 (mkF m 5 #[.val (.ref b), .val (.int (Int32.ofNat n)), .val (.int (Int32.ofNat bs.length)), .unset] [])
  refine os (fun _ k => XS.iloadN X96.here hx rfl (hb hby d68_32_5) rfl k) ?_
  show OGo p e below _ T96 (mkF m 6 #[.val (.ref b), .val (.int (Int32.ofNat n)), .val (.int (Int32.ofNat bs.length)), .unset] [(.int (Int32.ofNat bs.length))])
  refine os (fun _ k => XS.iloadN X96.here hx rfl (hb hby d68_32_6) rfl k) ?_
  show OGo p e below _ T96 (mkF m 7 #[.val (.ref b), .val (.int (Int32.ofNat n)), .val (.int (Int32.ofNat bs.length)), .unset] [(.int (Int32.ofNat n)), (.int (Int32.ofNat bs.length))])
  obtain ⟨v97, T97, L97, X97, hQ97, st97⟩ := scall X96 hx hZ hown (own_g hw 240 rfl) (own_g hw 241 rfl) (own_g hw 242 rfl) (own_g hw 243 rfl) (by decide) (W := 1) (rm_ssize l Z a0 hw [] n h0 hn) e96 (by decide) (by decide) (by decide) (by decide) (g := (mkF m 7 #[.val (.ref b), .val (.int (Int32.ofNat n)), .val (.int (Int32.ofNat bs.length)), .unset] [(.int (Int32.ofNat n)), (.int (Int32.ofNat bs.length))])) rfl (by rw [hml]; rfl) (argsL := [(.int (Int32.ofNat n))]) (rest := [(.int (Int32.ofNat bs.length))]) opd_7 rfl rfl rfl (by show 2 * 0 + _ ≤ _; exact Nat.le_of_eq rfl) (hb hby d68_32_7)
  obtain ⟨rfl, rfl, e97⟩ := hQ97
  rw [List.append_nil] at X97
  refine os st97 ?_
  show OGo p e below _ T97 (mkF m 10 #[.val (.ref b), .val (.int (Int32.ofNat n)), .val (.int (Int32.ofNat bs.length)), .unset] [(.int (Int32.ofNat (own_w n))), (.int (Int32.ofNat bs.length))])
  refine os (fun _ k => XS.iadd X97.here hx rfl (hb hby d68_32_10) rfl k) ?_
  show OGo p e below _ T97 (mkF m 11 #[.val (.ref b), .val (.int (Int32.ofNat n)), .val (.int (Int32.ofNat bs.length)), .unset] [(.int ((Int32.ofNat bs.length) + (Int32.ofNat (own_w n))))])
  rw [own_addn]
  show OGo p e below _ T97 (mkF m 11 #[.val (.ref b), .val (.int (Int32.ofNat n)), .val (.int (Int32.ofNat bs.length)), .unset] [(.int (Int32.ofNat (bs.length + own_w n)))])
  refine os (fun _ k => XS.istoreN X97.here hx rfl (hb hby d68_32_11) rfl (l' := #[.val (.ref b), .val (.int (Int32.ofNat n)), .val (.int (Int32.ofNat bs.length)), .val (.int (Int32.ofNat (bs.length + own_w n)))]) rfl k) ?_
  show OGo p e below _ T97 (mkF m 12 #[.val (.ref b), .val (.int (Int32.ofNat n)), .val (.int (Int32.ofNat bs.length)), .val (.int (Int32.ofNat (bs.length + own_w n)))] [])
  refine os (fun _ k => XS.aloadN X97.here hx rfl (hb hby d68_32_12) rfl rfl k) ?_
  show OGo p e below _ T97 (mkF m 13 #[.val (.ref b), .val (.int (Int32.ofNat n)), .val (.int (Int32.ofNat bs.length)), .val (.int (Int32.ofNat (bs.length + own_w n)))] [(.ref b)])
  refine os (fun _ k => XS.iloadN X97.here hx rfl (hb hby d68_32_13) rfl k) ?_
  show OGo p e below _ T97 (mkF m 14 #[.val (.ref b), .val (.int (Int32.ofNat n)), .val (.int (Int32.ofNat bs.length)), .val (.int (Int32.ofNat (bs.length + own_w n)))] [(.int (Int32.ofNat (bs.length + own_w n))), (.ref b)])
  obtain ⟨v98, T98, L98, X98, hQ98, st98⟩ := pcall X97 hx hZ hown (own_g hw 133 rfl) (own_g hw 134 rfl) (own_g hw 136 rfl) (own_g hw 135 rfl) (own_g hw 103 rfl) (own_g hw 137 rfl) (by decide) (W := 0) (rm_ensG l Z a0 hw [] b d k zn bs (bs.length + own_w n) zc wf n0 h0 SS' O ⟨JE, JF, JC, JN, JV, JX⟩ hzn hbz hsm g_b) e97 (by decide) (by decide) (by decide) (by decide) (g := (mkF m 14 #[.val (.ref b), .val (.int (Int32.ofNat n)), .val (.int (Int32.ofNat bs.length)), .val (.int (Int32.ofNat (bs.length + own_w n)))] [(.int (Int32.ofNat (bs.length + own_w n))), (.ref b)])) rfl (by rw [hml]; rfl) JE (argsL := [(.int (Int32.ofNat (bs.length + own_w n)))]) (rest := []) opd_12 rfl rfl rfl (by show 2 * 0 + _ ≤ _; exact Nat.le_of_eq rfl) (hb hby d68_32_14)
  obtain ⟨rfl, N98, K98, d98, k98, hd98, J98⟩ := hQ98
  have NN98 := Fr.app N0 N98
  have KK98 : Keep h0 T98.heap [b, d] := (Keep.refl h0 [b, d]).trans K98 (allS (Or.inl (List.mem_of_getElem? (i := 0) rfl)) all0)
  refine os st98 ?_
  show OGo p e below _ T98 (mkF m 17 #[.val (.ref b), .val (.int (Int32.ofNat n)), .val (.int (Int32.ofNat bs.length)), .val (.int (Int32.ofNat (bs.length + own_w n)))] [])
  have g_d98 : n0 ≤ d98 := hd98.elim (fun q => q ▸ g_d) (fun q => Nat.le_trans (Nat.le_trans Z0 (Keep.refl h0 [b, d]).1) q)
  have sz_d98 : d98 ∈ [b, d] ∨ h0.size ≤ d98 := hd98.elim (fun q => Or.inl (q ▸ List.mem_of_getElem? (i := 1) rfl)) Or.inr
  obtain ⟨JE98, JF98, JC98, JN98, JV98, JX98⟩ := J98
  have nb2 : b ≠ d98 := JE98.neArv JV98 (own_g hw 94 rfl)
  have hcb : own_cap zn (bs.length + own_w n) ≤ 74 := by unfold own_cap; split <;> omega
  have hcg := own_cap_ge zn (bs.length + own_w n)
  refine os (fun _ k => XS.aloadN X98.here hx rfl (hb hby d68_32_17) rfl rfl k) ?_
  show OGo p e below _ T98 (mkF m 18 #[.val (.ref b), .val (.int (Int32.ofNat n)), .val (.int (Int32.ofNat bs.length)), .val (.int (Int32.ofNat (bs.length + own_w n)))] [(.ref b)])
  obtain ⟨v99, T99, L99, X99, hQ99, st99⟩ := vcall X98 hx hZ hown (own_g hw 244 rfl) (own_g hw 187 rfl) (own_g hw 189 rfl) rfl (own_g hw 189 rfl) (own_g hw 188 rfl) (own_g hw 103 rfl) (own_g hw 190 rfl) (by decide) (W := 0) (rm_asbL1 l Z a0 hw [] b d98 k98 (own_cap zn (bs.length + own_w n)) bs zc wf n0 T98.heap SS' (O.keep K98 (allS g_b all0)) ⟨JE98, JF98, JC98, JN98, JV98, JX98⟩) rfl (by decide) (by decide) (by decide) (by decide) (g := (mkF m 18 #[.val (.ref b), .val (.int (Int32.ofNat n)), .val (.int (Int32.ofNat bs.length)), .val (.int (Int32.ofNat (bs.length + own_w n)))] [(.ref b)])) rfl (by rw [hml]; rfl) JE98 (argsL := []) (rest := []) opd_3 rfl rfl rfl (by show 2 * 0 + _ ≤ _; exact Nat.le_of_eq rfl) (hb hby d68_32_18)
  obtain ⟨rfl, rfl, e99⟩ := hQ99
  rw [List.append_nil] at X99
  refine os st99 ?_
  show OGo p e below _ T99 (mkF m 21 #[.val (.ref b), .val (.int (Int32.ofNat n)), .val (.int (Int32.ofNat bs.length)), .val (.int (Int32.ofNat (bs.length + own_w n)))] [(.int (1 : Int32))])
  refine os (fun _ k => XS.ifNo X99.here hx rfl (hb hby d68_32_21) rfl ((if0 _ _).trans (feq (by decide : ¬ (1 : Int32) = 0)).1) k) ?_
  show OGo p e below _ T99 (mkF m 24 #[.val (.ref b), .val (.int (Int32.ofNat n)), .val (.int (Int32.ofNat bs.length)), .val (.int (Int32.ofNat (bs.length + own_w n)))] [])
  refine os (fun _ k => XS.iloadN X99.here hx rfl (hb hby d68_32_24) rfl k) ?_
  show OGo p e below _ T99 (mkF m 25 #[.val (.ref b), .val (.int (Int32.ofNat n)), .val (.int (Int32.ofNat bs.length)), .val (.int (Int32.ofNat (bs.length + own_w n)))] [(.int (Int32.ofNat n))])
  refine os (fun _ k => XS.iloadN X99.here hx rfl (hb hby d68_32_25) rfl k) ?_
  show OGo p e below _ T99 (mkF m 26 #[.val (.ref b), .val (.int (Int32.ofNat n)), .val (.int (Int32.ofNat bs.length)), .val (.int (Int32.ofNat (bs.length + own_w n)))] [(.int (Int32.ofNat (bs.length + own_w n))), (.int (Int32.ofNat n))])
  refine os (fun _ k => XS.aloadN X99.here hx rfl (hb hby d68_32_26) rfl rfl k) ?_
  show OGo p e below _ T99 (mkF m 27 #[.val (.ref b), .val (.int (Int32.ofNat n)), .val (.int (Int32.ofNat bs.length)), .val (.int (Int32.ofNat (bs.length + own_w n)))] [(.ref b), (.int (Int32.ofNat (bs.length + own_w n))), (.int (Int32.ofNat n))])
  obtain ⟨T100, X100, e100, st100⟩ := getF X99 hx hZ hown (host := "") (Or.inl (own_g hw 107 rfl)) Via.refl e99 JF98 (g := (mkF m 27 #[.val (.ref b), .val (.int (Int32.ofNat n)), .val (.int (Int32.ofNat bs.length)), .val (.int (Int32.ofNat (bs.length + own_w n)))] [(.ref b), (.int (Int32.ofNat (bs.length + own_w n))), (.int (Int32.ofNat n))])) rfl rfl (hb hby d68_32_27)
  refine os st100 ?_
  show OGo p e below _ T100 (mkF m 30 #[.val (.ref b), .val (.int (Int32.ofNat n)), .val (.int (Int32.ofNat bs.length)), .val (.int (Int32.ofNat (bs.length + own_w n)))] [(.ref d98), (.int (Int32.ofNat (bs.length + own_w n))), (.int (Int32.ofNat n))])
  obtain ⟨v101, T101, L101, X101, hQ101, st101⟩ := scall X100 hx hZ hown (own_g hw 245 rfl) (own_g hw 246 rfl) (own_g hw 242 rfl) (own_g hw 247 rfl) (by decide) (W := 0) (rm_getC l Z a0 hw [] n d98 k98 (own_cap zn (bs.length + own_w n)) bs zc wf n0 d1 d2 kd1 kd2 T98.heap SS' (O.keep K98 (allS g_b all0)) SI' hn JV98 hcg hcb g_d98) e100 (by decide) (by decide) (by decide) (by decide) (g := (mkF m 30 #[.val (.ref b), .val (.int (Int32.ofNat n)), .val (.int (Int32.ofNat bs.length)), .val (.int (Int32.ofNat (bs.length + own_w n)))] [(.ref d98), (.int (Int32.ofNat (bs.length + own_w n))), (.int (Int32.ofNat n))])) rfl (by rw [hml]; rfl) (argsL := [(.int (Int32.ofNat n)), (.int (Int32.ofNat (bs.length + own_w n))), (.ref d98)]) (rest := []) opd_19 rfl rfl rfl (by show 2 * 0 + _ ≤ _; exact Nat.le_of_eq rfl) (hb hby d68_32_30)
  obtain ⟨rfl, N101, K101, V101⟩ := hQ101
  have NN101 := Fr.app NN98 N101
  have KK101 : Keep h0 T101.heap [b, d] := KK98.trans K101 (allS sz_d98 all0)
  refine os st101 ?_
  show OGo p e below _ T101 (mkF m 33 #[.val (.ref b), .val (.int (Int32.ofNat n)), .val (.int (Int32.ofNat bs.length)), .val (.int (Int32.ofNat (bs.length + own_w n)))] [(.int (Int32.ofNat bs.length))])
  refine os (fun _ k => XS.pop X101.here hx rfl (hb hby d68_32_33) rfl rfl k) ?_
  show OGo p e below _ T101 (mkF m 34 #[.val (.ref b), .val (.int (Int32.ofNat n)), .val (.int (Int32.ofNat bs.length)), .val (.int (Int32.ofNat (bs.length + own_w n)))] [])
  refine os (fun _ k => XS.goto X101.here hx rfl (pc0 := 34) (pc' := 48) rfl (hb hby d68_32_34) (by decide) (by decide) k) ?_
  show OGo p e below _ T101 (mkF m 48 #[.val (.ref b), .val (.int (Int32.ofNat n)), .val (.int (Int32.ofNat bs.length)), .val (.int (Int32.ofNat (bs.length + own_w n)))] [])
  refine os (fun _ k => XS.aloadN X101.here hx rfl (hb hby d68_32_48) rfl rfl k) ?_
  show OGo p e below _ T101 (mkF m 49 #[.val (.ref b), .val (.int (Int32.ofNat n)), .val (.int (Int32.ofNat bs.length)), .val (.int (Int32.ofNat (bs.length + own_w n)))] [(.ref b)])
  refine os (fun _ k => XS.iloadN X101.here hx rfl (hb hby d68_32_49) rfl k) ?_
  show OGo p e below _ T101 (mkF m 50 #[.val (.ref b), .val (.int (Int32.ofNat n)), .val (.int (Int32.ofNat bs.length)), .val (.int (Int32.ofNat (bs.length + own_w n)))] [(.int (Int32.ofNat (bs.length + own_w n))), (.ref b)])
  rw [show Int32.ofNat (bs.length + own_w n) = Int32.ofNat (bs ++ own_dig (own_w n) n).length by rw [List.length_append, own_diglen]]
  show OGo p e below _ T101 (mkF m 50 #[.val (.ref b), .val (.int (Int32.ofNat n)), .val (.int (Int32.ofNat bs.length)), .val (.int (Int32.ofNat (bs ++ own_dig (own_w n) n).length))] [(.int (Int32.ofNat (bs ++ own_dig (own_w n) n).length)), (.ref b)])
  obtain ⟨T102, h102, X102, e102, W102, st102⟩ := putF X101 hx hZ hown (host := "") (Or.inl (own_g hw 131 rfl)) Via.refl rfl (JN98.keep K101 (ninS nb2 nin0)) (JE98.keep K101) (Or.inl (own_g hw 132 rfl)) (own_g hw 94 rfl) (ty := .int) (by decide) rfl rfl (g := (mkF m 50 #[.val (.ref b), .val (.int (Int32.ofNat n)), .val (.int (Int32.ofNat bs.length)), .val (.int (Int32.ofNat (bs ++ own_dig (own_w n) n).length))] [(.int (Int32.ofNat (bs ++ own_dig (own_w n) n).length)), (.ref b)])) rfl rfl (hb hby d68_32_50)
  have Fw102 := (JN98.keep K101 (ninS nb2 nin0)).same W102
  have N102 := Fr.snoc X102 NN101 g_b
  have KK102 : Keep h0 h102 [b, d] := KK101.wr W102 (Or.inl (List.mem_of_getElem? (i := 0) rfl))
  refine os st102 ?_
  show OGo p e below _ T102 (mkF m 53 #[.val (.ref b), .val (.int (Int32.ofNat n)), .val (.int (Int32.ofNat bs.length)), .val (.int (Int32.ofNat (bs ++ own_dig (own_w n) n).length))] [])
  refine os (fun _ k => XS.aloadN X102.here hx rfl (hb hby d68_32_53) rfl rfl k) ?_
  show OGo p e below _ T102 (mkF m 54 #[.val (.ref b), .val (.int (Int32.ofNat n)), .val (.int (Int32.ofNat bs.length)), .val (.int (Int32.ofNat (bs ++ own_dig (own_w n) n).length))] [(.ref b)])
  have q103 := ((JF98.keep K101 (ninS nb2 nin0)).other W102 (Or.inr (slot_ne (Or.inl (own_g hw 108 rfl)) (Or.inl (own_g hw 132 rfl)) (by decide) (t := (.array .byte)) (t' := .int) (by decide) (by decide))))
  have q104 := ((JC98.keep K101 (ninS nb2 nin0)).other W102 (Or.inr (slot_ne (Or.inl (own_g hw 110 rfl)) (Or.inl (own_g hw 132 rfl)) (by decide) (t := .byte) (t' := .int) (by decide) (by decide))))
  exact OGo.ret X102 hx (t := (.object "java/lang/AbstractStringBuilder")) hret hlk rfl (Or.inr (Or.inr (Or.inr (Or.inr ⟨rfl, rfl, rfl⟩)))) (hb hby d68_32_54) (by decide) (by decide) (by rw [e102]; exact ⟨rfl, N102, KK102, d98, _, hd98, ⟨((JE98.keep K101).wr W102), q103, q104, Fw102, (V101.other W102 (Ne.symm nb2)), ((JX98.keep K101).wr W102)⟩⟩)
theorem d67_15_0 : decode jdk_67_method_15_code 0 = .ok (.aload_n 0, 1) := by decide +kernel
theorem d67_15_1 : decode jdk_67_method_15_code 1 = .ok (.iload_n 1, 1) := by decide +kernel
theorem opd_20 : parseMethodDescriptor "(I)Ljava/lang/AbstractStringBuilder;" = some ⟨[.int], some (.object "java/lang/AbstractStringBuilder")⟩ := by decide +kernel
theorem d67_15_2 : decode jdk_67_method_15_code 2 = .ok (.invokespecial 53, 3) := by decide +kernel
theorem d67_15_5 : decode jdk_67_method_15_code 5 = .ok (.pop, 1) := by decide +kernel
theorem d67_15_6 : decode jdk_67_method_15_code 6 = .ok (.aload_n 0, 1) := by decide +kernel
theorem d67_15_7 : decode jdk_67_method_15_code 7 = .ok (.areturn, 1) := by decide +kernel
theorem opl_rm_appI : plainFor (⟨"java/lang/StringBuilder", "append", "(I)Ljava/lang/StringBuilder;"⟩ : MethodName) = true := plainFor_of_name (by first | (simp [plainName, overriddenIn]; done) | decide +kernel)
set_option maxRecDepth 65536 in
set_option maxHeartbeats 40000000 in
theorem rm_appI (l : Launch) (Z : State) (a0 : Array Value) (hw : ∀ d ∈ tables_1, d.before a0 Z = true) (ws : List Jvm.Cond) (n : Nat) (b d : Addr) (k : ClassId) (zn : Nat) (bs : List Value) (zc : Int32) (wf : Value) (n0 : Nat) (d1 d2 : Addr) (kd1 kd2 : ClassId) (h0 : Heap) (SS : own_SS Z zc wf) (O : Old Z n0 h0) (SI : own_SI Z d1 d2 kd1 kd2) (hn : n < 2147483648) (J : SBI Z h0 b d k (Int32.ofNat zn) bs) (hzn : zn ≤ 36) (hbz : bs.length ≤ zn) (g_b : n0 ≤ b) (g_d : n0 ≤ d) (hsm : bs.length + own_w n ≤ 36) :
    Con l Z (⟨"java/lang/StringBuilder", "append", "(I)Ljava/lang/StringBuilder;"⟩ : MethodName) jdk_67_method_15_code 2 (some (.object "java/lang/StringBuilder")) ws ({ frames := 5, cells := 1, slots := 74, locals := 77 } : Room) #[(.ref b), (.int (Int32.ofNat n))] h0 (fun v h L => v = some (.ref b) ∧ Fr n0 L ∧ Keep h0 h [b, d] ∧ ∃ d' k', (d' = d ∨ h0.size ≤ d') ∧ SBI Z h b d' k' (Int32.ofNat (own_cap zn (bs.length + own_w n))) (bs ++ own_dig (own_w n) n)) := by
  refine Con.intro opl_rm_appI ?_
  intro p e s m below meth c s₁ hx hby hml hown hret hlk hZ hnm X0 e0
  have SS' := SS
  obtain ⟨hzc, SC, hwf, SF⟩ := SS
  have Z0 : n0 ≤ h0.size := O.1 ▸ O.2.1
  have N0 := Fr.nil n0
  obtain ⟨JE, JF, JC, JN, JV, JX⟩ := J
  have nbd : b ≠ d := JE.neArv JV (own_g hw 94 rfl)
  have SI' := SI
  obtain ⟨S1, V1, S2, V2⟩ := SI
  refine OGo.cast (g' := (mkF m 0 #[.val (.ref b), .val (.int (Int32.ofNat n))] [])) (by first | (simp [entryFrame, mkF, argsToLocals, Value.category]; done) | rfl) ?_
  show OGo p e below _ s₁ (mkF m 0 #[.val (.ref b), .val (.int (Int32.ofNat n))] [])
  refine os (fun _ k => XS.aloadN X0.here hx rfl (hb hby d67_15_0) rfl rfl k) ?_
  show OGo p e below _ s₁ (mkF m 1 #[.val (.ref b), .val (.int (Int32.ofNat n))] [(.ref b)])
  refine os (fun _ k => XS.iloadN X0.here hx rfl (hb hby d67_15_1) rfl k) ?_
  show OGo p e below _ s₁ (mkF m 2 #[.val (.ref b), .val (.int (Int32.ofNat n))] [(.int (Int32.ofNat n)), (.ref b)])
  obtain ⟨v105, T105, L105, X105, hQ105, st105⟩ := ucall X0 hx hZ hown (own_g hw 236 rfl) (own_same (own_g hw 136 rfl) rfl (own_g hw 237 rfl) (by decide)) (own_g hw 237 rfl) (own_g hw 118 rfl) (own_g hw 103 rfl) (own_g hw 239 rfl) (by decide) (W := 0) (rm_asbI l Z a0 hw [] n b d k zn bs zc wf n0 d1 d2 kd1 kd2 h0 SS' O SI' hn ⟨JE, JF, JC, JN, JV, JX⟩ hzn hbz g_b g_d hsm) e0 (by decide) (by decide) (by decide) (by decide) (g := (mkF m 2 #[.val (.ref b), .val (.int (Int32.ofNat n))] [(.int (Int32.ofNat n)), (.ref b)])) rfl (by rw [hml]; rfl) JE (argsL := [(.int (Int32.ofNat n))]) (rest := []) opd_20 rfl rfl rfl (by show 2 * 0 + _ ≤ _; exact Nat.le_of_eq rfl) (hb hby d67_15_2)
  obtain ⟨rfl, N105, K105, d105, k105, hd105, J105⟩ := hQ105
  have NN105 := Fr.app N0 N105
  have KK105 : Keep h0 T105.heap [b, d] := (Keep.refl h0 [b, d]).trans K105 (allS (Or.inl (List.mem_of_getElem? (i := 0) rfl)) (allS (Or.inl (List.mem_of_getElem? (i := 1) rfl)) all0))
  refine os st105 ?_
  show OGo p e below _ T105 (mkF m 5 #[.val (.ref b), .val (.int (Int32.ofNat n))] [(.ref b)])
  refine os (fun _ k => XS.pop X105.here hx rfl (hb hby d67_15_5) rfl rfl k) ?_
  show OGo p e below _ T105 (mkF m 6 #[.val (.ref b), .val (.int (Int32.ofNat n))] [])
  refine os (fun _ k => XS.aloadN X105.here hx rfl (hb hby d67_15_6) rfl rfl k) ?_
  show OGo p e below _ T105 (mkF m 7 #[.val (.ref b), .val (.int (Int32.ofNat n))] [(.ref b)])
  exact OGo.ret X105 hx (t := (.object "java/lang/StringBuilder")) hret hlk rfl (Or.inr (Or.inr (Or.inr (Or.inr ⟨rfl, rfl, rfl⟩)))) (hb hby d67_15_7) (by decide) (by decide) ⟨rfl, NN105, KK105, d105, _, hd105, J105⟩
theorem d52_21_0 : decode jdk_52_method_21_code 0 = .ok (.iconst 0, 1) := by decide +kernel
theorem d52_21_1 : decode jdk_52_method_21_code 1 = .ok (.istore 5, 2) := by decide +kernel
theorem d52_21_3 : decode jdk_52_method_21_code 3 = .ok (.iload 5, 2) := by decide +kernel
theorem d52_21_5 : decode jdk_52_method_21_code 5 = .ok (.iload 4, 2) := by decide +kernel
theorem d52_21_7 : decode jdk_52_method_21_code 7 = .ok (.if_icmp .ge 37, 3) := by decide +kernel
theorem d52_21_44 : decode jdk_52_method_21_code 44 = .ok (.iload 4, 2) := by decide +kernel
theorem d52_21_46 : decode jdk_52_method_21_code 46 = .ok (.ireturn, 1) := by decide +kernel
theorem d52_21_10 : decode jdk_52_method_21_code 10 = .ok (.aload_n 0, 1) := by decide +kernel
theorem d52_21_11 : decode jdk_52_method_21_code 11 = .ok (.iload_n 1, 1) := by decide +kernel
theorem d52_21_12 : decode jdk_52_method_21_code 12 = .ok (.caload, 1) := by decide +kernel
theorem d52_21_13 : decode jdk_52_method_21_code 13 = .ok (.istore 6, 2) := by decide +kernel
theorem d52_21_15 : decode jdk_52_method_21_code 15 = .ok (.iload 6, 2) := by decide +kernel
theorem d52_21_17 : decode jdk_52_method_21_code 17 = .ok (.sipush 255, 3) := by decide +kernel
theorem d52_21_20 : decode jdk_52_method_21_code 20 = .ok (.if_icmp .le 6, 3) := by decide +kernel
theorem d52_21_26 : decode jdk_52_method_21_code 26 = .ok (.aload_n 2, 1) := by decide +kernel
theorem d52_21_27 : decode jdk_52_method_21_code 27 = .ok (.iload_n 3, 1) := by decide +kernel
theorem d52_21_28 : decode jdk_52_method_21_code 28 = .ok (.iload 6, 2) := by decide +kernel
theorem d52_21_30 : decode jdk_52_method_21_code 30 = .ok (.i2b, 1) := by decide +kernel
theorem d52_21_31 : decode jdk_52_method_21_code 31 = .ok (.bastore, 1) := by decide +kernel
theorem d52_21_32 : decode jdk_52_method_21_code 32 = .ok (.iinc 1 1, 3) := by decide +kernel
theorem d52_21_35 : decode jdk_52_method_21_code 35 = .ok (.iinc 3 1, 3) := by decide +kernel
theorem d52_21_38 : decode jdk_52_method_21_code 38 = .ok (.iinc 5 1, 3) := by decide +kernel
theorem d52_21_41 : decode jdk_52_method_21_code 41 = .ok (.goto (-38), 3) := by decide +kernel
theorem opl_rm_cmp5 : plainFor (⟨"java/lang/StringUTF16", "compress", "([CI[BII)I"⟩ : MethodName) = true := plainFor_of_name (by first | (simp [plainName, overriddenIn]; done) | decide +kernel)
set_option maxRecDepth 65536 in
set_option maxHeartbeats 40000000 in
theorem rm_cmp5 (l : Launch) (Z : State) (a0 : Array Value) (hw : ∀ d ∈ tables_1, d.before a0 Z = true) (ws : List Jvm.Cond) (ca b : Addr) (kc kb : ClassId) (cs : List Int32) (zc : Int32) (wf : Value) (n0 : Nat) (h0 : Heap) (SS : own_SS Z zc wf) (O : Old Z n0 h0) (Vc : Arv Z h0 ca kc .char (Int32.ofNat cs.length) (cs.map Value.int) (.int (0 : Int32))) (Vb : Arv Z h0 b kb .byte (Int32.ofNat cs.length) [] (.int (0 : Int32))) (hp : own_ok8 cs) (hbl : cs.length < 2147483648) (nbc : ca ≠ b) (g_b : n0 ≤ b) :
    Con l Z (⟨"java/lang/StringUTF16", "compress", "([CI[BII)I"⟩ : MethodName) jdk_52_method_21_code 7 (some .int) ws ({ frames := 0, cells := 0, slots := 0, locals := 0 } : Room) #[(.ref ca), (.int (0 : Int32)), (.ref b), (.int (0 : Int32)), (.int (Int32.ofNat cs.length))] h0 (fun v h L => v = some (.int (Int32.ofNat cs.length)) ∧ Fr n0 L ∧ Keep h0 h [b] ∧ Arv Z h b kb .byte (Int32.ofNat cs.length) (own_b8 cs) (.int (0 : Int32))) := by
  refine Con.intro opl_rm_cmp5 ?_
  intro p e s m below meth c s₁ hx hby hml hown hret hlk hZ hnm X0 e0
  obtain ⟨hzc, SC, hwf, SF⟩ := SS
  have Z0 : n0 ≤ h0.size := O.1 ▸ O.2.1
  have N0 := Fr.nil n0
  refine OGo.cast (g' := (mkF m 0 #[.val (.ref ca), .val (.int (0 : Int32)), .val (.ref b), .val (.int (0 : Int32)), .val (.int (Int32.ofNat cs.length)), .unset, .unset] [])) (by first | (simp [entryFrame, mkF, argsToLocals, Value.category]; done) | rfl) ?_
  show OGo p e below _ s₁ (mkF m 0 #[.val (.ref ca), .val (.int (0 : Int32)), .val (.ref b), .val (.int (0 : Int32)), .val (.int (Int32.ofNat cs.length)), .unset, .unset] [])
  refine os (fun _ k => XS.iconst X0.here hx rfl (hb hby d52_21_0) k) ?_
  show OGo p e below _ s₁ (mkF m 1 #[.val (.ref ca), .val (.int (0 : Int32)), .val (.ref b), .val (.int (0 : Int32)), .val (.int (Int32.ofNat cs.length)), .unset, .unset] [(.int (0 : Int32))])
  refine os (fun _ k => XS.istore X0.here hx rfl (hb hby d52_21_1) rfl (l' := #[.val (.ref ca), .val (.int (0 : Int32)), .val (.ref b), .val (.int (0 : Int32)), .val (.int (Int32.ofNat cs.length)), .val (.int (0 : Int32)), .unset]) rfl k) ?_
  show OGo p e below _ s₁ (mkF m 3 #[.val (.ref ca), .val (.int (0 : Int32)), .val (.ref b), .val (.int (0 : Int32)), .val (.int (Int32.ofNat cs.length)), .val (.int (0 : Int32)), .unset] [])
  have loop : ∀ (r i : Nat) (T : State) (h : Heap) (locs : List Loc) (s6 : Slot), i + r = cs.length → One s6 → Stand p l e ({ frames := 0, cells := 0, slots := 0, locals := 0 } : Room) s m #[(.ref ca), (.int (0 : Int32)), (.ref b), (.int (0 : Int32)), (.int (Int32.ofNat cs.length))] below meth c T locs 0 0 → T.heap = h → Fr n0 locs → Keep h0 h [b] → Arv Z h ca kc .char (Int32.ofNat cs.length) (cs.map Value.int) (.int (0 : Int32)) → Arv Z h b kb .byte (Int32.ofNat cs.length) (own_b8 (cs.take i)) (.int (0 : Int32)) → OGo p e below (EndQ s ({ frames := 0, cells := 0, slots := 0, locals := 0 } : Room) (fun v h L => v = some (.int (Int32.ofNat cs.length)) ∧ Fr n0 L ∧ Keep h0 h [b] ∧ Arv Z h b kb .byte (Int32.ofNat cs.length) (own_b8 cs) (.int (0 : Int32)))) T (mkF m 3 #[.val (.ref ca), .val (.int (Int32.ofNat i)), .val (.ref b), .val (.int (Int32.ofNat i)), .val (.int (Int32.ofNat cs.length)), .val (.int (Int32.ofNat i)), s6] []) := by
    intro r
    induction r with
    | zero =>
      intro i T h locs s6 hi h6 X eT N K Vc Vb
      have hi' : i = cs.length := by omega
      subst hi'
      rw [List.take_length] at Vb
      show OGo p e below _ T (mkF m 3 #[.val (.ref ca), .val (.int (Int32.ofNat cs.length)), .val (.ref b), .val (.int (Int32.ofNat cs.length)), .val (.int (Int32.ofNat cs.length)), .val (.int (Int32.ofNat cs.length)), s6] [])
      refine os (fun _ k => XS.iload X.here hx rfl (hb hby d52_21_3) rfl k) ?_
      show OGo p e below _ T (mkF m 5 #[.val (.ref ca), .val (.int (Int32.ofNat cs.length)), .val (.ref b), .val (.int (Int32.ofNat cs.length)), .val (.int (Int32.ofNat cs.length)), .val (.int (Int32.ofNat cs.length)), s6] [(.int (Int32.ofNat cs.length))])
      refine os (fun _ k => XS.iload X.here hx rfl (hb hby d52_21_5) rfl k) ?_
      show OGo p e below _ T (mkF m 7 #[.val (.ref ca), .val (.int (Int32.ofNat cs.length)), .val (.ref b), .val (.int (Int32.ofNat cs.length)), .val (.int (Int32.ofNat cs.length)), .val (.int (Int32.ofNat cs.length)), s6] [(.int (Int32.ofNat cs.length)), (.int (Int32.ofNat cs.length))])
      refine os (fun _ k => XS.icmpYes X.here hx rfl (pc0 := 7) (pc' := 44) rfl (hb hby d52_21_7) rfl (flt Int32.lt_irrefl).2.1 (by decide) (by decide) k) ?_
      show OGo p e below _ T (mkF m 44 #[.val (.ref ca), .val (.int (Int32.ofNat cs.length)), .val (.ref b), .val (.int (Int32.ofNat cs.length)), .val (.int (Int32.ofNat cs.length)), .val (.int (Int32.ofNat cs.length)), s6] [])
      refine os (fun _ k => XS.iload X.here hx rfl (hb hby d52_21_44) rfl k) ?_
      show OGo p e below _ T (mkF m 46 #[.val (.ref ca), .val (.int (Int32.ofNat cs.length)), .val (.ref b), .val (.int (Int32.ofNat cs.length)), .val (.int (Int32.ofNat cs.length)), .val (.int (Int32.ofNat cs.length)), s6] [(.int (Int32.ofNat cs.length))])
      exact OGo.ret X hx (t := .int) hret hlk rfl (Or.inl ⟨rfl, by simp, _, rfl⟩) (hb hby d52_21_46) (by decide) (by decide) (by rw [eT]; exact ⟨rfl, N, K, Vb⟩)
    | succ r ih =>
      intro i T h locs s6 hi h6 X eT N K Vc Vb
      have hil : i < cs.length := by omega
      obtain ⟨x, hxi⟩ : ∃ x, cs[i]? = some x := ⟨_, List.getElem?_eq_getElem hil⟩
      have hx8 := hp x (List.mem_of_getElem? hxi)
      have hlt : Int32.ofNat i < (Int32.ofNat cs.length) := (own_lt (by omega) hbl).mpr hil
      have Vb' : Arv Z h b kb .byte (Int32.ofNat cs.length) (own_b8 (cs.take i) ++ List.replicate 1 (.int (0 : Int32))) (.int (0 : Int32)) := Vb.pad (pad_rep _ _ 1)
      show OGo p e below _ T (mkF m 3 #[.val (.ref ca), .val (.int (Int32.ofNat i)), .val (.ref b), .val (.int (Int32.ofNat i)), .val (.int (Int32.ofNat cs.length)), .val (.int (Int32.ofNat i)), s6] [])
      refine os (fun _ k => XS.iload X.here hx rfl (hb hby d52_21_3) rfl k) ?_
      show OGo p e below _ T (mkF m 5 #[.val (.ref ca), .val (.int (Int32.ofNat i)), .val (.ref b), .val (.int (Int32.ofNat i)), .val (.int (Int32.ofNat cs.length)), .val (.int (Int32.ofNat i)), s6] [(.int (Int32.ofNat i))])
      refine os (fun _ k => XS.iload X.here hx rfl (hb hby d52_21_5) rfl k) ?_
      show OGo p e below _ T (mkF m 7 #[.val (.ref ca), .val (.int (Int32.ofNat i)), .val (.ref b), .val (.int (Int32.ofNat i)), .val (.int (Int32.ofNat cs.length)), .val (.int (Int32.ofNat i)), s6] [(.int (Int32.ofNat cs.length)), (.int (Int32.ofNat i))])
      refine os (fun _ k => XS.icmpNo X.here hx rfl (hb hby d52_21_7) rfl (tlt hlt).2.1 k) ?_
      show OGo p e below _ T (mkF m 10 #[.val (.ref ca), .val (.int (Int32.ofNat i)), .val (.ref b), .val (.int (Int32.ofNat i)), .val (.int (Int32.ofNat cs.length)), .val (.int (Int32.ofNat i)), s6] [])
      refine os (fun _ k => XS.aloadN X.here hx rfl (hb hby d52_21_10) rfl rfl k) ?_
      show OGo p e below _ T (mkF m 11 #[.val (.ref ca), .val (.int (Int32.ofNat i)), .val (.ref b), .val (.int (Int32.ofNat i)), .val (.int (Int32.ofNat cs.length)), .val (.int (Int32.ofNat i)), s6] [(.ref ca)])
      refine os (fun _ k => XS.iloadN X.here hx rfl (hb hby d52_21_11) rfl k) ?_
      show OGo p e below _ T (mkF m 12 #[.val (.ref ca), .val (.int (Int32.ofNat i)), .val (.ref b), .val (.int (Int32.ofNat i)), .val (.int (Int32.ofNat cs.length)), .val (.int (Int32.ofNat i)), s6] [(.int (Int32.ofNat i)), (.ref ca)])
      refine os (fun _ k => caloadV X hx hZ eT Vc ⟨own_nn (by omega), hlt⟩ (own_at hxi (by omega)) (g := (mkF m 12 #[.val (.ref ca), .val (.int (Int32.ofNat i)), .val (.ref b), .val (.int (Int32.ofNat i)), .val (.int (Int32.ofNat cs.length)), .val (.int (Int32.ofNat i)), s6] [(.int (Int32.ofNat i)), (.ref ca)])) rfl rfl (hb hby d52_21_12) _ k) ?_
      show OGo p e below _ T (mkF m 13 #[.val (.ref ca), .val (.int (Int32.ofNat i)), .val (.ref b), .val (.int (Int32.ofNat i)), .val (.int (Int32.ofNat cs.length)), .val (.int (Int32.ofNat i)), s6] [(.int x)])
      refine os (fun _ k => XS.istore X.here hx rfl (hb hby d52_21_13) rfl (own_one h6) k) ?_
      show OGo p e below _ T (mkF m 15 #[.val (.ref ca), .val (.int (Int32.ofNat i)), .val (.ref b), .val (.int (Int32.ofNat i)), .val (.int (Int32.ofNat cs.length)), .val (.int (Int32.ofNat i)), .val (.int x)] [])
      refine os (fun _ k => XS.iload X.here hx rfl (hb hby d52_21_15) rfl k) ?_
      show OGo p e below _ T (mkF m 17 #[.val (.ref ca), .val (.int (Int32.ofNat i)), .val (.ref b), .val (.int (Int32.ofNat i)), .val (.int (Int32.ofNat cs.length)), .val (.int (Int32.ofNat i)), .val (.int x)] [(.int x)])
      refine os (fun _ k => XS.sipush X.here hx rfl (hb hby d52_21_17) k) ?_
      show OGo p e below _ T (mkF m 20 #[.val (.ref ca), .val (.int (Int32.ofNat i)), .val (.ref b), .val (.int (Int32.ofNat i)), .val (.int (Int32.ofNat cs.length)), .val (.int (Int32.ofNat i)), .val (.int x)] [(.int (255 : Int32)), (.int x)])
      refine os (fun _ k => XS.icmpYes X.here hx rfl (pc0 := 20) (pc' := 26) rfl (hb hby d52_21_20) rfl (flt hx8.2).2.2.2 (by decide) (by decide) k) ?_
      show OGo p e below _ T (mkF m 26 #[.val (.ref ca), .val (.int (Int32.ofNat i)), .val (.ref b), .val (.int (Int32.ofNat i)), .val (.int (Int32.ofNat cs.length)), .val (.int (Int32.ofNat i)), .val (.int x)] [])
      refine os (fun _ k => XS.aloadN X.here hx rfl (hb hby d52_21_26) rfl rfl k) ?_
      show OGo p e below _ T (mkF m 27 #[.val (.ref ca), .val (.int (Int32.ofNat i)), .val (.ref b), .val (.int (Int32.ofNat i)), .val (.int (Int32.ofNat cs.length)), .val (.int (Int32.ofNat i)), .val (.int x)] [(.ref b)])
      refine os (fun _ k => XS.iloadN X.here hx rfl (hb hby d52_21_27) rfl k) ?_
      show OGo p e below _ T (mkF m 28 #[.val (.ref ca), .val (.int (Int32.ofNat i)), .val (.ref b), .val (.int (Int32.ofNat i)), .val (.int (Int32.ofNat cs.length)), .val (.int (Int32.ofNat i)), .val (.int x)] [(.int (Int32.ofNat i)), (.ref b)])
      refine os (fun _ k => XS.iload X.here hx rfl (hb hby d52_21_28) rfl k) ?_
      show OGo p e below _ T (mkF m 30 #[.val (.ref ca), .val (.int (Int32.ofNat i)), .val (.ref b), .val (.int (Int32.ofNat i)), .val (.int (Int32.ofNat cs.length)), .val (.int (Int32.ofNat i)), .val (.int x)] [(.int x), (.int (Int32.ofNat i)), (.ref b)])
      refine os (fun _ k => XS.i2b X.here hx rfl (hb hby d52_21_30) rfl k) ?_
      show OGo p e below _ T (mkF m 31 #[.val (.ref ca), .val (.int (Int32.ofNat i)), .val (.ref b), .val (.int (Int32.ofNat i)), .val (.int (Int32.ofNat cs.length)), .val (.int (Int32.ofNat i)), .val (.int x)] [(.int (x.toInt8.toInt32)), (.int (Int32.ofNat i)), (.ref b)])
      obtain ⟨T106, h106, X106, e106, W106, Vq106, st106⟩ := bastoreV X hx hZ eT Vb' (j := (Int32.ofNat i)) ⟨own_nn (by omega), hlt⟩ (by rw [own_cl (by omega), List.length_append, own_b8_len]; simp; omega) (g := (mkF m 31 #[.val (.ref ca), .val (.int (Int32.ofNat i)), .val (.ref b), .val (.int (Int32.ofNat i)), .val (.int (Int32.ofNat cs.length)), .val (.int (Int32.ofNat i)), .val (.int x)] [(.int (x.toInt8.toInt32)), (.int (Int32.ofNat i)), (.ref b)])) rfl rfl (hb hby d52_21_31)
      have N106 := Fr.snoc X106 N g_b
      have KK106 : Keep h0 h106 [b] := K.wr W106 (Or.inl (List.mem_of_getElem? (i := 0) rfl))
      refine os st106 ?_
      show OGo p e below _ T106 (mkF m 32 #[.val (.ref ca), .val (.int (Int32.ofNat i)), .val (.ref b), .val (.int (Int32.ofNat i)), .val (.int (Int32.ofNat cs.length)), .val (.int (Int32.ofNat i)), .val (.int x)] [])
      rw [own_cl (show i < 2147483648 by omega), own_set hxi] at Vq106
      refine os (fun _ k => XS.iinc X106.here hx rfl (hb hby d52_21_32) rfl (l' := #[.val (.ref ca), .val (.int ((Int32.ofNat i) + (1 : Int32))), .val (.ref b), .val (.int (Int32.ofNat i)), .val (.int (Int32.ofNat cs.length)), .val (.int (Int32.ofNat i)), .val (.int x)]) rfl k) ?_
      show OGo p e below _ T106 (mkF m 35 #[.val (.ref ca), .val (.int ((Int32.ofNat i) + (1 : Int32))), .val (.ref b), .val (.int (Int32.ofNat i)), .val (.int (Int32.ofNat cs.length)), .val (.int (Int32.ofNat i)), .val (.int x)] [])
      refine os (fun _ k => XS.iinc X106.here hx rfl (hb hby d52_21_35) rfl (l' := #[.val (.ref ca), .val (.int ((Int32.ofNat i) + (1 : Int32))), .val (.ref b), .val (.int ((Int32.ofNat i) + (1 : Int32))), .val (.int (Int32.ofNat cs.length)), .val (.int (Int32.ofNat i)), .val (.int x)]) rfl k) ?_
      show OGo p e below _ T106 (mkF m 38 #[.val (.ref ca), .val (.int ((Int32.ofNat i) + (1 : Int32))), .val (.ref b), .val (.int ((Int32.ofNat i) + (1 : Int32))), .val (.int (Int32.ofNat cs.length)), .val (.int (Int32.ofNat i)), .val (.int x)] [])
      refine os (fun _ k => XS.iinc X106.here hx rfl (hb hby d52_21_38) rfl (l' := #[.val (.ref ca), .val (.int ((Int32.ofNat i) + (1 : Int32))), .val (.ref b), .val (.int ((Int32.ofNat i) + (1 : Int32))), .val (.int (Int32.ofNat cs.length)), .val (.int ((Int32.ofNat i) + (1 : Int32))), .val (.int x)]) rfl k) ?_
      show OGo p e below _ T106 (mkF m 41 #[.val (.ref ca), .val (.int ((Int32.ofNat i) + (1 : Int32))), .val (.ref b), .val (.int ((Int32.ofNat i) + (1 : Int32))), .val (.int (Int32.ofNat cs.length)), .val (.int ((Int32.ofNat i) + (1 : Int32))), .val (.int x)] [])
      refine os (fun _ k => XS.goto X106.here hx rfl (pc0 := 41) (pc' := 3) rfl (hb hby d52_21_41) (by decide) (by decide) k) ?_
      show OGo p e below _ T106 (mkF m 3 #[.val (.ref ca), .val (.int ((Int32.ofNat i) + (1 : Int32))), .val (.ref b), .val (.int ((Int32.ofNat i) + (1 : Int32))), .val (.int (Int32.ofNat cs.length)), .val (.int ((Int32.ofNat i) + (1 : Int32))), .val (.int x)] [])
      rw [own_inc]
      exact ih (i + 1) T106 h106 _ _ (by omega) (One.val rfl) X106 e106 N106 KK106 (Vc.other W106 nbc) Vq106
  exact loop cs.length 0 _ _ _ _ (Nat.zero_add _) One.u X0 e0 N0 (Keep.refl _ _) Vc Vb
theorem d52_16_0 : decode jdk_52_method_16_code 0 = .ok (.iload_n 2, 1) := by decide +kernel
theorem d52_16_1 : decode jdk_52_method_16_code 1 = .ok (.newarray .byte, 2) := by decide +kernel
theorem d52_16_3 : decode jdk_52_method_16_code 3 = .ok (.astore_n 3, 1) := by decide +kernel
theorem d52_16_4 : decode jdk_52_method_16_code 4 = .ok (.aload_n 0, 1) := by decide +kernel
theorem d52_16_5 : decode jdk_52_method_16_code 5 = .ok (.iload_n 1, 1) := by decide +kernel
theorem d52_16_6 : decode jdk_52_method_16_code 6 = .ok (.aload_n 3, 1) := by decide +kernel
theorem d52_16_7 : decode jdk_52_method_16_code 7 = .ok (.iconst 0, 1) := by decide +kernel
theorem d52_16_8 : decode jdk_52_method_16_code 8 = .ok (.iload_n 2, 1) := by decide +kernel
theorem opd_21 : parseMethodDescriptor "([CI[BII)I" = some ⟨[(.array .char), .int, (.array .byte), .int, .int], some .int⟩ := by decide +kernel
theorem d52_16_9 : decode jdk_52_method_16_code 9 = .ok (.invokestatic 115, 3) := by decide +kernel
theorem d52_16_12 : decode jdk_52_method_16_code 12 = .ok (.istore 4, 2) := by decide +kernel
theorem d52_16_14 : decode jdk_52_method_16_code 14 = .ok (.iload 4, 2) := by decide +kernel
theorem d52_16_16 : decode jdk_52_method_16_code 16 = .ok (.iload_n 2, 1) := by decide +kernel
theorem d52_16_17 : decode jdk_52_method_16_code 17 = .ok (.if_icmp .eq 40, 3) := by decide +kernel
theorem d52_16_57 : decode jdk_52_method_16_code 57 = .ok (.aload_n 3, 1) := by decide +kernel
theorem d52_16_58 : decode jdk_52_method_16_code 58 = .ok (.areturn, 1) := by decide +kernel
theorem opl_rm_cmp3 : plainFor (⟨"java/lang/StringUTF16", "compress", "([CII)[B"⟩ : MethodName) = true := plainFor_of_name (by first | (simp [plainName, overriddenIn]; done) | decide +kernel)
set_option maxRecDepth 65536 in
set_option maxHeartbeats 40000000 in
theorem rm_cmp3 (l : Launch) (Z : State) (a0 : Array Value) (hw : ∀ d ∈ tables_1, d.before a0 Z = true) (ws : List Jvm.Cond) (ca : Addr) (kc : ClassId) (cs : List Int32) (zc : Int32) (wf : Value) (n0 : Nat) (h0 : Heap) (SS : own_SS Z zc wf) (O : Old Z n0 h0) (Vc : Arv Z h0 ca kc .char (Int32.ofNat cs.length) (cs.map Value.int) (.int (0 : Int32))) (hp : own_ok8 cs) (hbl : cs.length < 2147483648) (hcap : cs.length ≤ 2) :
    Con l Z (⟨"java/lang/StringUTF16", "compress", "([CII)[B"⟩ : MethodName) jdk_52_method_16_code 6 (some (.array .byte)) ws ({ frames := 1, cells := 1, slots := 2, locals := 18 } : Room) #[(.ref ca), (.int (0 : Int32)), (.int (Int32.ofNat cs.length))] h0 (fun v h L => ∃ r k', v = some (.ref r) ∧ h0.size ≤ r ∧ Fr n0 L ∧ Keep h0 h [] ∧ Arv Z h r k' .byte (Int32.ofNat cs.length) (own_b8 cs) (.int (0 : Int32))) := by
  refine Con.intro opl_rm_cmp3 ?_
  intro p e s m below meth c s₁ hx hby hml hown hret hlk hZ hnm X0 e0
  have SS' := SS
  obtain ⟨hzc, SC, hwf, SF⟩ := SS
  have Z0 : n0 ≤ h0.size := O.1 ▸ O.2.1
  have N0 := Fr.nil n0
  refine OGo.cast (g' := (mkF m 0 #[.val (.ref ca), .val (.int (0 : Int32)), .val (.int (Int32.ofNat cs.length)), .unset, .unset, .unset] [])) (by first | (simp [entryFrame, mkF, argsToLocals, Value.category]; done) | rfl) ?_
  show OGo p e below _ s₁ (mkF m 0 #[.val (.ref ca), .val (.int (0 : Int32)), .val (.int (Int32.ofNat cs.length)), .unset, .unset, .unset] [])
  refine os (fun _ k => XS.iloadN X0.here hx rfl (hb hby d52_16_0) rfl k) ?_
  show OGo p e below _ s₁ (mkF m 1 #[.val (.ref ca), .val (.int (0 : Int32)), .val (.int (Int32.ofNat cs.length)), .unset, .unset, .unset] [(.int (Int32.ofNat cs.length))])
  obtain ⟨T107, h107, k107, X107, e107, E107, A107, AE107, st107⟩ := newPE X0 hx hZ (own_g hw 19 rfl) e0 (g := (mkF m 1 #[.val (.ref ca), .val (.int (0 : Int32)), .val (.int (Int32.ofNat cs.length)), .unset, .unset, .unset] [(.int (Int32.ofNat cs.length))])) rfl (hb hby d52_16_1) rfl (own_nn hbl) (cap := 2) (by rw [own_cl hbl]; exact hcap) (by decide) (by decide) (by decide) (ad := "[B") (by decide)
  obtain ⟨b107, g107⟩ : ∃ z, z = h0.size := ⟨_, rfl⟩
  rw [← g107] at A107 AE107 st107
  have sz_b107 : h0.size ≤ b107 := Nat.le_trans (Keep.refl h0 []).1 (Nat.le_of_eq g107.symm)
  have KK107 : Keep h0 h107 [] := (Keep.refl h0 []).ext E107
  have V107 : Arv Z h107 b107 k107 .byte (Int32.ofNat cs.length) [] (.int (0 : Int32)) := Arv.new A107 (own_nn hbl)
  refine os st107 ?_
  show OGo p e below _ T107 (mkF m 3 #[.val (.ref ca), .val (.int (0 : Int32)), .val (.int (Int32.ofNat cs.length)), .unset, .unset, .unset] [(.ref b107)])
  refine os (fun _ k => XS.astoreN X107.here hx rfl (hb hby d52_16_3) rfl rfl (l' := #[.val (.ref ca), .val (.int (0 : Int32)), .val (.int (Int32.ofNat cs.length)), .val (.ref b107), .unset, .unset]) rfl k) ?_
  show OGo p e below _ T107 (mkF m 4 #[.val (.ref ca), .val (.int (0 : Int32)), .val (.int (Int32.ofNat cs.length)), .val (.ref b107), .unset, .unset] [])
  refine os (fun _ k => XS.aloadN X107.here hx rfl (hb hby d52_16_4) rfl rfl k) ?_
  show OGo p e below _ T107 (mkF m 5 #[.val (.ref ca), .val (.int (0 : Int32)), .val (.int (Int32.ofNat cs.length)), .val (.ref b107), .unset, .unset] [(.ref ca)])
  refine os (fun _ k => XS.iloadN X107.here hx rfl (hb hby d52_16_5) rfl k) ?_
  show OGo p e below _ T107 (mkF m 6 #[.val (.ref ca), .val (.int (0 : Int32)), .val (.int (Int32.ofNat cs.length)), .val (.ref b107), .unset, .unset] [(.int (0 : Int32)), (.ref ca)])
  refine os (fun _ k => XS.aloadN X107.here hx rfl (hb hby d52_16_6) rfl rfl k) ?_
  show OGo p e below _ T107 (mkF m 7 #[.val (.ref ca), .val (.int (0 : Int32)), .val (.int (Int32.ofNat cs.length)), .val (.ref b107), .unset, .unset] [(.ref b107), (.int (0 : Int32)), (.ref ca)])
  refine os (fun _ k => XS.iconst X107.here hx rfl (hb hby d52_16_7) k) ?_
  show OGo p e below _ T107 (mkF m 8 #[.val (.ref ca), .val (.int (0 : Int32)), .val (.int (Int32.ofNat cs.length)), .val (.ref b107), .unset, .unset] [(.int (0 : Int32)), (.ref b107), (.int (0 : Int32)), (.ref ca)])
  refine os (fun _ k => XS.iloadN X107.here hx rfl (hb hby d52_16_8) rfl k) ?_
  show OGo p e below _ T107 (mkF m 9 #[.val (.ref ca), .val (.int (0 : Int32)), .val (.int (Int32.ofNat cs.length)), .val (.ref b107), .unset, .unset] [(.int (Int32.ofNat cs.length)), (.int (0 : Int32)), (.ref b107), (.int (0 : Int32)), (.ref ca)])
  obtain ⟨v108, T108, L108, X108, hQ108, st108⟩ := scall X107 hx hZ hown (own_g hw 20 rfl) (own_g hw 21 rfl) (own_g hw 17 rfl) (own_g hw 22 rfl) (by decide) (W := 0) (rm_cmp5 l Z a0 hw [] ca b107 kc k107 cs zc wf n0 h107 SS' (O.ext E107) (Vc.ext E107) V107 hp hbl (Nat.ne_of_lt (Nat.lt_of_lt_of_le Vc.lt sz_b107)) (Nat.le_trans Z0 sz_b107)) e107 (by decide) (by decide) (by decide) (by decide) (g := (mkF m 9 #[.val (.ref ca), .val (.int (0 : Int32)), .val (.int (Int32.ofNat cs.length)), .val (.ref b107), .unset, .unset] [(.int (Int32.ofNat cs.length)), (.int (0 : Int32)), (.ref b107), (.int (0 : Int32)), (.ref ca)])) rfl (by rw [hml]; rfl) (argsL := [(.ref ca), (.int (0 : Int32)), (.ref b107), (.int (0 : Int32)), (.int (Int32.ofNat cs.length))]) (rest := []) opd_21 rfl rfl rfl (by show 2 * 0 + _ ≤ _; exact Nat.le_of_eq rfl) (hb hby d52_16_9)
  obtain ⟨rfl, N108, K108, V108⟩ := hQ108
  have NN108 := Fr.app N0 N108
  have KK108 : Keep h0 T108.heap [] := KK107.trans K108 (allS (Or.inr sz_b107) all0)
  refine os st108 ?_
  show OGo p e below _ T108 (mkF m 12 #[.val (.ref ca), .val (.int (0 : Int32)), .val (.int (Int32.ofNat cs.length)), .val (.ref b107), .unset, .unset] [(.int (Int32.ofNat cs.length))])
  refine os (fun _ k => XS.istore X108.here hx rfl (hb hby d52_16_12) rfl (l' := #[.val (.ref ca), .val (.int (0 : Int32)), .val (.int (Int32.ofNat cs.length)), .val (.ref b107), .val (.int (Int32.ofNat cs.length)), .unset]) rfl k) ?_
  show OGo p e below _ T108 (mkF m 14 #[.val (.ref ca), .val (.int (0 : Int32)), .val (.int (Int32.ofNat cs.length)), .val (.ref b107), .val (.int (Int32.ofNat cs.length)), .unset] [])
  refine os (fun _ k => XS.iload X108.here hx rfl (hb hby d52_16_14) rfl k) ?_
  show OGo p e below _ T108 (mkF m 16 #[.val (.ref ca), .val (.int (0 : Int32)), .val (.int (Int32.ofNat cs.length)), .val (.ref b107), .val (.int (Int32.ofNat cs.length)), .unset] [(.int (Int32.ofNat cs.length))])
  refine os (fun _ k => XS.iloadN X108.here hx rfl (hb hby d52_16_16) rfl k) ?_
  show OGo p e below _ T108 (mkF m 17 #[.val (.ref ca), .val (.int (0 : Int32)), .val (.int (Int32.ofNat cs.length)), .val (.ref b107), .val (.int (Int32.ofNat cs.length)), .unset] [(.int (Int32.ofNat cs.length)), (.int (Int32.ofNat cs.length))])
  refine os (fun _ k => XS.icmpYes X108.here hx rfl (pc0 := 17) (pc' := 57) rfl (hb hby d52_16_17) rfl (teq (rfl : (Int32.ofNat cs.length) = (Int32.ofNat cs.length))).1 (by decide) (by decide) k) ?_
  show OGo p e below _ T108 (mkF m 57 #[.val (.ref ca), .val (.int (0 : Int32)), .val (.int (Int32.ofNat cs.length)), .val (.ref b107), .val (.int (Int32.ofNat cs.length)), .unset] [])
  refine os (fun _ k => XS.aloadN X108.here hx rfl (hb hby d52_16_57) rfl rfl k) ?_
  show OGo p e below _ T108 (mkF m 58 #[.val (.ref ca), .val (.int (0 : Int32)), .val (.int (Int32.ofNat cs.length)), .val (.ref b107), .val (.int (Int32.ofNat cs.length)), .unset] [(.ref b107)])
  exact OGo.ret X108 hx (t := (.array .byte)) hret hlk rfl (Or.inr (Or.inr (Or.inr (Or.inr ⟨rfl, rfl, rfl⟩)))) (hb hby d52_16_58) (by decide) (by decide) ⟨b107, _, rfl, sz_b107, NN108, KK108, V108⟩
theorem d52_15_0 : decode jdk_52_method_15_code 0 = .ok (.iload_n 1, 1) := by decide +kernel
theorem d52_15_1 : decode jdk_52_method_15_code 1 = .ok (.aload_n 0, 1) := by decide +kernel
theorem d52_15_2 : decode jdk_52_method_15_code 2 = .ok (.arraylength, 1) := by decide +kernel
theorem d52_15_3 : decode jdk_52_method_15_code 3 = .ok (.isub, 1) := by decide +kernel
theorem d52_15_4 : decode jdk_52_method_15_code 4 = .ok (.bipush 31, 2) := by decide +kernel
theorem d52_15_6 : decode jdk_52_method_15_code 6 = .ok (.iushr, 1) := by decide +kernel
theorem d52_15_7 : decode jdk_52_method_15_code 7 = .ok (.i2b, 1) := by decide +kernel
theorem d52_15_8 : decode jdk_52_method_15_code 8 = .ok (.ireturn, 1) := by decide +kernel
theorem opl_rm_cfal : plainFor (⟨"java/lang/StringUTF16", "coderFromArrayLen", "([BI)B"⟩ : MethodName) = true := plainFor_of_name (by first | (simp [plainName, overriddenIn]; done) | decide +kernel)
set_option maxRecDepth 65536 in
set_option maxHeartbeats 40000000 in
theorem rm_cfal (l : Launch) (Z : State) (a0 : Array Value) (hw : ∀ d ∈ tables_1, d.before a0 Z = true) (ws : List Jvm.Cond) (d : Addr) (k : ClassId) (z : Int32) (us : List Value) (h0 : Heap) (V : Arv Z h0 d k .byte z us (.int (0 : Int32))) :
    Con l Z (⟨"java/lang/StringUTF16", "coderFromArrayLen", "([BI)B"⟩ : MethodName) jdk_52_method_15_code 2 (some .byte) ws ({ frames := 0, cells := 0, slots := 0, locals := 0 } : Room) #[(.ref d), (.int z)] h0 (fun v h L => v = some (.int (0 : Int32)) ∧ L = [] ∧ h = h0) := by
  refine Con.intro opl_rm_cfal ?_
  intro p e s m below meth c s₁ hx hby hml hown hret hlk hZ hnm X0 e0
  refine OGo.cast (g' := (mkF m 0 #[.val (.ref d), .val (.int z)] [])) (by first | (simp [entryFrame, mkF, argsToLocals, Value.category]; done) | rfl) ?_
  show OGo p e below _ s₁ (mkF m 0 #[.val (.ref d), .val (.int z)] [])
  refine os (fun _ k => XS.iloadN X0.here hx rfl (hb hby d52_15_0) rfl k) ?_
  show OGo p e below _ s₁ (mkF m 1 #[.val (.ref d), .val (.int z)] [(.int z)])
  refine os (fun _ k => XS.aloadN X0.here hx rfl (hb hby d52_15_1) rfl rfl k) ?_
  show OGo p e below _ s₁ (mkF m 2 #[.val (.ref d), .val (.int z)] [(.ref d), (.int z)])
  refine os (fun _ k => alenV X0 hx hZ e0 V (g := (mkF m 2 #[.val (.ref d), .val (.int z)] [(.ref d), (.int z)])) rfl rfl (hb hby d52_15_2) _ k) ?_
  show OGo p e below _ s₁ (mkF m 3 #[.val (.ref d), .val (.int z)] [(.int z), (.int z)])
  refine os (fun _ k => XS.isub X0.here hx rfl (hb hby d52_15_3) rfl k) ?_
  show OGo p e below _ s₁ (mkF m 4 #[.val (.ref d), .val (.int z)] [(.int (z - z))])
  refine os (fun _ k => XS.bipush X0.here hx rfl (hb hby d52_15_4) k) ?_
  show OGo p e below _ s₁ (mkF m 6 #[.val (.ref d), .val (.int z)] [(.int (31 : Int32)), (.int (z - z))])
  refine os (fun _ k => XS.iushr X0.here hx rfl (hb hby d52_15_6) rfl k) ?_
  show OGo p e below _ s₁ (mkF m 7 #[.val (.ref d), .val (.int z)] [(.int (((z - z).toUInt32 >>> ((31 : Int32) &&& 31).toUInt32).toInt32))])
  refine os (fun _ k => XS.i2b X0.here hx rfl (hb hby d52_15_7) rfl k) ?_
  show OGo p e below _ s₁ (mkF m 8 #[.val (.ref d), .val (.int z)] [(.int ((((z - z).toUInt32 >>> ((31 : Int32) &&& 31).toUInt32).toInt32).toInt8.toInt32))])
  rw [own_cfal]
  show OGo p e below _ s₁ (mkF m 8 #[.val (.ref d), .val (.int z)] [(.int (0 : Int32))])
  exact OGo.ret X0 hx (t := .byte) hret hlk rfl (Or.inl ⟨rfl, by simp, _, rfl⟩) (hb hby d52_15_8) (by decide) (by decide) ⟨rfl, rfl, e0⟩
theorem d42_149_0 : decode jdk_42_method_149_code 0 = .ok (.aload_n 0, 1) := by decide +kernel
theorem d42_149_1 : decode jdk_42_method_149_code 1 = .ok (.invokespecial 1, 3) := by decide +kernel
theorem d42_149_4 : decode jdk_42_method_149_code 4 = .ok (.iload_n 3, 1) := by decide +kernel
theorem d42_149_5 : decode jdk_42_method_149_code 5 = .ok (.ifCond .ne 22, 3) := by decide +kernel
theorem d42_149_27 : decode jdk_42_method_149_code 27 = .ok (.getstatic 38, 3) := by decide +kernel
theorem d42_149_30 : decode jdk_42_method_149_code 30 = .ok (.ifCond .eq 28, 3) := by decide +kernel
theorem d42_149_33 : decode jdk_42_method_149_code 33 = .ok (.aload_n 1, 1) := by decide +kernel
theorem d42_149_34 : decode jdk_42_method_149_code 34 = .ok (.iload_n 2, 1) := by decide +kernel
theorem d42_149_35 : decode jdk_42_method_149_code 35 = .ok (.iload_n 3, 1) := by decide +kernel
theorem opd_22 : parseMethodDescriptor "([CII)[B" = some ⟨[(.array .char), .int, .int], some (.array .byte)⟩ := by decide +kernel
theorem d42_149_36 : decode jdk_42_method_149_code 36 = .ok (.invokestatic 177, 3) := by decide +kernel
theorem d42_149_39 : decode jdk_42_method_149_code 39 = .ok (.astore 5, 2) := by decide +kernel
theorem d42_149_41 : decode jdk_42_method_149_code 41 = .ok (.aload_n 0, 1) := by decide +kernel
theorem d42_149_42 : decode jdk_42_method_149_code 42 = .ok (.aload 5, 2) := by decide +kernel
theorem d42_149_44 : decode jdk_42_method_149_code 44 = .ok (.iload_n 3, 1) := by decide +kernel
theorem opd_23 : parseMethodDescriptor "([BI)B" = some ⟨[(.array .byte), .int], some .byte⟩ := by decide +kernel
theorem d42_149_45 : decode jdk_42_method_149_code 45 = .ok (.invokestatic 47, 3) := by decide +kernel
theorem d42_149_48 : decode jdk_42_method_149_code 48 = .ok (.putfield 15, 3) := by decide +kernel
theorem d42_149_51 : decode jdk_42_method_149_code 51 = .ok (.aload_n 0, 1) := by decide +kernel
theorem d42_149_52 : decode jdk_42_method_149_code 52 = .ok (.aload 5, 2) := by decide +kernel
theorem d42_149_54 : decode jdk_42_method_149_code 54 = .ok (.putfield 9, 3) := by decide +kernel
theorem d42_149_57 : decode jdk_42_method_149_code 57 = .ok (.return_, 1) := by decide +kernel
theorem opl_rm_new4 : plainFor (⟨"java/lang/String", "<init>", "([CIILjava/lang/Void;)V"⟩ : MethodName) = true := plainFor_of_name (by first | (simp [plainName, overriddenIn]; done) | decide +kernel)
set_option maxRecDepth 65536 in
set_option maxHeartbeats 40000000 in
theorem rm_new4 (l : Launch) (Z : State) (a0 : Array Value) (hw : ∀ d ∈ tables_1, d.before a0 Z = true) (ws : List Jvm.Cond) (a : Addr) (ca : Addr) (kc : ClassId) (cs : List Int32) (zc : Int32) (wf : Value) (n0 : Nat) (h0 : Heap) (SS : own_SS Z zc wf) (O : Old Z n0 h0) (Vc : Arv Z h0 ca kc .char (Int32.ofNat cs.length) (cs.map Value.int) (.int (0 : Int32))) (hp : own_ok8 cs) (hbl : cs.length < 2147483648) (hcap : cs.length ≤ 2) (E : Exa Z h0 a "java/lang/String") (Fc : Fld Z h0 a "java/lang/String" "coder" "B" (.int (0 : Int32))) (Fv : Fld Z h0 a "java/lang/String" "value" "[B" .null) (g_a : n0 ≤ a) (hne : ¬ (Int32.ofNat cs.length) = 0) (nca : ca ≠ a) :
    Con l Z (⟨"java/lang/String", "<init>", "([CIILjava/lang/Void;)V"⟩ : MethodName) jdk_42_method_149_code 6 none ws ({ frames := 2, cells := 1, slots := 2, locals := 35 } : Room) #[(.ref a), (.ref ca), (.int (0 : Int32)), (.int (Int32.ofNat cs.length)), .null] h0 (fun v h L => v = none ∧ Fr n0 L ∧ Keep h0 h [a] ∧ ∃ r k', h0.size ≤ r ∧ STI Z h a r k' (own_b8 cs)) := by
  refine Con.intro opl_rm_new4 ?_
  intro p e s m below meth c s₁ hx hby hml hown hret hlk hZ hnm X0 e0
  have SS' := SS
  obtain ⟨hzc, SC, hwf, SF⟩ := SS
  have Z0 : n0 ≤ h0.size := O.1 ▸ O.2.1
  have N0 := Fr.nil n0
  refine OGo.cast (g' := (mkF m 0 #[.val (.ref a), .val (.ref ca), .val (.int (0 : Int32)), .val (.int (Int32.ofNat cs.length)), .val .null, .unset] [])) (by first | (simp [entryFrame, mkF, argsToLocals, Value.category]; done) | rfl) ?_
  show OGo p e below _ s₁ (mkF m 0 #[.val (.ref a), .val (.ref ca), .val (.int (0 : Int32)), .val (.int (Int32.ofNat cs.length)), .val .null, .unset] [])
  refine os (fun _ k => XS.aloadN X0.here hx rfl (hb hby d42_149_0) rfl rfl k) ?_
  show OGo p e below _ s₁ (mkF m 1 #[.val (.ref a), .val (.ref ca), .val (.int (0 : Int32)), .val (.int (Int32.ofNat cs.length)), .val .null, .unset] [(.ref a)])
  obtain ⟨T109, X109, e109, st109⟩ := initO X0 hx hZ hown (own_g hw 11 rfl) (own_g hw 12 rfl) (own_g hw 13 rfl) e0 (g := (mkF m 1 #[.val (.ref a), .val (.ref ca), .val (.int (0 : Int32)), .val (.int (Int32.ofNat cs.length)), .val .null, .unset] [(.ref a)])) rfl (by rw [hml]; rfl) rfl (hb hby d42_149_1) (by decide) (W := 0) (by show 2 * 0 + _ ≤ _; exact Nat.le_of_eq rfl) (by decide)
  refine os st109 ?_
  show OGo p e below _ T109 (mkF m 4 #[.val (.ref a), .val (.ref ca), .val (.int (0 : Int32)), .val (.int (Int32.ofNat cs.length)), .val .null, .unset] [])
  refine os (fun _ k => XS.iloadN X109.here hx rfl (hb hby d42_149_4) rfl k) ?_
  show OGo p e below _ T109 (mkF m 5 #[.val (.ref a), .val (.ref ca), .val (.int (0 : Int32)), .val (.int (Int32.ofNat cs.length)), .val .null, .unset] [(.int (Int32.ofNat cs.length))])
  refine os (fun _ k => XS.ifYes X109.here hx rfl (pc0 := 5) (pc' := 27) rfl (hb hby d42_149_5) rfl ((if0 _ _).trans (feq hne).2) (by decide) (by decide) k) ?_
  show OGo p e below _ T109 (mkF m 27 #[.val (.ref a), .val (.ref ca), .val (.int (0 : Int32)), .val (.int (Int32.ofNat cs.length)), .val .null, .unset] [])
  obtain ⟨T110, X110, e110, st110⟩ := getS2 X109 hx hZ hown (host := "") (Or.inl (own_g hw 14 rfl)) Via.refl e109 (SC.ext O.2) (g := (mkF m 27 #[.val (.ref a), .val (.ref ca), .val (.int (0 : Int32)), .val (.int (Int32.ofNat cs.length)), .val .null, .unset] [])) rfl (hb hby d42_149_27)
  refine os st110 ?_
  show OGo p e below _ T110 (mkF m 30 #[.val (.ref a), .val (.ref ca), .val (.int (0 : Int32)), .val (.int (Int32.ofNat cs.length)), .val .null, .unset] [(.int zc)])
  refine os (fun _ k => XS.ifNo X110.here hx rfl (hb hby d42_149_30) rfl ((if0 _ _).trans (feq hzc).1) k) ?_
  show OGo p e below _ T110 (mkF m 33 #[.val (.ref a), .val (.ref ca), .val (.int (0 : Int32)), .val (.int (Int32.ofNat cs.length)), .val .null, .unset] [])
  refine os (fun _ k => XS.aloadN X110.here hx rfl (hb hby d42_149_33) rfl rfl k) ?_
  show OGo p e below _ T110 (mkF m 34 #[.val (.ref a), .val (.ref ca), .val (.int (0 : Int32)), .val (.int (Int32.ofNat cs.length)), .val .null, .unset] [(.ref ca)])
  refine os (fun _ k => XS.iloadN X110.here hx rfl (hb hby d42_149_34) rfl k) ?_
  show OGo p e below _ T110 (mkF m 35 #[.val (.ref a), .val (.ref ca), .val (.int (0 : Int32)), .val (.int (Int32.ofNat cs.length)), .val .null, .unset] [(.int (0 : Int32)), (.ref ca)])
  refine os (fun _ k => XS.iloadN X110.here hx rfl (hb hby d42_149_35) rfl k) ?_
  show OGo p e below _ T110 (mkF m 36 #[.val (.ref a), .val (.ref ca), .val (.int (0 : Int32)), .val (.int (Int32.ofNat cs.length)), .val .null, .unset] [(.int (Int32.ofNat cs.length)), (.int (0 : Int32)), (.ref ca)])
  obtain ⟨v111, T111, L111, X111, hQ111, st111⟩ := scall X110 hx hZ hown (own_g hw 15 rfl) (own_g hw 16 rfl) (own_g hw 17 rfl) (own_g hw 18 rfl) (by decide) (W := 0) (rm_cmp3 l Z a0 hw [] ca kc cs zc wf n0 h0 SS' O Vc hp hbl hcap) e110 (by decide) (by decide) (by decide) (by decide) (g := (mkF m 36 #[.val (.ref a), .val (.ref ca), .val (.int (0 : Int32)), .val (.int (Int32.ofNat cs.length)), .val .null, .unset] [(.int (Int32.ofNat cs.length)), (.int (0 : Int32)), (.ref ca)])) rfl (by rw [hml]; rfl) (argsL := [(.ref ca), (.int (0 : Int32)), (.int (Int32.ofNat cs.length))]) (rest := []) opd_22 rfl rfl rfl (by show 2 * 0 + _ ≤ _; exact Nat.le_of_eq rfl) (hb hby d42_149_36)
  obtain ⟨r111, kr111, rfl, sr111, N111, K111, V111⟩ := hQ111
  have NN111 := Fr.app N0 N111
  have KK111 : Keep h0 T111.heap [a] := (Keep.refl h0 [a]).trans K111 all0
  have sz_r111 : h0.size ≤ r111 := Nat.le_trans (Keep.refl h0 [a]).1 sr111
  refine os st111 ?_
  show OGo p e below _ T111 (mkF m 39 #[.val (.ref a), .val (.ref ca), .val (.int (0 : Int32)), .val (.int (Int32.ofNat cs.length)), .val .null, .unset] [(.ref r111)])
  refine os (fun _ k => XS.astore X111.here hx rfl (hb hby d42_149_39) rfl rfl (l' := #[.val (.ref a), .val (.ref ca), .val (.int (0 : Int32)), .val (.int (Int32.ofNat cs.length)), .val .null, .val (.ref r111)]) rfl k) ?_
  show OGo p e below _ T111 (mkF m 41 #[.val (.ref a), .val (.ref ca), .val (.int (0 : Int32)), .val (.int (Int32.ofNat cs.length)), .val .null, .val (.ref r111)] [])
  refine os (fun _ k => XS.aloadN X111.here hx rfl (hb hby d42_149_41) rfl rfl k) ?_
  show OGo p e below _ T111 (mkF m 42 #[.val (.ref a), .val (.ref ca), .val (.int (0 : Int32)), .val (.int (Int32.ofNat cs.length)), .val .null, .val (.ref r111)] [(.ref a)])
  refine os (fun _ k => XS.aload X111.here hx rfl (hb hby d42_149_42) rfl rfl k) ?_
  show OGo p e below _ T111 (mkF m 44 #[.val (.ref a), .val (.ref ca), .val (.int (0 : Int32)), .val (.int (Int32.ofNat cs.length)), .val .null, .val (.ref r111)] [(.ref r111), (.ref a)])
  refine os (fun _ k => XS.iloadN X111.here hx rfl (hb hby d42_149_44) rfl k) ?_
  show OGo p e below _ T111 (mkF m 45 #[.val (.ref a), .val (.ref ca), .val (.int (0 : Int32)), .val (.int (Int32.ofNat cs.length)), .val .null, .val (.ref r111)] [(.int (Int32.ofNat cs.length)), (.ref r111), (.ref a)])
  obtain ⟨v112, T112, L112, X112, hQ112, st112⟩ := scall X111 hx hZ hown (own_g hw 23 rfl) (own_g hw 24 rfl) (own_g hw 17 rfl) (own_g hw 25 rfl) (by decide) (W := 1) (rm_cfal l Z a0 hw [] r111 kr111 (Int32.ofNat cs.length) (own_b8 cs) T111.heap V111) rfl (by decide) (by decide) (by decide) (by decide) (g := (mkF m 45 #[.val (.ref a), .val (.ref ca), .val (.int (0 : Int32)), .val (.int (Int32.ofNat cs.length)), .val .null, .val (.ref r111)] [(.int (Int32.ofNat cs.length)), (.ref r111), (.ref a)])) rfl (by rw [hml]; rfl) (argsL := [(.ref r111), (.int (Int32.ofNat cs.length))]) (rest := [(.ref a)]) opd_23 rfl rfl rfl (by show 2 * 0 + _ ≤ _; exact Nat.le_of_eq rfl) (hb hby d42_149_45)
  obtain ⟨rfl, rfl, e112⟩ := hQ112
  rw [List.append_nil] at X112
  refine os st112 ?_
  show OGo p e below _ T112 (mkF m 48 #[.val (.ref a), .val (.ref ca), .val (.int (0 : Int32)), .val (.int (Int32.ofNat cs.length)), .val .null, .val (.ref r111)] [(.int (0 : Int32)), (.ref a)])
  obtain ⟨T113, h113, X113, e113, W113, st113⟩ := putFN X112 hx hZ hown (own_g hw 26 rfl) Via.refl e112 (Fc.keep K111 nin0) (E.keep K111) (Or.inr ⟨(own_g hw 27 rfl), rfl, hnm⟩) (own_g hw 2 rfl) (ty := .byte) (v' := (.int (0 : Int32))) (by decide) rfl rfl (g := (mkF m 48 #[.val (.ref a), .val (.ref ca), .val (.int (0 : Int32)), .val (.int (Int32.ofNat cs.length)), .val .null, .val (.ref r111)] [(.int (0 : Int32)), (.ref a)])) rfl rfl (hb hby d42_149_48)
  have Fw113 := (Fc.keep K111 nin0).same W113
  have N113 := Fr.snoc X113 NN111 g_a
  have KK113 : Keep h0 h113 [a] := KK111.wr W113 (Or.inl (List.mem_of_getElem? (i := 0) rfl))
  refine os st113 ?_
  show OGo p e below _ T113 (mkF m 51 #[.val (.ref a), .val (.ref ca), .val (.int (0 : Int32)), .val (.int (Int32.ofNat cs.length)), .val .null, .val (.ref r111)] [])
  refine os (fun _ k => XS.aloadN X113.here hx rfl (hb hby d42_149_51) rfl rfl k) ?_
  show OGo p e below _ T113 (mkF m 52 #[.val (.ref a), .val (.ref ca), .val (.int (0 : Int32)), .val (.int (Int32.ofNat cs.length)), .val .null, .val (.ref r111)] [(.ref a)])
  refine os (fun _ k => XS.aload X113.here hx rfl (hb hby d42_149_52) rfl rfl k) ?_
  show OGo p e below _ T113 (mkF m 54 #[.val (.ref a), .val (.ref ca), .val (.int (0 : Int32)), .val (.int (Int32.ofNat cs.length)), .val .null, .val (.ref r111)] [(.ref r111), (.ref a)])
  have q115 := ((Fv.keep K111 nin0).other W113 (Or.inr (slot_ne (Or.inr (own_g hw 29 rfl)) (Or.inr (own_g hw 27 rfl)) (by decide) (t := (.array .byte)) (t' := .byte) (by decide) (by decide))))
  obtain ⟨T114, h114, X114, e114, W114, st114⟩ := putF X113 hx hZ hown (host := "") (Or.inl (own_g hw 28 rfl)) Via.refl e113 q115 ((E.keep K111).wr W113) (Or.inr ⟨(own_g hw 29 rfl), rfl, hnm⟩) (own_g hw 2 rfl) (ty := (.array .byte)) (by decide) rfl rfl (g := (mkF m 54 #[.val (.ref a), .val (.ref ca), .val (.int (0 : Int32)), .val (.int (Int32.ofNat cs.length)), .val .null, .val (.ref r111)] [(.ref r111), (.ref a)])) rfl rfl (hb hby d42_149_54)
  have Fw114 := q115.same W114
  have N114 := Fr.snoc X114 N113 g_a
  have KK114 : Keep h0 h114 [a] := KK113.wr W114 (Or.inl (List.mem_of_getElem? (i := 0) rfl))
  refine os st114 ?_
  show OGo p e below _ T114 (mkF m 57 #[.val (.ref a), .val (.ref ca), .val (.int (0 : Int32)), .val (.int (Int32.ofNat cs.length)), .val .null, .val (.ref r111)] [])
  have q116 := (Fw113.other W114 (Or.inr (slot_ne (Or.inr (own_g hw 27 rfl)) (Or.inr (own_g hw 29 rfl)) (by decide) (t := .byte) (t' := (.array .byte)) (by decide) (by decide))))
  have ne117 : r111 ≠ a := (Ne.symm (Nat.ne_of_lt (Nat.lt_of_lt_of_le E.lt sz_r111)))
  have q118 := ((V111.other W113 ne117).other W114 ne117)
  exact OGo.retV X114 hx hret hlk (hb hby d42_149_57) (by decide) (by decide) (by rw [e114]; exact ⟨rfl, N114, KK114, r111, _, sz_r111, ⟨(((E.keep K111).wr W113).wr W114), q116, Fw114, by rw [own_b8_len]; exact q118⟩⟩)
theorem d42_3_0 : decode jdk_42_method_3_code 0 = .ok (.aload_n 0, 1) := by decide +kernel
theorem d42_3_1 : decode jdk_42_method_3_code 1 = .ok (.aload_n 1, 1) := by decide +kernel
theorem d42_3_2 : decode jdk_42_method_3_code 2 = .ok (.iconst 0, 1) := by decide +kernel
theorem d42_3_3 : decode jdk_42_method_3_code 3 = .ok (.aload_n 1, 1) := by decide +kernel
theorem d42_3_4 : decode jdk_42_method_3_code 4 = .ok (.arraylength, 1) := by decide +kernel
theorem d42_3_5 : decode jdk_42_method_3_code 5 = .ok (.aconst_null, 1) := by decide +kernel
theorem opd_24 : parseMethodDescriptor "([CIILjava/lang/Void;)V" = some ⟨[(.array .char), .int, .int, (.object "java/lang/Void")], none⟩ := by decide +kernel
theorem d42_3_6 : decode jdk_42_method_3_code 6 = .ok (.invokespecial 27, 3) := by decide +kernel
theorem d42_3_9 : decode jdk_42_method_3_code 9 = .ok (.return_, 1) := by decide +kernel
theorem opl_rm_new1 : plainFor (⟨"java/lang/String", "<init>", "([C)V"⟩ : MethodName) = true := plainFor_of_name (by first | (simp [plainName, overriddenIn]; done) | decide +kernel)
set_option maxRecDepth 65536 in
set_option maxHeartbeats 40000000 in
theorem rm_new1 (l : Launch) (Z : State) (a0 : Array Value) (hw : ∀ d ∈ tables_1, d.before a0 Z = true) (ws : List Jvm.Cond) (a : Addr) (ca : Addr) (kc : ClassId) (cs : List Int32) (zc : Int32) (wf : Value) (n0 : Nat) (h0 : Heap) (SS : own_SS Z zc wf) (O : Old Z n0 h0) (Vc : Arv Z h0 ca kc .char (Int32.ofNat cs.length) (cs.map Value.int) (.int (0 : Int32))) (hp : own_ok8 cs) (hbl : cs.length < 2147483648) (hcap : cs.length ≤ 2) (E : Exa Z h0 a "java/lang/String") (Fc : Fld Z h0 a "java/lang/String" "coder" "B" (.int (0 : Int32))) (Fv : Fld Z h0 a "java/lang/String" "value" "[B" .null) (g_a : n0 ≤ a) (hne : ¬ (Int32.ofNat cs.length) = 0) (nca : ca ≠ a) :
    Con l Z (⟨"java/lang/String", "<init>", "([C)V"⟩ : MethodName) jdk_42_method_3_code 2 none ws ({ frames := 3, cells := 1, slots := 2, locals := 52 } : Room) #[(.ref a), (.ref ca)] h0 (fun v h L => v = none ∧ Fr n0 L ∧ Keep h0 h [a] ∧ ∃ r k', h0.size ≤ r ∧ STI Z h a r k' (own_b8 cs)) := by
  refine Con.intro opl_rm_new1 ?_
  intro p e s m below meth c s₁ hx hby hml hown hret hlk hZ hnm X0 e0
  have SS' := SS
  obtain ⟨hzc, SC, hwf, SF⟩ := SS
  have Z0 : n0 ≤ h0.size := O.1 ▸ O.2.1
  have N0 := Fr.nil n0
  refine OGo.cast (g' := (mkF m 0 #[.val (.ref a), .val (.ref ca)] [])) (by first | (simp [entryFrame, mkF, argsToLocals, Value.category]; done) | rfl) ?_
  show OGo p e below _ s₁ (mkF m 0 #[.val (.ref a), .val (.ref ca)] [])
  refine os (fun _ k => XS.aloadN X0.here hx rfl (hb hby d42_3_0) rfl rfl k) ?_
  show OGo p e below _ s₁ (mkF m 1 #[.val (.ref a), .val (.ref ca)] [(.ref a)])
  refine os (fun _ k => XS.aloadN X0.here hx rfl (hb hby d42_3_1) rfl rfl k) ?_
  show OGo p e below _ s₁ (mkF m 2 #[.val (.ref a), .val (.ref ca)] [(.ref ca), (.ref a)])
  refine os (fun _ k => XS.iconst X0.here hx rfl (hb hby d42_3_2) k) ?_
  show OGo p e below _ s₁ (mkF m 3 #[.val (.ref a), .val (.ref ca)] [(.int (0 : Int32)), (.ref ca), (.ref a)])
  refine os (fun _ k => XS.aloadN X0.here hx rfl (hb hby d42_3_3) rfl rfl k) ?_
  show OGo p e below _ s₁ (mkF m 4 #[.val (.ref a), .val (.ref ca)] [(.ref ca), (.int (0 : Int32)), (.ref ca), (.ref a)])
  refine os (fun _ k => alenV X0 hx hZ e0 Vc (g := (mkF m 4 #[.val (.ref a), .val (.ref ca)] [(.ref ca), (.int (0 : Int32)), (.ref ca), (.ref a)])) rfl rfl (hb hby d42_3_4) _ k) ?_
  show OGo p e below _ s₁ (mkF m 5 #[.val (.ref a), .val (.ref ca)] [(.int (Int32.ofNat cs.length)), (.int (0 : Int32)), (.ref ca), (.ref a)])
  refine os (fun _ k => XS.aconstNull X0.here hx rfl (hb hby d42_3_5) k) ?_
  show OGo p e below _ s₁ (mkF m 6 #[.val (.ref a), .val (.ref ca)] [.null, (.int (Int32.ofNat cs.length)), (.int (0 : Int32)), (.ref ca), (.ref a)])
  obtain ⟨v119, T119, L119, X119, hQ119, st119⟩ := icall X0 hx hZ rfl hown (own_g hw 7 rfl) (own_g hw 8 rfl) (own_g hw 3 rfl) (own_g hw 10 rfl) (by decide) (W := 0) (rm_new4 l Z a0 hw [] a ca kc cs zc wf n0 h0 SS' O Vc hp hbl hcap E Fc Fv g_a hne nca) e0 (by decide) (by decide) (by decide) (by decide) (g := (mkF m 6 #[.val (.ref a), .val (.ref ca)] [.null, (.int (Int32.ofNat cs.length)), (.int (0 : Int32)), (.ref ca), (.ref a)])) rfl (by rw [hml]; rfl) (a := a) (argsL := [(.ref ca), (.int (0 : Int32)), (.int (Int32.ofNat cs.length)), .null]) (rest := []) opd_24 rfl rfl rfl (by show 2 * 0 + _ ≤ _; exact Nat.le_of_eq rfl) (hb hby d42_3_6)
  obtain ⟨rfl, N119, K119, r119, kr119, sr119, I119⟩ := hQ119
  have NN119 := Fr.app N0 N119
  have KK119 : Keep h0 T119.heap [a] := (Keep.refl h0 [a]).trans K119 (allS (Or.inl (List.mem_of_getElem? (i := 0) rfl)) all0)
  refine os st119 ?_
  show OGo p e below _ T119 (mkF m 9 #[.val (.ref a), .val (.ref ca)] [])
  exact OGo.retV X119 hx hret hlk (hb hby d42_3_9) (by decide) (by decide) ⟨rfl, NN119, KK119, r119, _, sr119, I119⟩
theorem own_fat {Z : State} {a0 : Array Value} (hw : ∀ d ∈ tables_1, d.before a0 Z = true) : ∀ d ∈ own_fillAtoms "com/example/slackline/slackline/instance/InputException", d.before a0 Z = true := own_caA (own_caS (own_g hw 45 rfl) (own_caS (own_g hw 63 rfl) (own_caS (own_g hw 58 rfl) (own_caS (own_g hw 64 rfl) (own_caS (own_g hw 65 rfl) (own_caS (own_g hw 66 rfl) (own_caS (own_g hw 67 rfl) (own_caS (own_g hw 68 rfl) (own_caS (own_g hw 12 rfl) (own_caS (own_g hw 13 rfl) (own_caS (own_g hw 47 rfl) (own_caS (own_g hw 56 rfl) (own_caS (own_g hw 69 rfl) (own_caS (own_g hw 48 rfl) (own_caS (own_g hw 49 rfl) (own_caS (own_g hw 51 rfl) (own_caS (own_g hw 52 rfl) (own_caS (own_g hw 54 rfl) (own_caS (own_g hw 55 rfl) (own_caS (own_g hw 50 rfl) (own_caS (own_g hw 76 rfl) (own_caS (own_g hw 53 rfl) (own_caS (own_g hw 77 rfl) (own_caS (own_g hw 83 rfl) (own_caS (own_g hw 79 rfl) own_ca0))))))))))))))))))))))))) (own_caS (own_g hw 57 rfl) (own_caS (own_g hw 78 rfl) (own_caS (own_g hw 59 rfl) (own_caS (own_g hw 74 rfl) (own_caS (own_g hw 80 rfl) (own_caS (own_g hw 60 rfl) (own_caS (own_g hw 61 rfl) (own_caS (own_g hw 62 rfl) (own_caS (own_g hw 81 rfl) own_ca0)))))))))
theorem d78_2_0 : decode jdk_78_method_2_code 0 = .ok (.aload_n 0, 1) := by decide +kernel
theorem d78_2_1 : decode jdk_78_method_2_code 1 = .ok (.invokespecial 1, 3) := by decide +kernel
theorem d78_2_4 : decode jdk_78_method_2_code 4 = .ok (.aload_n 0, 1) := by decide +kernel
theorem d78_2_5 : decode jdk_78_method_2_code 5 = .ok (.aload_n 0, 1) := by decide +kernel
theorem d78_2_6 : decode jdk_78_method_2_code 6 = .ok (.putfield 7, 3) := by decide +kernel
theorem d78_2_9 : decode jdk_78_method_2_code 9 = .ok (.aload_n 0, 1) := by decide +kernel
theorem d78_2_10 : decode jdk_78_method_2_code 10 = .ok (.getstatic 13, 3) := by decide +kernel
theorem d78_2_13 : decode jdk_78_method_2_code 13 = .ok (.putfield 17, 3) := by decide +kernel
theorem d78_2_16 : decode jdk_78_method_2_code 16 = .ok (.aload_n 0, 1) := by decide +kernel
theorem d78_2_17 : decode jdk_78_method_2_code 17 = .ok (.getstatic 20, 3) := by decide +kernel
theorem d78_2_20 : decode jdk_78_method_2_code 20 = .ok (.putfield 24, 3) := by decide +kernel
theorem d78_2_23 : decode jdk_78_method_2_code 23 = .ok (.aload_n 0, 1) := by decide +kernel
theorem d78_2_24 : decode jdk_78_method_2_code 24 = .ok (.invokevirtual 27, 3) := by decide +kernel
theorem d78_2_27 : decode jdk_78_method_2_code 27 = .ok (.pop, 1) := by decide +kernel
theorem d78_2_28 : decode jdk_78_method_2_code 28 = .ok (.aload_n 0, 1) := by decide +kernel
theorem d78_2_29 : decode jdk_78_method_2_code 29 = .ok (.aload_n 1, 1) := by decide +kernel
theorem d78_2_30 : decode jdk_78_method_2_code 30 = .ok (.putfield 31, 3) := by decide +kernel
theorem d78_2_33 : decode jdk_78_method_2_code 33 = .ok (.return_, 1) := by decide +kernel
theorem opl_rm_thr : plainFor (⟨"java/lang/Throwable", "<init>", "(Ljava/lang/String;)V"⟩ : MethodName) = true := plainFor_of_name (by first | (simp [plainName, overriddenIn]; done) | decide +kernel)
set_option maxRecDepth 65536 in
set_option maxHeartbeats 40000000 in
theorem rm_thr (l : Launch) (Z : State) (a0 : Array Value) (hw : ∀ d ∈ tables_1, d.before a0 Z = true) (ws : List Jvm.Cond) (a b : Addr) (zc : Int32) (wf : Value) (n0 : Nat) (u0 u1 : RefV) (h0 : Heap) (SS : own_SS Z zc wf) (O : Old Z n0 h0) (TS : own_TS Z u0 u1) (hlt : l.stackTraces = true) (E : Exa Z h0 a "com/example/slackline/slackline/instance/InputException") (U0 : Unt h0 a) (g_a : n0 ≤ a) (F0 : Fld Z h0 a "java/lang/Throwable" "cause" "Ljava/lang/Throwable;" .null) (F1 : Fld Z h0 a "java/lang/Throwable" "stackTrace" "[Ljava/lang/StackTraceElement;" .null) (F2 : Fld Z h0 a "java/lang/Throwable" "suppressedExceptions" "Ljava/util/List;" .null) (F3 : Fld Z h0 a "java/lang/Throwable" "backtrace" "Ljava/lang/Object;" .null) (F4 : Fld Z h0 a "java/lang/Throwable" "detailMessage" "Ljava/lang/String;" .null) :
    ConK l Z own_EL (⟨"java/lang/Throwable", "<init>", "(Ljava/lang/String;)V"⟩ : MethodName) jdk_78_method_2_code 2 none ws ({ frames := 3, cells := 1, slots := 2752, locals := 42 } : Room) #[(.ref a), (.ref b)] h0 (fun v h L => v = none ∧ Fr n0 L ∧ Keep h0 h [a] ∧ Unt h a ∧ Fld Z h a "java/lang/Throwable" "cause" "Ljava/lang/Throwable;" (.ref a) ∧ Fld Z h a "java/lang/Throwable" "detailMessage" "Ljava/lang/String;" (.ref b)) := by
  refine ConK.intro opl_rm_thr ?_
  intro p e s m below meth c s₁ hx hby hml hown hret hlk hZ hnm X0 e0 hs0 hS0 H0 R0 hTK hBl
  have SS' := SS
  obtain ⟨hzc, SC, hwf, SF⟩ := SS
  have Z0 : n0 ≤ h0.size := O.1 ▸ O.2.1
  have N0 := Fr.nil n0
  refine OGo.cast (g' := (mkF m 0 #[.val (.ref a), .val (.ref b)] [])) (by first | (simp [entryFrame, mkF, argsToLocals, Value.category]; done) | rfl) ?_
  show OGo p e below _ s₁ (mkF m 0 #[.val (.ref a), .val (.ref b)] [])
  refine os (fun _ k => XS.aloadN X0.here hx rfl (hb hby d78_2_0) rfl rfl k) ?_
  show OGo p e below _ s₁ (mkF m 1 #[.val (.ref a), .val (.ref b)] [(.ref a)])
  obtain ⟨T120, X120, e120, st120⟩ := initO X0 hx hZ hown (own_g hw 47 rfl) (own_g hw 12 rfl) (own_g hw 13 rfl) e0 (g := (mkF m 1 #[.val (.ref a), .val (.ref b)] [(.ref a)])) rfl (by rw [hml]; rfl) rfl (hb hby d78_2_1) (by decide) (W := 0) (by show 2 * 0 + _ ≤ _; exact Nat.le_of_eq rfl) (by decide)
  refine os st120 ?_
  show OGo p e below _ T120 (mkF m 4 #[.val (.ref a), .val (.ref b)] [])
  refine os (fun _ k => XS.aloadN X120.here hx rfl (hb hby d78_2_4) rfl rfl k) ?_
  show OGo p e below _ T120 (mkF m 5 #[.val (.ref a), .val (.ref b)] [(.ref a)])
  refine os (fun _ k => XS.aloadN X120.here hx rfl (hb hby d78_2_5) rfl rfl k) ?_
  show OGo p e below _ T120 (mkF m 6 #[.val (.ref a), .val (.ref b)] [(.ref a), (.ref a)])
  obtain ⟨T121, h121, X121, e121, W121, st121⟩ := putF X120 hx hZ hown (host := "") (Or.inl (own_g hw 48 rfl)) Via.refl e120 F0 E (Or.inl (own_g hw 49 rfl)) (own_g hw 31 rfl) (ty := (.object "java/lang/Throwable")) (by decide) rfl rfl (g := (mkF m 6 #[.val (.ref a), .val (.ref b)] [(.ref a), (.ref a)])) rfl rfl (hb hby d78_2_6)
  have Fw121 := F0.same W121
  have q122 := (Safe.exa (EL := own_EL) hZ.alike E (by decide) (by decide))
  have N121 := Fr.snoc X121 N0 g_a
  have KK121 : Keep h0 h121 [a] := (Keep.refl h0 [a]).wr W121 (Or.inl (List.mem_of_getElem? (i := 0) rfl))
  have H121 := CHv.wr W121 q122 H0
  have R121 := CHr.trans R0 (CHr.wr W121 q122 H0)
  refine os st121 ?_
  show OGo p e below _ T121 (mkF m 9 #[.val (.ref a), .val (.ref b)] [])
  refine os (fun _ k => XS.aloadN X121.here hx rfl (hb hby d78_2_9) rfl rfl k) ?_
  show OGo p e below _ T121 (mkF m 10 #[.val (.ref a), .val (.ref b)] [(.ref a)])
  obtain ⟨T123, X123, e123, st123⟩ := getS2 X121 hx hZ hown (host := "") (Or.inl (own_g hw 50 rfl)) Via.refl e121 (TS.1.ext (O.wr W121 g_a).2) (g := (mkF m 10 #[.val (.ref a), .val (.ref b)] [(.ref a)])) rfl (hb hby d78_2_10)
  refine os st123 ?_
  show OGo p e below _ T123 (mkF m 13 #[.val (.ref a), .val (.ref b)] [u0.v, (.ref a)])
  have q125 := (F1.other W121 (Or.inr (slot_ne (Or.inl (own_g hw 52 rfl)) (Or.inl (own_g hw 49 rfl)) (by decide) (t := (.array (.object "java/lang/StackTraceElement"))) (t' := (.object "java/lang/Throwable")) (by decide) (by decide))))
  obtain ⟨T124, h124, X124, e124, W124, st124⟩ := putF X123 hx hZ hown (host := "") (Or.inl (own_g hw 51 rfl)) Via.refl e123 q125 (E.wr W121) (Or.inl (own_g hw 52 rfl)) (own_g hw 31 rfl) (ty := (.array (.object "java/lang/StackTraceElement"))) (by decide) (narrow_refV _ u0) (fits_refV_array _ u0) (g := (mkF m 13 #[.val (.ref a), .val (.ref b)] [u0.v, (.ref a)])) rfl rfl (hb hby d78_2_13)
  have Fw124 := q125.same W124
  have N124 := Fr.snoc X124 N121 g_a
  have KK124 : Keep h0 h124 [a] := KK121.wr W124 (Or.inl (List.mem_of_getElem? (i := 0) rfl))
  have H124 := CHv.wr W124 (Safe.wr W121 q122 H0 q122) H121
  have R124 := CHr.trans R121 (CHr.wr W124 (Safe.wr W121 q122 H0 q122) H121)
  refine os st124 ?_
  show OGo p e below _ T124 (mkF m 16 #[.val (.ref a), .val (.ref b)] [])
  refine os (fun _ k => XS.aloadN X124.here hx rfl (hb hby d78_2_16) rfl rfl k) ?_
  show OGo p e below _ T124 (mkF m 17 #[.val (.ref a), .val (.ref b)] [(.ref a)])
  obtain ⟨T126, X126, e126, st126⟩ := getS2 X124 hx hZ hown (host := "") (Or.inl (own_g hw 53 rfl)) Via.refl e124 (TS.2.ext ((O.wr W121 g_a).wr W124 g_a).2) (g := (mkF m 17 #[.val (.ref a), .val (.ref b)] [(.ref a)])) rfl (hb hby d78_2_17)
  refine os st126 ?_
  show OGo p e below _ T126 (mkF m 20 #[.val (.ref a), .val (.ref b)] [u1.v, (.ref a)])
  have q128 := ((F2.other W121 (Or.inr (slot_ne (Or.inl (own_g hw 55 rfl)) (Or.inl (own_g hw 49 rfl)) (by decide) (t := (.object "java/util/List")) (t' := (.object "java/lang/Throwable")) (by decide) (by decide)))).other W124 (Or.inr (slot_ne (Or.inl (own_g hw 55 rfl)) (Or.inl (own_g hw 52 rfl)) (by decide) (t := (.object "java/util/List")) (t' := (.array (.object "java/lang/StackTraceElement"))) (by decide) (by decide))))
  obtain ⟨T127, h127, X127, e127, W127, st127⟩ := putF X126 hx hZ hown (host := "") (Or.inl (own_g hw 54 rfl)) Via.refl e126 q128 ((E.wr W121).wr W124) (Or.inl (own_g hw 55 rfl)) (own_g hw 31 rfl) (ty := (.object "java/util/List")) (by decide) (narrow_refV _ u1) (fits_refV_object _ u1) (g := (mkF m 20 #[.val (.ref a), .val (.ref b)] [u1.v, (.ref a)])) rfl rfl (hb hby d78_2_20)
  have Fw127 := q128.same W127
  have q129 := (Safe.wr W124 (Safe.wr W121 q122 H0 q122) H121 (Safe.wr W121 q122 H0 q122))
  have N127 := Fr.snoc X127 N124 g_a
  have KK127 : Keep h0 h127 [a] := KK124.wr W127 (Or.inl (List.mem_of_getElem? (i := 0) rfl))
  have H127 := CHv.wr W127 q129 H124
  have R127 := CHr.trans R124 (CHr.wr W127 q129 H124)
  refine os st127 ?_
  show OGo p e below _ T127 (mkF m 23 #[.val (.ref a), .val (.ref b)] [])
  refine os (fun _ k => XS.aloadN X127.here hx rfl (hb hby d78_2_23) rfl rfl k) ?_
  show OGo p e below _ T127 (mkF m 24 #[.val (.ref a), .val (.ref b)] [(.ref a)])
  have q131 := (Unt.wr W127 (Unt.wr W124 (Unt.wr W121 U0)))
  have q132 := (Fw124.other W127 (Or.inr (slot_ne (Or.inl (own_g hw 52 rfl)) (Or.inl (own_g hw 55 rfl)) (by decide) (t := (.array (.object "java/lang/StackTraceElement"))) (t' := (.object "java/util/List")) (by decide) (by decide))))
  have q133 := (((F3.other W121 (Or.inr (slot_ne (Or.inl (own_g hw 80 rfl)) (Or.inl (own_g hw 49 rfl)) (by decide) (t := (.object "java/lang/Object")) (t' := (.object "java/lang/Throwable")) (by decide) (by decide)))).other W124 (Or.inr (slot_ne (Or.inl (own_g hw 80 rfl)) (Or.inl (own_g hw 52 rfl)) (by decide) (t := (.object "java/lang/Object")) (t' := (.array (.object "java/lang/StackTraceElement"))) (by decide) (by decide)))).other W127 (Or.inr (slot_ne (Or.inl (own_g hw 80 rfl)) (Or.inl (own_g hw 55 rfl)) (by decide) (t := (.object "java/lang/Object")) (t' := (.object "java/util/List")) (by decide) (by decide))))
  have q134 := ((Fw121.other W124 (Or.inr (slot_ne (Or.inl (own_g hw 49 rfl)) (Or.inl (own_g hw 52 rfl)) (by decide) (t := (.object "java/lang/Throwable")) (t' := (.array (.object "java/lang/StackTraceElement"))) (by decide) (by decide)))).other W127 (Or.inr (slot_ne (Or.inl (own_g hw 49 rfl)) (Or.inl (own_g hw 55 rfl)) (by decide) (t := (.object "java/lang/Throwable")) (t' := (.object "java/util/List")) (by decide) (by decide))))
  have q135 := (((F4.other W121 (Or.inr (slot_ne (Or.inl (own_g hw 79 rfl)) (Or.inl (own_g hw 49 rfl)) (by decide) (t := (.object "java/lang/String")) (t' := (.object "java/lang/Throwable")) (by decide) (by decide)))).other W124 (Or.inr (slot_ne (Or.inl (own_g hw 79 rfl)) (Or.inl (own_g hw 52 rfl)) (by decide) (t := (.object "java/lang/String")) (t' := (.array (.object "java/lang/StackTraceElement"))) (by decide) (by decide)))).other W127 (Or.inr (slot_ne (Or.inl (own_g hw 79 rfl)) (Or.inl (own_g hw 55 rfl)) (by decide) (t := (.object "java/lang/String")) (t' := (.object "java/util/List")) (by decide) (by decide))))
  have q136 := (((O.wr W121 g_a).wr W124 g_a).wr W127 g_a)
  obtain ⟨T130, L130, X130, B130, K130, U130, A130, FC130, FM130, st130⟩ := own_fillF X127 hx hlt hZ hown (own_fat hw) (own_g hw 31 rfl) (ThS.ext O.2 ThS.start) hTK hBl hs0 e127 (own_b1 (own_b1 (own_b1 own_b0))) E U0 q131 q132 q133 q134 q135 (TS.1.ext q136.2) (((E.wr W121).wr W124).wr W127) (g := (mkF m 24 #[.val (.ref a), .val (.ref b)] [(.ref a)])) rfl (by rw [hml]; rfl) (rest := []) rfl (hb hby d78_2_24) (by decide) (w := 0) (by show 2 * 0 + _ ≤ _; exact Nat.le_of_eq rfl) (by decide) (by decide) (by decide)
  have N130 := own_frb B130 g_a
  have H130 := CHv.keep K130 (sfS (Safe.exa (EL := own_EL) hZ.alike E (by decide) (by decide)) sf0) H0
  have R130 := CHr.trans R0 (CHr.keep K130 (sfS (Safe.exa (EL := own_EL) hZ.alike E (by decide) (by decide)) sf0) H0)
  refine os st130 ?_
  show OGo p e below _ T130 (mkF m 27 #[.val (.ref a), .val (.ref b)] [(.ref a)])
  refine os (fun _ k => XS.pop X130.here hx rfl (hb hby d78_2_27) rfl rfl k) ?_
  show OGo p e below _ T130 (mkF m 28 #[.val (.ref a), .val (.ref b)] [])
  refine os (fun _ k => XS.aloadN X130.here hx rfl (hb hby d78_2_28) rfl rfl k) ?_
  show OGo p e below _ T130 (mkF m 29 #[.val (.ref a), .val (.ref b)] [(.ref a)])
  refine os (fun _ k => XS.aloadN X130.here hx rfl (hb hby d78_2_29) rfl rfl k) ?_
  show OGo p e below _ T130 (mkF m 30 #[.val (.ref a), .val (.ref b)] [(.ref b), (.ref a)])
  obtain ⟨T137, h137, X137, e137, W137, st137⟩ := putF X130 hx hZ hown (host := "") (Or.inl (own_g hw 83 rfl)) Via.refl rfl FM130 A130 (Or.inl (own_g hw 79 rfl)) (own_g hw 31 rfl) (ty := (.object "java/lang/String")) (by decide) rfl rfl (g := (mkF m 30 #[.val (.ref a), .val (.ref b)] [(.ref b), (.ref a)])) rfl rfl (hb hby d78_2_30)
  have Fw137 := FM130.same W137
  have q138 := (Safe.keep K130 (sfS (Safe.exa (EL := own_EL) hZ.alike E (by decide) (by decide)) sf0) H0 (Safe.exa (EL := own_EL) hZ.alike E (by decide) (by decide)))
  have N137 := Fr.snoc X137 N130 g_a
  have KK137 : Keep h0 h137 [a] := K130.wr W137 (Or.inl (List.mem_of_getElem? (i := 0) rfl))
  have H137 := CHv.wr W137 q138 H130
  have R137 := CHr.trans R130 (CHr.wr W137 q138 H130)
  refine os st137 ?_
  show OGo p e below _ T137 (mkF m 33 #[.val (.ref a), .val (.ref b)] [])
  have q139 := (FC130.other W137 (Or.inr (slot_ne (Or.inl (own_g hw 49 rfl)) (Or.inl (own_g hw 79 rfl)) (by decide) (t := (.object "java/lang/Throwable")) (t' := (.object "java/lang/String")) (by decide) (by decide))))
  exact OGo.retHV X137 hx hZ (own_hEL hw) hs0 e137 hS0 (Nat.le_trans (Nat.zero_le _) (Nat.le_of_eq W137.size.symm)) H137 R137 hret hlk (hb hby d78_2_33) (by decide) (by decide) (by exact ⟨rfl, N137, KK137, (Unt.wr W137 U130), q139, Fw137⟩)
theorem d59_2_0 : decode jdk_59_method_2_code 0 = .ok (.aload_n 0, 1) := by decide +kernel
theorem d59_2_1 : decode jdk_59_method_2_code 1 = .ok (.aload_n 1, 1) := by decide +kernel
theorem d59_2_2 : decode jdk_59_method_2_code 2 = .ok (.invokespecial 7, 3) := by decide +kernel
theorem d59_2_5 : decode jdk_59_method_2_code 5 = .ok (.return_, 1) := by decide +kernel
theorem opl_rm_exc : plainFor (⟨"java/lang/Exception", "<init>", "(Ljava/lang/String;)V"⟩ : MethodName) = true := plainFor_of_name (by first | (simp [plainName, overriddenIn]; done) | decide +kernel)
set_option maxRecDepth 65536 in
set_option maxHeartbeats 40000000 in
theorem rm_exc (l : Launch) (Z : State) (a0 : Array Value) (hw : ∀ d ∈ tables_1, d.before a0 Z = true) (ws : List Jvm.Cond) (a b : Addr) (zc : Int32) (wf : Value) (n0 : Nat) (u0 u1 : RefV) (h0 : Heap) (SS : own_SS Z zc wf) (O : Old Z n0 h0) (TS : own_TS Z u0 u1) (hlt : l.stackTraces = true) (E : Exa Z h0 a "com/example/slackline/slackline/instance/InputException") (U0 : Unt h0 a) (g_a : n0 ≤ a) (F0 : Fld Z h0 a "java/lang/Throwable" "cause" "Ljava/lang/Throwable;" .null) (F1 : Fld Z h0 a "java/lang/Throwable" "stackTrace" "[Ljava/lang/StackTraceElement;" .null) (F2 : Fld Z h0 a "java/lang/Throwable" "suppressedExceptions" "Ljava/util/List;" .null) (F3 : Fld Z h0 a "java/lang/Throwable" "backtrace" "Ljava/lang/Object;" .null) (F4 : Fld Z h0 a "java/lang/Throwable" "detailMessage" "Ljava/lang/String;" .null) :
    ConK l Z own_EL (⟨"java/lang/Exception", "<init>", "(Ljava/lang/String;)V"⟩ : MethodName) jdk_59_method_2_code 2 none ws ({ frames := 4, cells := 1, slots := 2752, locals := 55 } : Room) #[(.ref a), (.ref b)] h0 (fun v h L => v = none ∧ Fr n0 L ∧ Keep h0 h [a] ∧ Unt h a ∧ Fld Z h a "java/lang/Throwable" "cause" "Ljava/lang/Throwable;" (.ref a) ∧ Fld Z h a "java/lang/Throwable" "detailMessage" "Ljava/lang/String;" (.ref b)) := by
  refine ConK.intro opl_rm_exc ?_
  intro p e s m below meth c s₁ hx hby hml hown hret hlk hZ hnm X0 e0 hs0 hS0 H0 R0 hTK hBl
  have SS' := SS
  obtain ⟨hzc, SC, hwf, SF⟩ := SS
  have Z0 : n0 ≤ h0.size := O.1 ▸ O.2.1
  have N0 := Fr.nil n0
  refine OGo.cast (g' := (mkF m 0 #[.val (.ref a), .val (.ref b)] [])) (by first | (simp [entryFrame, mkF, argsToLocals, Value.category]; done) | rfl) ?_
  show OGo p e below _ s₁ (mkF m 0 #[.val (.ref a), .val (.ref b)] [])
  refine os (fun _ k => XS.aloadN X0.here hx rfl (hb hby d59_2_0) rfl rfl k) ?_
  show OGo p e below _ s₁ (mkF m 1 #[.val (.ref a), .val (.ref b)] [(.ref a)])
  refine os (fun _ k => XS.aloadN X0.here hx rfl (hb hby d59_2_1) rfl rfl k) ?_
  show OGo p e below _ s₁ (mkF m 2 #[.val (.ref a), .val (.ref b)] [(.ref b), (.ref a)])
  obtain ⟨v140, T140, L140, kk140, X140, hS140, hk140, hZ140, hown140, CR140, hQ140, st140⟩ := icallK X0 hx hZ rfl hown (own_hEL hw) hS0 (Nat.zero_le _) H0 hTK hBl (own_g hw 41 rfl) (own_g hw 42 rfl) (own_g hw 45 rfl) (own_g hw 46 rfl) (by decide) (W := 0) (rm_thr l Z a0 hw [] a b zc wf n0 u0 u1 h0 SS' O TS hlt E U0 g_a F0 F1 F2 F3 F4) e0 (by decide) (by decide) (by decide) (by decide) (g := (mkF m 2 #[.val (.ref a), .val (.ref b)] [(.ref b), (.ref a)])) rfl (by rw [hml]; rfl) (a := a) (argsL := [(.ref b)]) (rest := []) opd_9 rfl rfl rfl (by show 2 * 0 + _ ≤ _; exact Nat.le_of_eq rfl) (hb hby d59_2_2)
  obtain ⟨rfl, N140, K140, U140, FC140, FM140⟩ := hQ140
  have NN140 := Fr.app N0 N140
  have KK140 : Keep h0 T140.heap [a] := (Keep.refl h0 [a]).trans K140 (allS (Or.inl (List.mem_of_getElem? (i := 0) rfl)) all0)
  have H140 := CR140.1
  have R140 := CHr.trans R0 CR140
  refine os st140 ?_
  show OGo p e below _ T140 (mkF m 5 #[.val (.ref a), .val (.ref b)] [])
  exact OGo.retHV X140 hx hZ140 (own_hEL hw) hs0 rfl hS140 hk140 H140 R140 hret hlk (hb hby d59_2_5) (by decide) (by decide) ⟨rfl, NN140, KK140, U140, FC140, FM140⟩
def own_l7 : List Value := [(.int (108 : Int32)), (.int (105 : Int32)), (.int (110 : Int32)), (.int (101 : Int32)), (.int (32 : Int32))]
theorem own_n7 : own_l7.length = 5 := rfl
def own_l16 : List Value := [(.int (58 : Int32)), (.int (32 : Int32))]
theorem own_n16 : own_l16.length = 2 := rfl
def own_l37 : List Value := [(.int (58 : Int32))]
theorem own_n37 : own_l37.length = 1 := rfl
theorem own_capin {z m : Nat} (h : z = 16 ∨ z = 34) (hm : m ≤ 34) : own_cap z m = 16 ∨ own_cap z m = 34 := by
  unfold own_cap; split <;> omega
theorem own_ofNat0 {n : Nat} (h : n < 2147483648) (q : Int32.ofNat n = 0) : n = 0 := by
  have := congrArg Int32.toInt q
  rw [own_toInt h] at this
  have e : (0 : Int32).toInt = 0 := rfl
  omega
theorem d19_1_0 : decode prog_19_method_1_code 0 = .ok (.aload_n 0, 1) := by decide +kernel
theorem d19_1_1 : decode prog_19_method_1_code 1 = .ok (.iload_n 1, 1) := by decide +kernel
theorem d19_1_2 : decode prog_19_method_1_code 2 = .ok (.ifCond .ne 7, 3) := by decide +kernel
theorem d19_1_5 : decode prog_19_method_1_code 5 = .ok (.aload_n 2, 1) := by decide +kernel
theorem d19_1_6 : decode prog_19_method_1_code 6 = .ok (.goto 31, 3) := by decide +kernel
theorem d19_1_37 : decode prog_19_method_1_code 37 = .ok (.invokespecial 22, 3) := by decide +kernel
theorem d19_1_40 : decode prog_19_method_1_code 40 = .ok (.aload_n 0, 1) := by decide +kernel
theorem d19_1_41 : decode prog_19_method_1_code 41 = .ok (.iload_n 1, 1) := by decide +kernel
theorem d19_1_42 : decode prog_19_method_1_code 42 = .ok (.putfield 27, 3) := by decide +kernel
theorem d19_1_45 : decode prog_19_method_1_code 45 = .ok (.aload_n 0, 1) := by decide +kernel
theorem d19_1_46 : decode prog_19_method_1_code 46 = .ok (.aload_n 2, 1) := by decide +kernel
theorem d19_1_47 : decode prog_19_method_1_code 47 = .ok (.putfield 33, 3) := by decide +kernel
theorem d19_1_50 : decode prog_19_method_1_code 50 = .ok (.return_, 1) := by decide +kernel
theorem d19_1_9 : decode prog_19_method_1_code 9 = .ok (.new 1, 3) := by decide +kernel
theorem d19_1_12 : decode prog_19_method_1_code 12 = .ok (.dup, 1) := by decide +kernel
theorem opd_25 : parseMethodDescriptor "()V" = some ⟨[], none⟩ := by decide +kernel
theorem d19_1_13 : decode prog_19_method_1_code 13 = .ok (.invokespecial 3, 3) := by decide +kernel
theorem d19_1_16 : decode prog_19_method_1_code 16 = .ok (.ldc 7, 2) := by decide +kernel
theorem opd_26 : parseMethodDescriptor "(Ljava/lang/String;)Ljava/lang/StringBuilder;" = some ⟨[(.object "java/lang/String")], some (.object "java/lang/StringBuilder")⟩ := by decide +kernel
theorem d19_1_18 : decode prog_19_method_1_code 18 = .ok (.invokevirtual 9, 3) := by decide +kernel
theorem d19_1_21 : decode prog_19_method_1_code 21 = .ok (.iload_n 1, 1) := by decide +kernel
theorem opd_27 : parseMethodDescriptor "(I)Ljava/lang/StringBuilder;" = some ⟨[.int], some (.object "java/lang/StringBuilder")⟩ := by decide +kernel
theorem d19_1_22 : decode prog_19_method_1_code 22 = .ok (.invokevirtual 13, 3) := by decide +kernel
theorem d19_1_25 : decode prog_19_method_1_code 25 = .ok (.ldc 16, 2) := by decide +kernel
theorem d19_1_27 : decode prog_19_method_1_code 27 = .ok (.invokevirtual 9, 3) := by decide +kernel
theorem d19_1_30 : decode prog_19_method_1_code 30 = .ok (.aload_n 2, 1) := by decide +kernel
theorem d19_1_31 : decode prog_19_method_1_code 31 = .ok (.invokevirtual 9, 3) := by decide +kernel
theorem opd_28 : parseMethodDescriptor "()Ljava/lang/String;" = some ⟨[], some (.object "java/lang/String")⟩ := by decide +kernel
theorem d19_1_34 : decode prog_19_method_1_code 34 = .ok (.invokevirtual 18, 3) := by decide +kernel
theorem opl_rm_inp : plainFor (⟨"com/example/slackline/slackline/instance/InputException", "<init>", "(ILjava/lang/String;)V"⟩ : MethodName) = true := plainFor_of_name (by first | (simp [plainName, overriddenIn]; done) | decide +kernel)
set_option maxRecDepth 65536 in
set_option maxHeartbeats 40000000 in
theorem rm_inp (l : Launch) (Z : State) (a0 : Array Value) (hw : ∀ d ∈ tables_1, d.before a0 Z = true) (ws : List Jvm.Cond) (a b e2 : Addr) (k2 : ClassId) (vs : List Value) (n : Nat) (zc : Int32) (wf : Value) (n0 : Nat) (u0 u1 : RefV) (d1 d2 : Addr) (kd1 kd2 : ClassId) (h0 : Heap) (SS : own_SS Z zc wf) (O : Old Z n0 h0) (TS : own_TS Z u0 u1) (hlt : l.stackTraces = true) (SI : own_SI Z d1 d2 kd1 kd2) (hn : n < 2147483648) (E : Exa Z h0 a "com/example/slackline/slackline/instance/InputException") (U0 : Unt h0 a) (g_a : n0 ≤ a) (F0 : Fld Z h0 a "java/lang/Throwable" "cause" "Ljava/lang/Throwable;" .null) (F1 : Fld Z h0 a "java/lang/Throwable" "stackTrace" "[Ljava/lang/StackTraceElement;" .null) (F2 : Fld Z h0 a "java/lang/Throwable" "suppressedExceptions" "Ljava/util/List;" .null) (F3 : Fld Z h0 a "java/lang/Throwable" "backtrace" "Ljava/lang/Object;" .null) (F4 : Fld Z h0 a "java/lang/Throwable" "detailMessage" "Ljava/lang/String;" .null) (I : STI Z h0 b e2 k2 vs) (hvs : vs.length = 2) :
    ConK l Z own_EL (⟨"com/example/slackline/slackline/instance/InputException", "<init>", "(ILjava/lang/String;)V"⟩ : MethodName) prog_19_method_1_code 3 none ws ({ frames := 6, cells := 13, slots := 3144, locals := 103 } : Room) #[(.ref a), (.int (Int32.ofNat n)), (.ref b)] h0 (fun v h L => v = none ∧ Fr n0 L ∧ Keep h0 h [a] ∧ Fld Z h a "com/example/slackline/slackline/instance/InputException" "line" "I" (.int (Int32.ofNat n)) ∧ Fld Z h a "com/example/slackline/slackline/instance/InputException" "reason" "Ljava/lang/String;" (.ref b)) := by
  refine ConK.intro opl_rm_inp ?_
  intro p e s m below meth c s₁ hx hby hml hown hret hlk hZ hnm X0 e0 hs0 hS0 H0 R0 hTK hBl
  have SS' := SS
  obtain ⟨hzc, SC, hwf, SF⟩ := SS
  have Z0 : n0 ≤ h0.size := O.1 ▸ O.2.1
  have N0 := Fr.nil n0
  obtain ⟨P1, P2, P3, P4⟩ := own_dpow hn
  obtain ⟨IE, IC, IF, IV⟩ := I
  refine OGo.cast (g' := (mkF m 0 #[.val (.ref a), .val (.int (Int32.ofNat n)), .val (.ref b)] [])) (by first | (simp [entryFrame, mkF, argsToLocals, Value.category]; done) | rfl) ?_
  show OGo p e below _ s₁ (mkF m 0 #[.val (.ref a), .val (.int (Int32.ofNat n)), .val (.ref b)] [])
  refine os (fun _ k => XS.aloadN X0.here hx rfl (hb hby d19_1_0) rfl rfl k) ?_
  show OGo p e below _ s₁ (mkF m 1 #[.val (.ref a), .val (.int (Int32.ofNat n)), .val (.ref b)] [(.ref a)])
  refine os (fun _ k => XS.iloadN X0.here hx rfl (hb hby d19_1_1) rfl k) ?_
  show OGo p e below _ s₁ (mkF m 2 #[.val (.ref a), .val (.int (Int32.ofNat n)), .val (.ref b)] [(.int (Int32.ofNat n)), (.ref a)])
  by_cases q : n = 0
  case pos =>
    refine os (fun _ k => XS.ifNo X0.here hx rfl (hb hby d19_1_2) rfl ((if0 _ _).trans (teq (by rw [q]; rfl)).2) k) ?_
    show OGo p e below _ s₁ (mkF m 5 #[.val (.ref a), .val (.int (Int32.ofNat n)), .val (.ref b)] [(.ref a)])
    refine os (fun _ k => XS.aloadN X0.here hx rfl (hb hby d19_1_5) rfl rfl k) ?_
    show OGo p e below _ s₁ (mkF m 6 #[.val (.ref a), .val (.int (Int32.ofNat n)), .val (.ref b)] [(.ref b), (.ref a)])
    refine os (fun _ k => XS.goto X0.here hx rfl (pc0 := 6) (pc' := 37) rfl (hb hby d19_1_6) (by decide) (by decide) k) ?_
    show OGo p e below _ s₁ (mkF m 37 #[.val (.ref a), .val (.int (Int32.ofNat n)), .val (.ref b)] [(.ref b), (.ref a)])
    obtain ⟨v141, T141, L141, kk141, X141, hS141, hk141, hZ141, hown141, CR141, hQ141, st141⟩ := icallK X0 hx hZ rfl hown (own_hEL hw) hS0 (Nat.zero_le _) H0 hTK hBl (own_g hw 36 rfl) (own_g hw 37 rfl) (own_g hw 39 rfl) (own_g hw 40 rfl) (by decide) (W := 0) (rm_exc l Z a0 hw [] a b zc wf n0 u0 u1 h0 SS' O TS hlt E U0 g_a F0 F1 F2 F3 F4) e0 (by decide) (by decide) (by decide) (by decide) (g := (mkF m 37 #[.val (.ref a), .val (.int (Int32.ofNat n)), .val (.ref b)] [(.ref b), (.ref a)])) rfl (by rw [hml]; rfl) (a := a) (argsL := [(.ref b)]) (rest := []) opd_9 rfl rfl rfl (by show 2 * 0 + _ ≤ _; exact Nat.le_of_eq rfl) (hb hby d19_1_37)
    obtain ⟨rfl, N141, K141, U141, FC141, FM141⟩ := hQ141
    have NN141 := Fr.app N0 N141
    have KK141 : Keep h0 T141.heap [a] := (Keep.refl h0 [a]).trans K141 (allS (Or.inl (List.mem_of_getElem? (i := 0) rfl)) all0)
    have H141 := CR141.1
    have R141 := CHr.trans R0 CR141
    refine os st141 ?_
    show OGo p e below _ T141 (mkF m 40 #[.val (.ref a), .val (.int (Int32.ofNat n)), .val (.ref b)] [])
    obtain ⟨v142, Q142⟩ := fld_laid (O := "com/example/slackline/slackline/instance/InputException") (n := "line") (d := "I") (E.keep K141) (Unt.known U141) (own_g hw 31 rfl) (Or.inr (own_g hw 85 rfl))
    obtain ⟨v143, Q143⟩ := fld_laid (O := "com/example/slackline/slackline/instance/InputException") (n := "reason") (d := "Ljava/lang/String;") (E.keep K141) (Unt.known U141) (own_g hw 31 rfl) (Or.inr (own_g hw 87 rfl))
    refine os (fun _ k => XS.aloadN X141.here hx rfl (hb hby d19_1_40) rfl rfl k) ?_
    show OGo p e below _ T141 (mkF m 41 #[.val (.ref a), .val (.int (Int32.ofNat n)), .val (.ref b)] [(.ref a)])
    refine os (fun _ k => XS.iloadN X141.here hx rfl (hb hby d19_1_41) rfl k) ?_
    show OGo p e below _ T141 (mkF m 42 #[.val (.ref a), .val (.int (Int32.ofNat n)), .val (.ref b)] [(.int (Int32.ofNat n)), (.ref a)])
    obtain ⟨T144, h144, X144, e144, W144, st144⟩ := putF X141 hx hZ141 hown141 (host := "") (Or.inl (own_g hw 84 rfl)) Via.refl rfl Q142 (E.keep K141) (Or.inr ⟨(own_g hw 85 rfl), rfl, hnm⟩) (own_g hw 31 rfl) (ty := .int) (by decide) rfl rfl (g := (mkF m 42 #[.val (.ref a), .val (.int (Int32.ofNat n)), .val (.ref b)] [(.int (Int32.ofNat n)), (.ref a)])) rfl rfl (hb hby d19_1_42)
    have Fw144 := Q142.same W144
    have q145 := (CHr.safe CR141 E.lt (Safe.exa (EL := own_EL) hZ.alike E (by decide) (by decide)))
    have N144 := Fr.snoc X144 NN141 g_a
    have KK144 : Keep h0 h144 [a] := KK141.wr W144 (Or.inl (List.mem_of_getElem? (i := 0) rfl))
    have H144 := CHv.wr W144 q145 H141
    have R144 := CHr.trans R141 (CHr.wr W144 q145 H141)
    refine os st144 ?_
    show OGo p e below _ T144 (mkF m 45 #[.val (.ref a), .val (.int (Int32.ofNat n)), .val (.ref b)] [])
    refine os (fun _ k => XS.aloadN X144.here hx rfl (hb hby d19_1_45) rfl rfl k) ?_
    show OGo p e below _ T144 (mkF m 46 #[.val (.ref a), .val (.int (Int32.ofNat n)), .val (.ref b)] [(.ref a)])
    refine os (fun _ k => XS.aloadN X144.here hx rfl (hb hby d19_1_46) rfl rfl k) ?_
    show OGo p e below _ T144 (mkF m 47 #[.val (.ref a), .val (.int (Int32.ofNat n)), .val (.ref b)] [(.ref b), (.ref a)])
    have q147 := (Q143.other W144 (Or.inr (slot_ne (Or.inr (own_g hw 87 rfl)) (Or.inr (own_g hw 85 rfl)) (by decide) (t := (.object "java/lang/String")) (t' := .int) (by decide) (by decide))))
    obtain ⟨T146, h146, X146, e146, W146, st146⟩ := putF X144 hx hZ141 hown141 (host := "") (Or.inl (own_g hw 86 rfl)) Via.refl e144 q147 ((E.keep K141).wr W144) (Or.inr ⟨(own_g hw 87 rfl), rfl, hnm⟩) (own_g hw 31 rfl) (ty := (.object "java/lang/String")) (by decide) rfl rfl (g := (mkF m 47 #[.val (.ref a), .val (.int (Int32.ofNat n)), .val (.ref b)] [(.ref b), (.ref a)])) rfl rfl (hb hby d19_1_47)
    have Fw146 := q147.same W146
    have N146 := Fr.snoc X146 N144 g_a
    have KK146 : Keep h0 h146 [a] := KK144.wr W146 (Or.inl (List.mem_of_getElem? (i := 0) rfl))
    have H146 := CHv.wr W146 (Safe.wr W144 q145 H141 q145) H144
    have R146 := CHr.trans R144 (CHr.wr W146 (Safe.wr W144 q145 H141 q145) H144)
    refine os st146 ?_
    show OGo p e below _ T146 (mkF m 50 #[.val (.ref a), .val (.int (Int32.ofNat n)), .val (.ref b)] [])
    have q148 := (Fw144.other W146 (Or.inr (slot_ne (Or.inr (own_g hw 85 rfl)) (Or.inr (own_g hw 87 rfl)) (by decide) (t := .int) (t' := (.object "java/lang/String")) (by decide) (by decide))))
    exact OGo.retHV X146 hx hZ141 (own_hEL hw) hs0 e146 hS141 (Nat.le_trans (Nat.le_trans hk141 (Nat.le_of_eq W144.size.symm)) (Nat.le_of_eq W146.size.symm)) H146 R146 hret hlk (hb hby d19_1_50) (by decide) (by decide) (by exact ⟨rfl, N146, KK146, q148, Fw146⟩)
  refine os (fun _ k => XS.ifYes X0.here hx rfl (pc0 := 2) (pc' := 9) rfl (hb hby d19_1_2) rfl ((if0 _ _).trans (feq (fun h => q (own_ofNat0 hn h))).2) (by decide) (by decide) k) ?_
  show OGo p e below _ s₁ (mkF m 9 #[.val (.ref a), .val (.int (Int32.ofNat n)), .val (.ref b)] [(.ref a)])
  obtain ⟨T149, h149, X149, e149, E149, A149, D149, UN149, st149⟩ := newO X0 hx hZ hown (own_g hw 93 rfl) (own_g hw 94 rfl) (own_g hw 95 rfl) e0 (g := (mkF m 9 #[.val (.ref a), .val (.int (Int32.ofNat n)), .val (.ref b)] [(.ref a)])) rfl (hb hby d19_1_9) (by decide) (by decide)
  obtain ⟨b149, g149⟩ : ∃ z, z = h0.size := ⟨_, rfl⟩
  rw [← g149] at A149 D149 UN149 st149
  have sz_b149 : h0.size ≤ b149 := Nat.le_trans (Keep.refl h0 [a]).1 (Nat.le_of_eq g149.symm)
  have KK149 : Keep h0 h149 [a] := (Keep.refl h0 [a]).ext E149
  have H149 := CHv.ext E149 H0
  have R149 := CHr.trans R0 (CHr.ext E149 H0)
  have F149_value : Fld Z h149 b149 "java/lang/AbstractStringBuilder" "value" "[B" .null := D149 (Or.inl (own_g hw 108 rfl)) (ty := (.array .byte)) (by decide)
  have F149_coder : Fld Z h149 b149 "java/lang/AbstractStringBuilder" "coder" "B" (.int (0 : Int32)) := D149 (Or.inl (own_g hw 110 rfl)) (ty := .byte) (by decide)
  have F149_count : Fld Z h149 b149 "java/lang/AbstractStringBuilder" "count" "I" (.int (0 : Int32)) := D149 (Or.inl (own_g hw 132 rfl)) (ty := .int) (by decide)
  refine os st149 ?_
  show OGo p e below _ T149 (mkF m 12 #[.val (.ref a), .val (.int (Int32.ofNat n)), .val (.ref b)] [(.ref b149), (.ref a)])
  refine os (fun _ k => XS.dup X149.here hx rfl (hb hby d19_1_12) rfl rfl k) ?_
  show OGo p e below _ T149 (mkF m 13 #[.val (.ref a), .val (.int (Int32.ofNat n)), .val (.ref b)] [(.ref b149), (.ref b149), (.ref a)])
  have q150 := (Safe.ext E149 H0 (Safe.new (Nat.le_of_eq g149.symm)))
  obtain ⟨v151, T151, L151, X151, hQ151, st151⟩ := icall X149 hx hZ rfl hown (own_g hw 96 rfl) (own_g hw 97 rfl) (own_g hw 95 rfl) (own_g hw 98 rfl) (by decide) (W := 2) (rm_sbInit l Z a0 hw [] b149 zc wf n0 h149 SS' (O.ext E149) A149 F149_value F149_coder F149_count (Nat.le_trans Z0 sz_b149)) e149 (by decide) (by decide) (by decide) (by decide) (g := (mkF m 13 #[.val (.ref a), .val (.int (Int32.ofNat n)), .val (.ref b)] [(.ref b149), (.ref b149), (.ref a)])) rfl (by rw [hml]; rfl) (a := b149) (argsL := []) (rest := [(.ref b149), (.ref a)]) opd_25 rfl rfl rfl (by show 2 * 0 + _ ≤ _; exact Nat.le_of_eq rfl) (hb hby d19_1_13)
  obtain ⟨rfl, N151, K151, d151, k151, sd151, J151⟩ := hQ151
  have NN151 := Fr.app N0 N151
  have KK151 : Keep h0 T151.heap [a] := KK149.trans K151 (allS (Or.inr sz_b149) all0)
  have H151 := CHv.keep K151 (sfS q150 sf0) H149
  have R151 := CHr.trans R149 (CHr.keep K151 (sfS q150 sf0) H149)
  have sz_d151 : h0.size ≤ d151 := Nat.le_trans KK149.1 sd151
  refine os st151 ?_
  show OGo p e below _ T151 (mkF m 16 #[.val (.ref a), .val (.int (Int32.ofNat n)), .val (.ref b)] [(.ref b149), (.ref a)])
  obtain ⟨JE151, JF151, JC151, JN151, JV151, JX151⟩ := J151
  have nb151 : b149 ≠ d151 := JE151.neArv JV151 (own_g hw 94 rfl)
  have hz151 : (16 : Nat) = 16 ∨ (16 : Nat) = 34 := Or.inl rfl
  have hl151 : ([] : List Value).length = 0 := rfl
  have hb151 : ([] : List Value).length ≤ 16 := Nat.zero_le _
  obtain ⟨a152, T152, h152, kk152, d152, kd152, X152, e152, E152, hS152, hk152, hZ152, hown152, A152, C152, F152, V152, lt152, ltd152, CR152, Li152, sf152, st152⟩ := ldcCH X151 hx hZ hown (own_g hw 230 rfl) (own_wS hw) rfl hS0 (Nat.le_trans (Nat.le_trans (Nat.zero_le _) E149.1) K151.1) (own_hEL hw) (List.mem_of_getElem? (i := 0) rfl) H151 (vs := [(.int (108 : Int32)), (.int (105 : Int32)), (.int (110 : Int32)), (.int (101 : Int32)), (.int (32 : Int32))]) (z := (5 : Int32)) (by decide) (by decide) (by decide) (g := (mkF m 16 #[.val (.ref a), .val (.int (Int32.ofNat n)), .val (.ref b)] [(.ref b149), (.ref a)])) rfl (hb hby d19_1_16) (n := 20) (by decide) (by decide) (by decide) (by decide)
  have KK152 : Keep h0 h152 [a] := KK151.ext E152
  have H152 := CR152.1
  have R152 := CHr.trans R151 CR152
  refine os st152 ?_
  show OGo p e below _ T152 (mkF m 18 #[.val (.ref a), .val (.int (Int32.ofNat n)), .val (.ref b)] [(.ref a152), (.ref b149), (.ref a)])
  have LV152 : Arv Z h152 d152 kd152 .byte (Int32.ofNat own_l7.length) own_l7 (.int (0 : Int32)) := V152
  have q153 := (CHr.safe CR152 JV151.lt (Safe.keep K151 (sfS q150 sf0) H149 (Safe.new sd151)))
  have q154 := (((O.ext E149).keep K151 (allS (Nat.le_trans Z0 sz_b149) all0)).ext E152)
  have q155 := (CHr.safe CR152 JF151.lt (Safe.keep K151 (sfS q150 sf0) H149 q150))
  obtain ⟨v156, T156, L156, X156, hQ156, st156⟩ := vcall X152 hx hZ152 hown152 (own_g hw 111 rfl) (own_g hw 112 rfl) (own_g hw 114 rfl) rfl (own_g hw 114 rfl) (own_g hw 113 rfl) (own_g hw 95 rfl) (own_g hw 115 rfl) (by decide) (W := 1) (rm_sbAppG l Z a0 hw [] b149 d151 k151 16 ([] : List Value) a152 d152 kd152 own_l7 zc wf n0 h152 SS' q154 ⟨(JE151.ext E152), (JF151.ext E152), (JC151.ext E152), (JN151.ext E152), (JV151.ext E152), (JX151.ext E152)⟩ (by rcases hz151 with q | q <;> omega) hb151 ⟨A152, C152, F152, LV152⟩ (Nat.le_trans Z0 sz_b149) (Nat.le_trans Z0 sz_d151) (by rw [hl151, own_n7]; omega) (Ne.symm (sf152 _ q153).2) (Ne.symm (sf152 _ q155).1)) e152 (by decide) (by decide) (by decide) (by decide) (g := (mkF m 18 #[.val (.ref a), .val (.int (Int32.ofNat n)), .val (.ref b)] [(.ref a152), (.ref b149), (.ref a)])) rfl (by rw [hml]; rfl) (JE151.ext E152) (argsL := [(.ref a152)]) (rest := [(.ref a)]) opd_26 rfl rfl rfl (by show 2 * 0 + _ ≤ _; exact Nat.le_of_eq rfl) (hb hby d19_1_18)
  obtain ⟨rfl, N156, K156, d156, k156, hd156, J156⟩ := hQ156
  have NN156 := Fr.app NN151 N156
  have KK156 : Keep h0 T156.heap [a] := KK152.trans K156 (allS (Or.inr sz_b149) (allS (Or.inr sz_d151) all0))
  have H156 := CHv.keep K156 (sfS q155 (sfS q153 sf0)) H152
  have R156 := CHr.trans R152 (CHr.keep K156 (sfS q155 (sfS q153 sf0)) H152)
  refine os st156 ?_
  show OGo p e below _ T156 (mkF m 21 #[.val (.ref a), .val (.int (Int32.ofNat n)), .val (.ref b)] [(.ref b149), (.ref a)])
  obtain ⟨W156, hW156⟩ : ∃ z, z = ([] : List Value) ++ own_l7 := ⟨_, rfl⟩
  have lW156 : W156.length = 0 + 5 := by rw [hW156, List.length_append, hl151, own_n7]
  obtain ⟨z156, ez156⟩ : ∃ z, z = own_cap 16 (([] : List Value).length + own_l7.length) := ⟨_, rfl⟩
  have hz156 : z156 = 16 ∨ z156 = 34 := by rw [ez156]; exact own_capin hz151 (by rw [hl151, own_n7]; omega)
  have hb156 : W156.length ≤ z156 := by rw [ez156, hW156, List.length_append]; exact own_cap_ge _ _
  rw [← ez156, ← hW156] at J156
  obtain ⟨JE156, JF156, JC156, JN156, JV156, JX156⟩ := J156
  have sz_d156 : h0.size ≤ d156 := hd156.elim (fun q => q ▸ sz_d151) (fun q => Nat.le_trans KK152.1 q)
  have nb156 : b149 ≠ d156 := JE156.neArv JV156 (own_g hw 94 rfl)
  refine os (fun _ k => XS.iloadN X156.here hx rfl (hb hby d19_1_21) rfl k) ?_
  show OGo p e below _ T156 (mkF m 22 #[.val (.ref a), .val (.int (Int32.ofNat n)), .val (.ref b)] [(.int (Int32.ofNat n)), (.ref b149), (.ref a)])
  have q157 := (Safe.keep K156 (sfS q155 (sfS q153 sf0)) H152 (own_safeAlt q153 hd156))
  have q158 := (q154.keep K156 (allS (Nat.le_trans Z0 sz_b149) (allS (Nat.le_trans Z0 sz_d151) all0)))
  have q159 := (Safe.keep K156 (sfS q155 (sfS q153 sf0)) H152 q155)
  obtain ⟨v160, T160, L160, X160, hQ160, st160⟩ := vcall X156 hx hZ152 hown152 (own_g hw 231 rfl) (own_g hw 232 rfl) (own_g hw 234 rfl) rfl (own_g hw 234 rfl) (own_g hw 233 rfl) (own_g hw 95 rfl) (own_g hw 235 rfl) (by decide) (W := 1) (rm_appI l Z a0 hw [] n b149 d156 k156 z156 W156 zc wf n0 d1 d2 kd1 kd2 T156.heap SS' q158 SI hn ⟨JE156, JF156, JC156, JN156, JV156, JX156⟩ (by rcases hz156 with q | q <;> omega) hb156 (Nat.le_trans Z0 sz_b149) (Nat.le_trans Z0 sz_d156) (by rw [lW156]; omega)) rfl (by decide) (by decide) (by decide) (by decide) (g := (mkF m 22 #[.val (.ref a), .val (.int (Int32.ofNat n)), .val (.ref b)] [(.int (Int32.ofNat n)), (.ref b149), (.ref a)])) rfl (by rw [hml]; rfl) JE156 (argsL := [(.int (Int32.ofNat n))]) (rest := [(.ref a)]) opd_27 rfl rfl rfl (by show 2 * 0 + _ ≤ _; exact Nat.le_of_eq rfl) (hb hby d19_1_22)
  obtain ⟨rfl, N160, K160, d160, k160, hd160, J160⟩ := hQ160
  have NN160 := Fr.app NN156 N160
  have KK160 : Keep h0 T160.heap [a] := KK156.trans K160 (allS (Or.inr sz_b149) (allS (Or.inr sz_d156) all0))
  have H160 := CHv.keep K160 (sfS q159 (sfS q157 sf0)) H156
  have R160 := CHr.trans R156 (CHr.keep K160 (sfS q159 (sfS q157 sf0)) H156)
  refine os st160 ?_
  show OGo p e below _ T160 (mkF m 25 #[.val (.ref a), .val (.int (Int32.ofNat n)), .val (.ref b)] [(.ref b149), (.ref a)])
  obtain ⟨W160, hW160⟩ : ∃ z, z = W156 ++ own_dig (own_w n) n := ⟨_, rfl⟩
  have lW160 : W160.length = 0 + 5 + own_w n := by rw [hW160, List.length_append, lW156, own_diglen]
  obtain ⟨z160, ez160⟩ : ∃ z, z = own_cap z156 (W156.length + own_w n) := ⟨_, rfl⟩
  have hz160 : z160 = 16 ∨ z160 = 34 := by rw [ez160]; exact own_capin hz156 (by rw [lW156]; omega)
  have hb160 : W160.length ≤ z160 := by rw [ez160, hW160, List.length_append, own_diglen]; exact own_cap_ge _ _
  rw [← ez160, ← hW160] at J160
  obtain ⟨JE160, JF160, JC160, JN160, JV160, JX160⟩ := J160
  have sz_d160 : h0.size ≤ d160 := hd160.elim (fun q => q ▸ sz_d156) (fun q => Nat.le_trans KK156.1 q)
  have nb160 : b149 ≠ d160 := JE160.neArv JV160 (own_g hw 94 rfl)
  obtain ⟨a161, T161, h161, kk161, d161, kd161, X161, e161, E161, hS161, hk161, hZ161, hown161, A161, C161, F161, V161, lt161, ltd161, CR161, Li161, sf161, st161⟩ := ldcCH X160 hx hZ152 hown152 (own_g hw 158 rfl) (own_wS hw) rfl hS152 (Nat.le_trans (Nat.le_trans hk152 K156.1) K160.1) (own_hEL hw) (List.mem_of_getElem? (i := 1) rfl) H160 (vs := [(.int (58 : Int32)), (.int (32 : Int32))]) (z := (2 : Int32)) (by decide) (by decide) (by decide) (g := (mkF m 25 #[.val (.ref a), .val (.int (Int32.ofNat n)), .val (.ref b)] [(.ref b149), (.ref a)])) rfl (hb hby d19_1_25) (n := 8) (by decide) (by decide) (by decide) (by decide)
  have KK161 : Keep h0 h161 [a] := KK160.ext E161
  have H161 := CR161.1
  have R161 := CHr.trans R160 CR161
  refine os st161 ?_
  show OGo p e below _ T161 (mkF m 27 #[.val (.ref a), .val (.int (Int32.ofNat n)), .val (.ref b)] [(.ref a161), (.ref b149), (.ref a)])
  have LV161 : Arv Z h161 d161 kd161 .byte (Int32.ofNat own_l16.length) own_l16 (.int (0 : Int32)) := V161
  have q162 := (CHr.safe CR161 JV160.lt (Safe.keep K160 (sfS q159 (sfS q157 sf0)) H156 (own_safeAlt q157 hd160)))
  have q163 := ((q158.keep K160 (allS (Nat.le_trans Z0 sz_b149) (allS (Nat.le_trans Z0 sz_d156) all0))).ext E161)
  have q164 := (CHr.safe CR161 JF160.lt (Safe.keep K160 (sfS q159 (sfS q157 sf0)) H156 q159))
  obtain ⟨v165, T165, L165, X165, hQ165, st165⟩ := vcall X161 hx hZ161 hown161 (own_g hw 111 rfl) (own_g hw 112 rfl) (own_g hw 114 rfl) rfl (own_g hw 114 rfl) (own_g hw 113 rfl) (own_g hw 95 rfl) (own_g hw 115 rfl) (by decide) (W := 1) (rm_sbAppG l Z a0 hw [] b149 d160 k160 z160 W160 a161 d161 kd161 own_l16 zc wf n0 h161 SS' q163 ⟨(JE160.ext E161), (JF160.ext E161), (JC160.ext E161), (JN160.ext E161), (JV160.ext E161), (JX160.ext E161)⟩ (by rcases hz160 with q | q <;> omega) hb160 ⟨A161, C161, F161, LV161⟩ (Nat.le_trans Z0 sz_b149) (Nat.le_trans Z0 sz_d160) (by rw [lW160, own_n16]; omega) (Ne.symm (sf161 _ q162).2) (Ne.symm (sf161 _ q164).1)) e161 (by decide) (by decide) (by decide) (by decide) (g := (mkF m 27 #[.val (.ref a), .val (.int (Int32.ofNat n)), .val (.ref b)] [(.ref a161), (.ref b149), (.ref a)])) rfl (by rw [hml]; rfl) (JE160.ext E161) (argsL := [(.ref a161)]) (rest := [(.ref a)]) opd_26 rfl rfl rfl (by show 2 * 0 + _ ≤ _; exact Nat.le_of_eq rfl) (hb hby d19_1_27)
  obtain ⟨rfl, N165, K165, d165, k165, hd165, J165⟩ := hQ165
  have NN165 := Fr.app NN160 N165
  have KK165 : Keep h0 T165.heap [a] := KK161.trans K165 (allS (Or.inr sz_b149) (allS (Or.inr sz_d160) all0))
  have H165 := CHv.keep K165 (sfS q164 (sfS q162 sf0)) H161
  have R165 := CHr.trans R161 (CHr.keep K165 (sfS q164 (sfS q162 sf0)) H161)
  refine os st165 ?_
  show OGo p e below _ T165 (mkF m 30 #[.val (.ref a), .val (.int (Int32.ofNat n)), .val (.ref b)] [(.ref b149), (.ref a)])
  obtain ⟨W165, hW165⟩ : ∃ z, z = W160 ++ own_l16 := ⟨_, rfl⟩
  have lW165 : W165.length = 0 + 5 + own_w n + 2 := by rw [hW165, List.length_append, lW160, own_n16]
  obtain ⟨z165, ez165⟩ : ∃ z, z = own_cap z160 (W160.length + own_l16.length) := ⟨_, rfl⟩
  have hz165 : z165 = 16 ∨ z165 = 34 := by rw [ez165]; exact own_capin hz160 (by rw [lW160, own_n16]; omega)
  have hb165 : W165.length ≤ z165 := by rw [ez165, hW165, List.length_append]; exact own_cap_ge _ _
  rw [← ez165, ← hW165] at J165
  obtain ⟨JE165, JF165, JC165, JN165, JV165, JX165⟩ := J165
  have sz_d165 : h0.size ≤ d165 := hd165.elim (fun q => q ▸ sz_d160) (fun q => Nat.le_trans KK161.1 q)
  have nb165 : b149 ≠ d165 := JE165.neArv JV165 (own_g hw 94 rfl)
  refine os (fun _ k => XS.aloadN X165.here hx rfl (hb hby d19_1_30) rfl rfl k) ?_
  show OGo p e below _ T165 (mkF m 31 #[.val (.ref a), .val (.int (Int32.ofNat n)), .val (.ref b)] [(.ref b), (.ref b149), (.ref a)])
  have q166 := (Safe.keep K165 (sfS q164 (sfS q162 sf0)) H161 (own_safeAlt q162 hd165))
  have q167 := (q163.keep K165 (allS (Nat.le_trans Z0 sz_b149) (allS (Nat.le_trans Z0 sz_d160) all0)))
  have q168 := (((((((IE.ext E149).keep K151).ext E152).keep K156).keep K160).ext E161).keep K165)
  have q169 := (((((((IC.ext E149).keep K151 (ninS (Nat.ne_of_lt (Nat.lt_of_lt_of_le IE.lt sz_b149)) nin0)).ext E152).keep K156 (ninS (Nat.ne_of_lt (Nat.lt_of_lt_of_le IE.lt sz_b149)) (ninS (Nat.ne_of_lt (Nat.lt_of_lt_of_le IE.lt sz_d151)) nin0))).keep K160 (ninS (Nat.ne_of_lt (Nat.lt_of_lt_of_le IE.lt sz_b149)) (ninS (Nat.ne_of_lt (Nat.lt_of_lt_of_le IE.lt sz_d156)) nin0))).ext E161).keep K165 (ninS (Nat.ne_of_lt (Nat.lt_of_lt_of_le IE.lt sz_b149)) (ninS (Nat.ne_of_lt (Nat.lt_of_lt_of_le IE.lt sz_d160)) nin0)))
  have q170 := (((((((IF.ext E149).keep K151 (ninS (Nat.ne_of_lt (Nat.lt_of_lt_of_le IE.lt sz_b149)) nin0)).ext E152).keep K156 (ninS (Nat.ne_of_lt (Nat.lt_of_lt_of_le IE.lt sz_b149)) (ninS (Nat.ne_of_lt (Nat.lt_of_lt_of_le IE.lt sz_d151)) nin0))).keep K160 (ninS (Nat.ne_of_lt (Nat.lt_of_lt_of_le IE.lt sz_b149)) (ninS (Nat.ne_of_lt (Nat.lt_of_lt_of_le IE.lt sz_d156)) nin0))).ext E161).keep K165 (ninS (Nat.ne_of_lt (Nat.lt_of_lt_of_le IE.lt sz_b149)) (ninS (Nat.ne_of_lt (Nat.lt_of_lt_of_le IE.lt sz_d160)) nin0)))
  have q171 := (((((((IV.ext E149).keep K151 (ninS (Nat.ne_of_lt (Nat.lt_of_lt_of_le IV.lt sz_b149)) nin0)).ext E152).keep K156 (ninS (Nat.ne_of_lt (Nat.lt_of_lt_of_le IV.lt sz_b149)) (ninS (Nat.ne_of_lt (Nat.lt_of_lt_of_le IV.lt sz_d151)) nin0))).keep K160 (ninS (Nat.ne_of_lt (Nat.lt_of_lt_of_le IV.lt sz_b149)) (ninS (Nat.ne_of_lt (Nat.lt_of_lt_of_le IV.lt sz_d156)) nin0))).ext E161).keep K165 (ninS (Nat.ne_of_lt (Nat.lt_of_lt_of_le IV.lt sz_b149)) (ninS (Nat.ne_of_lt (Nat.lt_of_lt_of_le IV.lt sz_d160)) nin0)))
  have q172 := (Safe.keep K165 (sfS q164 (sfS q162 sf0)) H161 q164)
  obtain ⟨v173, T173, L173, X173, hQ173, st173⟩ := vcall X165 hx hZ161 hown161 (own_g hw 111 rfl) (own_g hw 112 rfl) (own_g hw 114 rfl) rfl (own_g hw 114 rfl) (own_g hw 113 rfl) (own_g hw 95 rfl) (own_g hw 115 rfl) (by decide) (W := 1) (rm_sbAppG l Z a0 hw [] b149 d165 k165 z165 W165 b e2 k2 vs zc wf n0 T165.heap SS' q167 ⟨JE165, JF165, JC165, JN165, JV165, JX165⟩ (by rcases hz165 with q | q <;> omega) hb165 ⟨q168, q169, q170, q171⟩ (Nat.le_trans Z0 sz_b149) (Nat.le_trans Z0 sz_d165) (by rw [lW165, hvs]; omega) (Nat.ne_of_lt (Nat.lt_of_lt_of_le IV.lt sz_d165)) (Nat.ne_of_lt (Nat.lt_of_lt_of_le IE.lt sz_b149))) rfl (by decide) (by decide) (by decide) (by decide) (g := (mkF m 31 #[.val (.ref a), .val (.int (Int32.ofNat n)), .val (.ref b)] [(.ref b), (.ref b149), (.ref a)])) rfl (by rw [hml]; rfl) JE165 (argsL := [(.ref b)]) (rest := [(.ref a)]) opd_26 rfl rfl rfl (by show 2 * 0 + _ ≤ _; exact Nat.le_of_eq rfl) (hb hby d19_1_31)
  obtain ⟨rfl, N173, K173, d173, k173, hd173, J173⟩ := hQ173
  have NN173 := Fr.app NN165 N173
  have KK173 : Keep h0 T173.heap [a] := KK165.trans K173 (allS (Or.inr sz_b149) (allS (Or.inr sz_d165) all0))
  have H173 := CHv.keep K173 (sfS q172 (sfS q166 sf0)) H165
  have R173 := CHr.trans R165 (CHr.keep K173 (sfS q172 (sfS q166 sf0)) H165)
  refine os st173 ?_
  show OGo p e below _ T173 (mkF m 34 #[.val (.ref a), .val (.int (Int32.ofNat n)), .val (.ref b)] [(.ref b149), (.ref a)])
  obtain ⟨W173, hW173⟩ : ∃ z, z = W165 ++ vs := ⟨_, rfl⟩
  have lW173 : W173.length = 0 + 5 + own_w n + 2 + 2 := by rw [hW173, List.length_append, lW165, hvs]
  obtain ⟨z173, ez173⟩ : ∃ z, z = own_cap z165 (W165.length + vs.length) := ⟨_, rfl⟩
  have hz173 : z173 = 16 ∨ z173 = 34 := by rw [ez173]; exact own_capin hz165 (by rw [lW165, hvs]; omega)
  have hb173 : W173.length ≤ z173 := by rw [ez173, hW173, List.length_append]; exact own_cap_ge _ _
  rw [← ez173, ← hW173] at J173
  obtain ⟨JE173, JF173, JC173, JN173, JV173, JX173⟩ := J173
  have sz_d173 : h0.size ≤ d173 := hd173.elim (fun q => q ▸ sz_d165) (fun q => Nat.le_trans KK165.1 q)
  have nb173 : b149 ≠ d173 := JE173.neArv JV173 (own_g hw 94 rfl)
  have q174 := (q167.keep K173 (allS (Nat.le_trans Z0 sz_b149) (allS (Nat.le_trans Z0 sz_d165) all0)))
  obtain ⟨v175, T175, L175, X175, hQ175, st175⟩ := vcall X173 hx hZ161 hown161 (own_g hw 161 rfl) (own_g hw 162 rfl) (own_g hw 164 rfl) rfl (own_g hw 164 rfl) (own_g hw 163 rfl) (own_g hw 95 rfl) (own_g hw 165 rfl) (by decide) (W := 1) (rm_toS l Z a0 hw [] b149 d173 k173 z173 W173 zc wf n0 T173.heap SS' q174 ⟨JE173, JF173, JC173, JN173, JV173, JX173⟩ (by rcases hz173 with q | q <;> omega) hb173 (by rw [lW173]; omega)) rfl (by decide) (by decide) (by decide) (by decide) (g := (mkF m 34 #[.val (.ref a), .val (.int (Int32.ofNat n)), .val (.ref b)] [(.ref b149), (.ref a)])) rfl (by rw [hml]; rfl) JE173 (argsL := []) (rest := [(.ref a)]) opd_28 rfl rfl rfl (by show 2 * 0 + _ ≤ _; exact Nat.le_of_eq rfl) (hb hby d19_1_34)
  obtain ⟨a175, r175, kr175, rfl, sa175, sr175, N175, K175, I175⟩ := hQ175
  have NN175 := Fr.app NN173 N175
  have KK175 : Keep h0 T175.heap [a] := KK173.trans K175 all0
  have H175 := CHv.keep K175 sf0 H173
  have R175 := CHr.trans R173 (CHr.keep K175 sf0 H173)
  have sz_a175 : h0.size ≤ a175 := Nat.le_trans KK173.1 sa175
  have sz_r175 : h0.size ≤ r175 := Nat.le_trans KK173.1 sr175
  refine os st175 ?_
  show OGo p e below _ T175 (mkF m 37 #[.val (.ref a), .val (.int (Int32.ofNat n)), .val (.ref b)] [(.ref a175), (.ref a)])
  obtain ⟨IE175, IC175, IF175, IV175⟩ := I175
  have q176 := (((((((((E.ext E149).keep K151).ext E152).keep K156).keep K160).ext E161).keep K165).keep K173).keep K175)
  have q177 := (Unt.keep K175 nin0 (Unt.keep K173 (ninS (Nat.ne_of_lt (Nat.lt_of_lt_of_le E.lt sz_b149)) (ninS (Nat.ne_of_lt (Nat.lt_of_lt_of_le E.lt sz_d165)) nin0)) (Unt.keep K165 (ninS (Nat.ne_of_lt (Nat.lt_of_lt_of_le E.lt sz_b149)) (ninS (Nat.ne_of_lt (Nat.lt_of_lt_of_le E.lt sz_d160)) nin0)) (Unt.ext E161 (Unt.keep K160 (ninS (Nat.ne_of_lt (Nat.lt_of_lt_of_le E.lt sz_b149)) (ninS (Nat.ne_of_lt (Nat.lt_of_lt_of_le E.lt sz_d156)) nin0)) (Unt.keep K156 (ninS (Nat.ne_of_lt (Nat.lt_of_lt_of_le E.lt sz_b149)) (ninS (Nat.ne_of_lt (Nat.lt_of_lt_of_le E.lt sz_d151)) nin0)) (Unt.ext E152 (Unt.keep K151 (ninS (Nat.ne_of_lt (Nat.lt_of_lt_of_le E.lt sz_b149)) nin0) (Unt.ext E149 U0)))))))))
  have q178 := (((((((((F0.ext E149).keep K151 (ninS (Nat.ne_of_lt (Nat.lt_of_lt_of_le E.lt sz_b149)) nin0)).ext E152).keep K156 (ninS (Nat.ne_of_lt (Nat.lt_of_lt_of_le E.lt sz_b149)) (ninS (Nat.ne_of_lt (Nat.lt_of_lt_of_le E.lt sz_d151)) nin0))).keep K160 (ninS (Nat.ne_of_lt (Nat.lt_of_lt_of_le E.lt sz_b149)) (ninS (Nat.ne_of_lt (Nat.lt_of_lt_of_le E.lt sz_d156)) nin0))).ext E161).keep K165 (ninS (Nat.ne_of_lt (Nat.lt_of_lt_of_le E.lt sz_b149)) (ninS (Nat.ne_of_lt (Nat.lt_of_lt_of_le E.lt sz_d160)) nin0))).keep K173 (ninS (Nat.ne_of_lt (Nat.lt_of_lt_of_le E.lt sz_b149)) (ninS (Nat.ne_of_lt (Nat.lt_of_lt_of_le E.lt sz_d165)) nin0))).keep K175 nin0)
  have q179 := (((((((((F1.ext E149).keep K151 (ninS (Nat.ne_of_lt (Nat.lt_of_lt_of_le E.lt sz_b149)) nin0)).ext E152).keep K156 (ninS (Nat.ne_of_lt (Nat.lt_of_lt_of_le E.lt sz_b149)) (ninS (Nat.ne_of_lt (Nat.lt_of_lt_of_le E.lt sz_d151)) nin0))).keep K160 (ninS (Nat.ne_of_lt (Nat.lt_of_lt_of_le E.lt sz_b149)) (ninS (Nat.ne_of_lt (Nat.lt_of_lt_of_le E.lt sz_d156)) nin0))).ext E161).keep K165 (ninS (Nat.ne_of_lt (Nat.lt_of_lt_of_le E.lt sz_b149)) (ninS (Nat.ne_of_lt (Nat.lt_of_lt_of_le E.lt sz_d160)) nin0))).keep K173 (ninS (Nat.ne_of_lt (Nat.lt_of_lt_of_le E.lt sz_b149)) (ninS (Nat.ne_of_lt (Nat.lt_of_lt_of_le E.lt sz_d165)) nin0))).keep K175 nin0)
  have q180 := (((((((((F2.ext E149).keep K151 (ninS (Nat.ne_of_lt (Nat.lt_of_lt_of_le E.lt sz_b149)) nin0)).ext E152).keep K156 (ninS (Nat.ne_of_lt (Nat.lt_of_lt_of_le E.lt sz_b149)) (ninS (Nat.ne_of_lt (Nat.lt_of_lt_of_le E.lt sz_d151)) nin0))).keep K160 (ninS (Nat.ne_of_lt (Nat.lt_of_lt_of_le E.lt sz_b149)) (ninS (Nat.ne_of_lt (Nat.lt_of_lt_of_le E.lt sz_d156)) nin0))).ext E161).keep K165 (ninS (Nat.ne_of_lt (Nat.lt_of_lt_of_le E.lt sz_b149)) (ninS (Nat.ne_of_lt (Nat.lt_of_lt_of_le E.lt sz_d160)) nin0))).keep K173 (ninS (Nat.ne_of_lt (Nat.lt_of_lt_of_le E.lt sz_b149)) (ninS (Nat.ne_of_lt (Nat.lt_of_lt_of_le E.lt sz_d165)) nin0))).keep K175 nin0)
  have q181 := (((((((((F3.ext E149).keep K151 (ninS (Nat.ne_of_lt (Nat.lt_of_lt_of_le E.lt sz_b149)) nin0)).ext E152).keep K156 (ninS (Nat.ne_of_lt (Nat.lt_of_lt_of_le E.lt sz_b149)) (ninS (Nat.ne_of_lt (Nat.lt_of_lt_of_le E.lt sz_d151)) nin0))).keep K160 (ninS (Nat.ne_of_lt (Nat.lt_of_lt_of_le E.lt sz_b149)) (ninS (Nat.ne_of_lt (Nat.lt_of_lt_of_le E.lt sz_d156)) nin0))).ext E161).keep K165 (ninS (Nat.ne_of_lt (Nat.lt_of_lt_of_le E.lt sz_b149)) (ninS (Nat.ne_of_lt (Nat.lt_of_lt_of_le E.lt sz_d160)) nin0))).keep K173 (ninS (Nat.ne_of_lt (Nat.lt_of_lt_of_le E.lt sz_b149)) (ninS (Nat.ne_of_lt (Nat.lt_of_lt_of_le E.lt sz_d165)) nin0))).keep K175 nin0)
  have q182 := (((((((((F4.ext E149).keep K151 (ninS (Nat.ne_of_lt (Nat.lt_of_lt_of_le E.lt sz_b149)) nin0)).ext E152).keep K156 (ninS (Nat.ne_of_lt (Nat.lt_of_lt_of_le E.lt sz_b149)) (ninS (Nat.ne_of_lt (Nat.lt_of_lt_of_le E.lt sz_d151)) nin0))).keep K160 (ninS (Nat.ne_of_lt (Nat.lt_of_lt_of_le E.lt sz_b149)) (ninS (Nat.ne_of_lt (Nat.lt_of_lt_of_le E.lt sz_d156)) nin0))).ext E161).keep K165 (ninS (Nat.ne_of_lt (Nat.lt_of_lt_of_le E.lt sz_b149)) (ninS (Nat.ne_of_lt (Nat.lt_of_lt_of_le E.lt sz_d160)) nin0))).keep K173 (ninS (Nat.ne_of_lt (Nat.lt_of_lt_of_le E.lt sz_b149)) (ninS (Nat.ne_of_lt (Nat.lt_of_lt_of_le E.lt sz_d165)) nin0))).keep K175 nin0)
  obtain ⟨v183, T183, L183, kk183, X183, hS183, hk183, hZ183, hown183, CR183, hQ183, st183⟩ := icallK X175 hx hZ161 rfl hown161 (own_hEL hw) hS161 (Nat.le_trans (Nat.le_trans (Nat.le_trans hk161 K165.1) K173.1) K175.1) H175 hTK hBl (own_g hw 36 rfl) (own_g hw 37 rfl) (own_g hw 39 rfl) (own_g hw 40 rfl) (by decide) (W := 0) (rm_exc l Z a0 hw [] a a175 zc wf n0 u0 u1 T175.heap SS' (q174.keep K175 all0) TS hlt q176 q177 g_a q178 q179 q180 q181 q182) rfl (by decide) (by decide) (by decide) (by decide) (g := (mkF m 37 #[.val (.ref a), .val (.int (Int32.ofNat n)), .val (.ref b)] [(.ref a175), (.ref a)])) rfl (by rw [hml]; rfl) (a := a) (argsL := [(.ref a175)]) (rest := []) opd_9 rfl rfl rfl (by show 2 * 0 + _ ≤ _; exact Nat.le_of_eq rfl) (hb hby d19_1_37)
  obtain ⟨rfl, N183, K183, U183, FC183, FM183⟩ := hQ183
  have NN183 := Fr.app NN175 N183
  have KK183 : Keep h0 T183.heap [a] := KK175.trans K183 (allS (Or.inl (List.mem_of_getElem? (i := 0) rfl)) all0)
  have H183 := CR183.1
  have R183 := CHr.trans R175 CR183
  refine os st183 ?_
  show OGo p e below _ T183 (mkF m 40 #[.val (.ref a), .val (.int (Int32.ofNat n)), .val (.ref b)] [])
  obtain ⟨v184, Q184⟩ := fld_laid (O := "com/example/slackline/slackline/instance/InputException") (n := "line") (d := "I") (q176.keep K183) (Unt.known U183) (own_g hw 31 rfl) (Or.inr (own_g hw 85 rfl))
  obtain ⟨v185, Q185⟩ := fld_laid (O := "com/example/slackline/slackline/instance/InputException") (n := "reason") (d := "Ljava/lang/String;") (q176.keep K183) (Unt.known U183) (own_g hw 31 rfl) (Or.inr (own_g hw 87 rfl))
  refine os (fun _ k => XS.aloadN X183.here hx rfl (hb hby d19_1_40) rfl rfl k) ?_
  show OGo p e below _ T183 (mkF m 41 #[.val (.ref a), .val (.int (Int32.ofNat n)), .val (.ref b)] [(.ref a)])
  refine os (fun _ k => XS.iloadN X183.here hx rfl (hb hby d19_1_41) rfl k) ?_
  show OGo p e below _ T183 (mkF m 42 #[.val (.ref a), .val (.int (Int32.ofNat n)), .val (.ref b)] [(.int (Int32.ofNat n)), (.ref a)])
  obtain ⟨T186, h186, X186, e186, W186, st186⟩ := putF X183 hx hZ183 hown183 (host := "") (Or.inl (own_g hw 84 rfl)) Via.refl rfl Q184 (q176.keep K183) (Or.inr ⟨(own_g hw 85 rfl), rfl, hnm⟩) (own_g hw 31 rfl) (ty := .int) (by decide) rfl rfl (g := (mkF m 42 #[.val (.ref a), .val (.int (Int32.ofNat n)), .val (.ref b)] [(.int (Int32.ofNat n)), (.ref a)])) rfl rfl (hb hby d19_1_42)
  have Fw186 := Q184.same W186
  have q187 := (CHr.safe CR183 q176.lt (Safe.keep K175 sf0 H173 (Safe.keep K173 (sfS q172 (sfS q166 sf0)) H165 (Safe.keep K165 (sfS q164 (sfS q162 sf0)) H161 (CHr.safe CR161 (((((E.ext E149).keep K151).ext E152).keep K156).keep K160).lt (Safe.keep K160 (sfS q159 (sfS q157 sf0)) H156 (Safe.keep K156 (sfS q155 (sfS q153 sf0)) H152 (CHr.safe CR152 ((E.ext E149).keep K151).lt (Safe.keep K151 (sfS q150 sf0) H149 (Safe.ext E149 H0 (Safe.exa (EL := own_EL) hZ.alike E (by decide) (by decide))))))))))))
  have N186 := Fr.snoc X186 NN183 g_a
  have KK186 : Keep h0 h186 [a] := KK183.wr W186 (Or.inl (List.mem_of_getElem? (i := 0) rfl))
  have H186 := CHv.wr W186 q187 H183
  have R186 := CHr.trans R183 (CHr.wr W186 q187 H183)
  refine os st186 ?_
  show OGo p e below _ T186 (mkF m 45 #[.val (.ref a), .val (.int (Int32.ofNat n)), .val (.ref b)] [])
  refine os (fun _ k => XS.aloadN X186.here hx rfl (hb hby d19_1_45) rfl rfl k) ?_
  show OGo p e below _ T186 (mkF m 46 #[.val (.ref a), .val (.int (Int32.ofNat n)), .val (.ref b)] [(.ref a)])
  refine os (fun _ k => XS.aloadN X186.here hx rfl (hb hby d19_1_46) rfl rfl k) ?_
  show OGo p e below _ T186 (mkF m 47 #[.val (.ref a), .val (.int (Int32.ofNat n)), .val (.ref b)] [(.ref b), (.ref a)])
  have q189 := (Q185.other W186 (Or.inr (slot_ne (Or.inr (own_g hw 87 rfl)) (Or.inr (own_g hw 85 rfl)) (by decide) (t := (.object "java/lang/String")) (t' := .int) (by decide) (by decide))))
  obtain ⟨T188, h188, X188, e188, W188, st188⟩ := putF X186 hx hZ183 hown183 (host := "") (Or.inl (own_g hw 86 rfl)) Via.refl e186 q189 ((q176.keep K183).wr W186) (Or.inr ⟨(own_g hw 87 rfl), rfl, hnm⟩) (own_g hw 31 rfl) (ty := (.object "java/lang/String")) (by decide) rfl rfl (g := (mkF m 47 #[.val (.ref a), .val (.int (Int32.ofNat n)), .val (.ref b)] [(.ref b), (.ref a)])) rfl rfl (hb hby d19_1_47)
  have Fw188 := q189.same W188
  have N188 := Fr.snoc X188 N186 g_a
  have KK188 : Keep h0 h188 [a] := KK186.wr W188 (Or.inl (List.mem_of_getElem? (i := 0) rfl))
  have H188 := CHv.wr W188 (Safe.wr W186 q187 H183 q187) H186
  have R188 := CHr.trans R186 (CHr.wr W188 (Safe.wr W186 q187 H183 q187) H186)
  refine os st188 ?_
  show OGo p e below _ T188 (mkF m 50 #[.val (.ref a), .val (.int (Int32.ofNat n)), .val (.ref b)] [])
  have q190 := (Fw186.other W188 (Or.inr (slot_ne (Or.inr (own_g hw 85 rfl)) (Or.inr (own_g hw 87 rfl)) (by decide) (t := .int) (t' := (.object "java/lang/String")) (by decide) (by decide))))
  exact OGo.retHV X188 hx hZ183 (own_hEL hw) hs0 e188 hS183 (Nat.le_trans (Nat.le_trans hk183 (Nat.le_of_eq W186.size.symm)) (Nat.le_of_eq W188.size.symm)) H188 R188 hret hlk (hb hby d19_1_50) (by decide) (by decide) (by exact ⟨rfl, N188, KK188, q190, Fw188⟩)
def own_us (n : Nat) (us vs : List Value) : List Value := if n = 0 then us ++ own_l16 ++ vs else us ++ own_l37 ++ own_dig (own_w n) n ++ own_l16 ++ vs
theorem d19_2_0 : decode prog_19_method_2_code 0 = .ok (.aload_n 0, 1) := by decide +kernel
theorem d19_2_1 : decode prog_19_method_2_code 1 = .ok (.getfield 27, 3) := by decide +kernel
theorem d19_2_4 : decode prog_19_method_2_code 4 = .ok (.ifCond .ne 32, 3) := by decide +kernel
theorem d19_2_7 : decode prog_19_method_2_code 7 = .ok (.new 1, 3) := by decide +kernel
theorem d19_2_10 : decode prog_19_method_2_code 10 = .ok (.dup, 1) := by decide +kernel
theorem d19_2_11 : decode prog_19_method_2_code 11 = .ok (.invokespecial 3, 3) := by decide +kernel
theorem d19_2_14 : decode prog_19_method_2_code 14 = .ok (.aload_n 1, 1) := by decide +kernel
theorem d19_2_15 : decode prog_19_method_2_code 15 = .ok (.invokevirtual 9, 3) := by decide +kernel
theorem d19_2_18 : decode prog_19_method_2_code 18 = .ok (.ldc 16, 2) := by decide +kernel
theorem d19_2_20 : decode prog_19_method_2_code 20 = .ok (.invokevirtual 9, 3) := by decide +kernel
theorem d19_2_23 : decode prog_19_method_2_code 23 = .ok (.aload_n 0, 1) := by decide +kernel
theorem d19_2_24 : decode prog_19_method_2_code 24 = .ok (.getfield 33, 3) := by decide +kernel
theorem d19_2_27 : decode prog_19_method_2_code 27 = .ok (.invokevirtual 9, 3) := by decide +kernel
theorem d19_2_30 : decode prog_19_method_2_code 30 = .ok (.invokevirtual 18, 3) := by decide +kernel
theorem d19_2_33 : decode prog_19_method_2_code 33 = .ok (.goto 41, 3) := by decide +kernel
theorem d19_2_74 : decode prog_19_method_2_code 74 = .ok (.areturn, 1) := by decide +kernel
theorem d19_2_36 : decode prog_19_method_2_code 36 = .ok (.new 1, 3) := by decide +kernel
theorem d19_2_39 : decode prog_19_method_2_code 39 = .ok (.dup, 1) := by decide +kernel
theorem d19_2_40 : decode prog_19_method_2_code 40 = .ok (.invokespecial 3, 3) := by decide +kernel
theorem d19_2_43 : decode prog_19_method_2_code 43 = .ok (.aload_n 1, 1) := by decide +kernel
theorem d19_2_44 : decode prog_19_method_2_code 44 = .ok (.invokevirtual 9, 3) := by decide +kernel
theorem d19_2_47 : decode prog_19_method_2_code 47 = .ok (.ldc 37, 2) := by decide +kernel
theorem d19_2_49 : decode prog_19_method_2_code 49 = .ok (.invokevirtual 9, 3) := by decide +kernel
theorem d19_2_52 : decode prog_19_method_2_code 52 = .ok (.aload_n 0, 1) := by decide +kernel
theorem d19_2_53 : decode prog_19_method_2_code 53 = .ok (.getfield 27, 3) := by decide +kernel
theorem d19_2_56 : decode prog_19_method_2_code 56 = .ok (.invokevirtual 13, 3) := by decide +kernel
theorem d19_2_59 : decode prog_19_method_2_code 59 = .ok (.ldc 16, 2) := by decide +kernel
theorem d19_2_61 : decode prog_19_method_2_code 61 = .ok (.invokevirtual 9, 3) := by decide +kernel
theorem d19_2_64 : decode prog_19_method_2_code 64 = .ok (.aload_n 0, 1) := by decide +kernel
theorem d19_2_65 : decode prog_19_method_2_code 65 = .ok (.getfield 33, 3) := by decide +kernel
theorem d19_2_68 : decode prog_19_method_2_code 68 = .ok (.invokevirtual 9, 3) := by decide +kernel
theorem d19_2_71 : decode prog_19_method_2_code 71 = .ok (.invokevirtual 18, 3) := by decide +kernel
theorem opl_rm_desc : plainFor (⟨"com/example/slackline/slackline/instance/InputException", "describe", "(Ljava/lang/String;)Ljava/lang/String;"⟩ : MethodName) = true := plainFor_of_name (by first | (simp [plainName, overriddenIn]; done) | decide +kernel)
set_option maxRecDepth 65536 in
set_option maxHeartbeats 40000000 in
theorem rm_desc (l : Launch) (Z : State) (a0 : Array Value) (hw : ∀ d ∈ tables_1, d.before a0 Z = true) (ws : List Jvm.Cond) (o a1 e1 a2 e2 : Addr) (k1 k2 : ClassId) (us vs : List Value) (n : Nat) (zc : Int32) (wf : Value) (n0 : Nat) (d1 d2 : Addr) (kd1 kd2 : ClassId) (h0 : Heap) (SS : own_SS Z zc wf) (O : Old Z n0 h0) (SI : own_SI Z d1 d2 kd1 kd2) (hn : n < 2147483648) (I : STI Z h0 a1 e1 k1 us) (J : STI Z h0 a2 e2 k2 vs) (FL : Fld Z h0 o "com/example/slackline/slackline/instance/InputException" "line" "I" (.int (Int32.ofNat n))) (FR : Fld Z h0 o "com/example/slackline/slackline/instance/InputException" "reason" "Ljava/lang/String;" (.ref a2)) (hus : us.length = 2) (hvs : vs.length = 2) :
    ConH l Z own_EL (⟨"com/example/slackline/slackline/instance/InputException", "describe", "(Ljava/lang/String;)Ljava/lang/String;"⟩ : MethodName) prog_19_method_2_code 2 (some (.object "java/lang/String")) ws ({ frames := 6, cells := 13, slots := 450, locals := 102 } : Room) #[(.ref o), (.ref a1)] h0 (fun v h L => ∃ m r k', v = some (.ref m) ∧ h0.size ≤ m ∧ Fr n0 L ∧ Keep h0 h [] ∧ STI Z h m r k' (own_us n us vs)) := by
  refine ConH.intro opl_rm_desc ?_
  intro p e s m below meth c s₁ hx hby hml hown hret hlk hZ hnm X0 e0 hs0 hS0 H0 R0
  have SS' := SS
  obtain ⟨hzc, SC, hwf, SF⟩ := SS
  have Z0 : n0 ≤ h0.size := O.1 ▸ O.2.1
  have N0 := Fr.nil n0
  obtain ⟨P1, P2, P3, P4⟩ := own_dpow hn
  obtain ⟨IE, IC, IF, IV⟩ := I
  obtain ⟨JE, JC, JF, JV⟩ := J
  refine OGo.cast (g' := (mkF m 0 #[.val (.ref o), .val (.ref a1)] [])) (by first | (simp [entryFrame, mkF, argsToLocals, Value.category]; done) | rfl) ?_
  show OGo p e below _ s₁ (mkF m 0 #[.val (.ref o), .val (.ref a1)] [])
  refine os (fun _ k => XS.aloadN X0.here hx rfl (hb hby d19_2_0) rfl rfl k) ?_
  show OGo p e below _ s₁ (mkF m 1 #[.val (.ref o), .val (.ref a1)] [(.ref o)])
  obtain ⟨T191, X191, e191, st191⟩ := getF X0 hx hZ hown (host := "") (Or.inl (own_g hw 84 rfl)) Via.refl e0 FL (g := (mkF m 1 #[.val (.ref o), .val (.ref a1)] [(.ref o)])) rfl rfl (hb hby d19_2_1)
  refine os st191 ?_
  show OGo p e below _ T191 (mkF m 4 #[.val (.ref o), .val (.ref a1)] [(.int (Int32.ofNat n))])
  by_cases q : n = 0
  case pos =>
    refine os (fun _ k => XS.ifNo X191.here hx rfl (hb hby d19_2_4) rfl ((if0 _ _).trans (teq (by rw [q]; rfl)).2) k) ?_
    show OGo p e below _ T191 (mkF m 7 #[.val (.ref o), .val (.ref a1)] [])
    obtain ⟨T192, h192, X192, e192, E192, A192, D192, UN192, st192⟩ := newO X191 hx hZ hown (own_g hw 93 rfl) (own_g hw 94 rfl) (own_g hw 95 rfl) e191 (g := (mkF m 7 #[.val (.ref o), .val (.ref a1)] [])) rfl (hb hby d19_2_7) (by decide) (by decide)
    obtain ⟨b192, g192⟩ : ∃ z, z = h0.size := ⟨_, rfl⟩
    rw [← g192] at A192 D192 UN192 st192
    have sz_b192 : h0.size ≤ b192 := Nat.le_trans (Keep.refl h0 []).1 (Nat.le_of_eq g192.symm)
    have KK192 : Keep h0 h192 [] := (Keep.refl h0 []).ext E192
    have H192 := CHv.ext E192 H0
    have R192 := CHr.trans R0 (CHr.ext E192 H0)
    have F192_value : Fld Z h192 b192 "java/lang/AbstractStringBuilder" "value" "[B" .null := D192 (Or.inl (own_g hw 108 rfl)) (ty := (.array .byte)) (by decide)
    have F192_coder : Fld Z h192 b192 "java/lang/AbstractStringBuilder" "coder" "B" (.int (0 : Int32)) := D192 (Or.inl (own_g hw 110 rfl)) (ty := .byte) (by decide)
    have F192_count : Fld Z h192 b192 "java/lang/AbstractStringBuilder" "count" "I" (.int (0 : Int32)) := D192 (Or.inl (own_g hw 132 rfl)) (ty := .int) (by decide)
    refine os st192 ?_
    show OGo p e below _ T192 (mkF m 10 #[.val (.ref o), .val (.ref a1)] [(.ref b192)])
    refine os (fun _ k => XS.dup X192.here hx rfl (hb hby d19_2_10) rfl rfl k) ?_
    show OGo p e below _ T192 (mkF m 11 #[.val (.ref o), .val (.ref a1)] [(.ref b192), (.ref b192)])
    have q193 := (Safe.ext E192 H0 (Safe.new (Nat.le_of_eq g192.symm)))
    obtain ⟨v194, T194, L194, X194, hQ194, st194⟩ := icall X192 hx hZ rfl hown (own_g hw 96 rfl) (own_g hw 97 rfl) (own_g hw 95 rfl) (own_g hw 98 rfl) (by decide) (W := 1) (rm_sbInit l Z a0 hw [] b192 zc wf n0 h192 SS' (O.ext E192) A192 F192_value F192_coder F192_count (Nat.le_trans Z0 sz_b192)) e192 (by decide) (by decide) (by decide) (by decide) (g := (mkF m 11 #[.val (.ref o), .val (.ref a1)] [(.ref b192), (.ref b192)])) rfl (by rw [hml]; rfl) (a := b192) (argsL := []) (rest := [(.ref b192)]) opd_25 rfl rfl rfl (by show 2 * 0 + _ ≤ _; exact Nat.le_of_eq rfl) (hb hby d19_2_11)
    obtain ⟨rfl, N194, K194, d194, k194, sd194, J194⟩ := hQ194
    have NN194 := Fr.app N0 N194
    have KK194 : Keep h0 T194.heap [] := KK192.trans K194 (allS (Or.inr sz_b192) all0)
    have H194 := CHv.keep K194 (sfS q193 sf0) H192
    have R194 := CHr.trans R192 (CHr.keep K194 (sfS q193 sf0) H192)
    have sz_d194 : h0.size ≤ d194 := Nat.le_trans KK192.1 sd194
    refine os st194 ?_
    show OGo p e below _ T194 (mkF m 14 #[.val (.ref o), .val (.ref a1)] [(.ref b192)])
    obtain ⟨JE194, JF194, JC194, JN194, JV194, JX194⟩ := J194
    have nb194 : b192 ≠ d194 := JE194.neArv JV194 (own_g hw 94 rfl)
    have hz194 : (16 : Nat) = 16 ∨ (16 : Nat) = 34 := Or.inl rfl
    have hl194 : ([] : List Value).length = 0 := rfl
    have hb194 : ([] : List Value).length ≤ 16 := Nat.zero_le _
    refine os (fun _ k => XS.aloadN X194.here hx rfl (hb hby d19_2_14) rfl rfl k) ?_
    show OGo p e below _ T194 (mkF m 15 #[.val (.ref o), .val (.ref a1)] [(.ref a1), (.ref b192)])
    have q195 := (Safe.keep K194 (sfS q193 sf0) H192 (Safe.new sd194))
    have q196 := ((O.ext E192).keep K194 (allS (Nat.le_trans Z0 sz_b192) all0))
    have q197 := ((IC.ext E192).keep K194 (ninS (Nat.ne_of_lt (Nat.lt_of_lt_of_le IE.lt sz_b192)) nin0))
    have q198 := ((IF.ext E192).keep K194 (ninS (Nat.ne_of_lt (Nat.lt_of_lt_of_le IE.lt sz_b192)) nin0))
    have q199 := ((IV.ext E192).keep K194 (ninS (Nat.ne_of_lt (Nat.lt_of_lt_of_le IV.lt sz_b192)) nin0))
    have q200 := (Safe.keep K194 (sfS q193 sf0) H192 q193)
    obtain ⟨v201, T201, L201, X201, hQ201, st201⟩ := vcall X194 hx hZ hown (own_g hw 111 rfl) (own_g hw 112 rfl) (own_g hw 114 rfl) rfl (own_g hw 114 rfl) (own_g hw 113 rfl) (own_g hw 95 rfl) (own_g hw 115 rfl) (by decide) (W := 0) (rm_sbAppG l Z a0 hw [] b192 d194 k194 16 ([] : List Value) a1 e1 k1 us zc wf n0 T194.heap SS' q196 ⟨JE194, JF194, JC194, JN194, JV194, JX194⟩ (by rcases hz194 with q | q <;> omega) hb194 ⟨((IE.ext E192).keep K194), q197, q198, q199⟩ (Nat.le_trans Z0 sz_b192) (Nat.le_trans Z0 sz_d194) (by rw [hl194, hus]; omega) (Nat.ne_of_lt (Nat.lt_of_lt_of_le IV.lt sz_d194)) (Nat.ne_of_lt (Nat.lt_of_lt_of_le IE.lt sz_b192))) rfl (by decide) (by decide) (by decide) (by decide) (g := (mkF m 15 #[.val (.ref o), .val (.ref a1)] [(.ref a1), (.ref b192)])) rfl (by rw [hml]; rfl) JE194 (argsL := [(.ref a1)]) (rest := []) opd_26 rfl rfl rfl (by show 2 * 0 + _ ≤ _; exact Nat.le_of_eq rfl) (hb hby d19_2_15)
    obtain ⟨rfl, N201, K201, d201, k201, hd201, J201⟩ := hQ201
    have NN201 := Fr.app NN194 N201
    have KK201 : Keep h0 T201.heap [] := KK194.trans K201 (allS (Or.inr sz_b192) (allS (Or.inr sz_d194) all0))
    have H201 := CHv.keep K201 (sfS q200 (sfS q195 sf0)) H194
    have R201 := CHr.trans R194 (CHr.keep K201 (sfS q200 (sfS q195 sf0)) H194)
    refine os st201 ?_
    show OGo p e below _ T201 (mkF m 18 #[.val (.ref o), .val (.ref a1)] [(.ref b192)])
    obtain ⟨W201, hW201⟩ : ∃ z, z = ([] : List Value) ++ us := ⟨_, rfl⟩
    have lW201 : W201.length = 0 + 2 := by rw [hW201, List.length_append, hl194, hus]
    obtain ⟨z201, ez201⟩ : ∃ z, z = own_cap 16 (([] : List Value).length + us.length) := ⟨_, rfl⟩
    have hz201 : z201 = 16 ∨ z201 = 34 := by rw [ez201]; exact own_capin hz194 (by rw [hl194, hus]; omega)
    have hb201 : W201.length ≤ z201 := by rw [ez201, hW201, List.length_append]; exact own_cap_ge _ _
    rw [← ez201, ← hW201] at J201
    obtain ⟨JE201, JF201, JC201, JN201, JV201, JX201⟩ := J201
    have sz_d201 : h0.size ≤ d201 := hd201.elim (fun q => q ▸ sz_d194) (fun q => Nat.le_trans KK194.1 q)
    have nb201 : b192 ≠ d201 := JE201.neArv JV201 (own_g hw 94 rfl)
    obtain ⟨a202, T202, h202, kk202, d202, kd202, X202, e202, E202, hS202, hk202, hZ202, hown202, A202, C202, F202, V202, lt202, ltd202, CR202, Li202, sf202, st202⟩ := ldcCH X201 hx hZ hown (own_g hw 158 rfl) (own_wS hw) rfl hS0 (Nat.le_trans (Nat.le_trans (Nat.le_trans (Nat.zero_le _) E192.1) K194.1) K201.1) (own_hEL hw) (List.mem_of_getElem? (i := 1) rfl) H201 (vs := [(.int (58 : Int32)), (.int (32 : Int32))]) (z := (2 : Int32)) (by decide) (by decide) (by decide) (g := (mkF m 18 #[.val (.ref o), .val (.ref a1)] [(.ref b192)])) rfl (hb hby d19_2_18) (n := 8) (by decide) (by decide) (by decide) (by decide)
    have KK202 : Keep h0 h202 [] := KK201.ext E202
    have H202 := CR202.1
    have R202 := CHr.trans R201 CR202
    refine os st202 ?_
    show OGo p e below _ T202 (mkF m 20 #[.val (.ref o), .val (.ref a1)] [(.ref a202), (.ref b192)])
    have LV202 : Arv Z h202 d202 kd202 .byte (Int32.ofNat own_l16.length) own_l16 (.int (0 : Int32)) := V202
    have q203 := (CHr.safe CR202 JV201.lt (Safe.keep K201 (sfS q200 (sfS q195 sf0)) H194 (own_safeAlt q195 hd201)))
    have q204 := ((q196.keep K201 (allS (Nat.le_trans Z0 sz_b192) (allS (Nat.le_trans Z0 sz_d194) all0))).ext E202)
    have q205 := (CHr.safe CR202 JF201.lt (Safe.keep K201 (sfS q200 (sfS q195 sf0)) H194 q200))
    obtain ⟨v206, T206, L206, X206, hQ206, st206⟩ := vcall X202 hx hZ202 hown202 (own_g hw 111 rfl) (own_g hw 112 rfl) (own_g hw 114 rfl) rfl (own_g hw 114 rfl) (own_g hw 113 rfl) (own_g hw 95 rfl) (own_g hw 115 rfl) (by decide) (W := 0) (rm_sbAppG l Z a0 hw [] b192 d201 k201 z201 W201 a202 d202 kd202 own_l16 zc wf n0 h202 SS' q204 ⟨(JE201.ext E202), (JF201.ext E202), (JC201.ext E202), (JN201.ext E202), (JV201.ext E202), (JX201.ext E202)⟩ (by rcases hz201 with q | q <;> omega) hb201 ⟨A202, C202, F202, LV202⟩ (Nat.le_trans Z0 sz_b192) (Nat.le_trans Z0 sz_d201) (by rw [lW201, own_n16]; omega) (Ne.symm (sf202 _ q203).2) (Ne.symm (sf202 _ q205).1)) e202 (by decide) (by decide) (by decide) (by decide) (g := (mkF m 20 #[.val (.ref o), .val (.ref a1)] [(.ref a202), (.ref b192)])) rfl (by rw [hml]; rfl) (JE201.ext E202) (argsL := [(.ref a202)]) (rest := []) opd_26 rfl rfl rfl (by show 2 * 0 + _ ≤ _; exact Nat.le_of_eq rfl) (hb hby d19_2_20)
    obtain ⟨rfl, N206, K206, d206, k206, hd206, J206⟩ := hQ206
    have NN206 := Fr.app NN201 N206
    have KK206 : Keep h0 T206.heap [] := KK202.trans K206 (allS (Or.inr sz_b192) (allS (Or.inr sz_d201) all0))
    have H206 := CHv.keep K206 (sfS q205 (sfS q203 sf0)) H202
    have R206 := CHr.trans R202 (CHr.keep K206 (sfS q205 (sfS q203 sf0)) H202)
    refine os st206 ?_
    show OGo p e below _ T206 (mkF m 23 #[.val (.ref o), .val (.ref a1)] [(.ref b192)])
    obtain ⟨W206, hW206⟩ : ∃ z, z = W201 ++ own_l16 := ⟨_, rfl⟩
    have lW206 : W206.length = 0 + 2 + 2 := by rw [hW206, List.length_append, lW201, own_n16]
    obtain ⟨z206, ez206⟩ : ∃ z, z = own_cap z201 (W201.length + own_l16.length) := ⟨_, rfl⟩
    have hz206 : z206 = 16 ∨ z206 = 34 := by rw [ez206]; exact own_capin hz201 (by rw [lW201, own_n16]; omega)
    have hb206 : W206.length ≤ z206 := by rw [ez206, hW206, List.length_append]; exact own_cap_ge _ _
    rw [← ez206, ← hW206] at J206
    obtain ⟨JE206, JF206, JC206, JN206, JV206, JX206⟩ := J206
    have sz_d206 : h0.size ≤ d206 := hd206.elim (fun q => q ▸ sz_d201) (fun q => Nat.le_trans KK202.1 q)
    have nb206 : b192 ≠ d206 := JE206.neArv JV206 (own_g hw 94 rfl)
    refine os (fun _ k => XS.aloadN X206.here hx rfl (hb hby d19_2_23) rfl rfl k) ?_
    show OGo p e below _ T206 (mkF m 24 #[.val (.ref o), .val (.ref a1)] [(.ref o), (.ref b192)])
    have q208 := (((((FR.ext E192).keep K194 (ninS (Nat.ne_of_lt (Nat.lt_of_lt_of_le FL.lt sz_b192)) nin0)).keep K201 (ninS (Nat.ne_of_lt (Nat.lt_of_lt_of_le FL.lt sz_b192)) (ninS (Nat.ne_of_lt (Nat.lt_of_lt_of_le FL.lt sz_d194)) nin0))).ext E202).keep K206 (ninS (Nat.ne_of_lt (Nat.lt_of_lt_of_le FL.lt sz_b192)) (ninS (Nat.ne_of_lt (Nat.lt_of_lt_of_le FL.lt sz_d201)) nin0)))
    obtain ⟨T207, X207, e207, st207⟩ := getF X206 hx hZ202 hown202 (host := "") (Or.inl (own_g hw 86 rfl)) Via.refl rfl q208 (g := (mkF m 24 #[.val (.ref o), .val (.ref a1)] [(.ref o), (.ref b192)])) rfl rfl (hb hby d19_2_24)
    refine os st207 ?_
    show OGo p e below _ T207 (mkF m 27 #[.val (.ref o), .val (.ref a1)] [(.ref a2), (.ref b192)])
    have q209 := (Safe.keep K206 (sfS q205 (sfS q203 sf0)) H202 (own_safeAlt q203 hd206))
    have q210 := (q204.keep K206 (allS (Nat.le_trans Z0 sz_b192) (allS (Nat.le_trans Z0 sz_d201) all0)))
    have q211 := (((((JE.ext E192).keep K194).keep K201).ext E202).keep K206)
    have q212 := (((((JC.ext E192).keep K194 (ninS (Nat.ne_of_lt (Nat.lt_of_lt_of_le JE.lt sz_b192)) nin0)).keep K201 (ninS (Nat.ne_of_lt (Nat.lt_of_lt_of_le JE.lt sz_b192)) (ninS (Nat.ne_of_lt (Nat.lt_of_lt_of_le JE.lt sz_d194)) nin0))).ext E202).keep K206 (ninS (Nat.ne_of_lt (Nat.lt_of_lt_of_le JE.lt sz_b192)) (ninS (Nat.ne_of_lt (Nat.lt_of_lt_of_le JE.lt sz_d201)) nin0)))
    have q213 := (((((JF.ext E192).keep K194 (ninS (Nat.ne_of_lt (Nat.lt_of_lt_of_le JE.lt sz_b192)) nin0)).keep K201 (ninS (Nat.ne_of_lt (Nat.lt_of_lt_of_le JE.lt sz_b192)) (ninS (Nat.ne_of_lt (Nat.lt_of_lt_of_le JE.lt sz_d194)) nin0))).ext E202).keep K206 (ninS (Nat.ne_of_lt (Nat.lt_of_lt_of_le JE.lt sz_b192)) (ninS (Nat.ne_of_lt (Nat.lt_of_lt_of_le JE.lt sz_d201)) nin0)))
    have q214 := (((((JV.ext E192).keep K194 (ninS (Nat.ne_of_lt (Nat.lt_of_lt_of_le JV.lt sz_b192)) nin0)).keep K201 (ninS (Nat.ne_of_lt (Nat.lt_of_lt_of_le JV.lt sz_b192)) (ninS (Nat.ne_of_lt (Nat.lt_of_lt_of_le JV.lt sz_d194)) nin0))).ext E202).keep K206 (ninS (Nat.ne_of_lt (Nat.lt_of_lt_of_le JV.lt sz_b192)) (ninS (Nat.ne_of_lt (Nat.lt_of_lt_of_le JV.lt sz_d201)) nin0)))
    have q215 := (Safe.keep K206 (sfS q205 (sfS q203 sf0)) H202 q205)
    obtain ⟨v216, T216, L216, X216, hQ216, st216⟩ := vcall X207 hx hZ202 hown202 (own_g hw 111 rfl) (own_g hw 112 rfl) (own_g hw 114 rfl) rfl (own_g hw 114 rfl) (own_g hw 113 rfl) (own_g hw 95 rfl) (own_g hw 115 rfl) (by decide) (W := 0) (rm_sbAppG l Z a0 hw [] b192 d206 k206 z206 W206 a2 e2 k2 vs zc wf n0 T206.heap SS' q210 ⟨JE206, JF206, JC206, JN206, JV206, JX206⟩ (by rcases hz206 with q | q <;> omega) hb206 ⟨q211, q212, q213, q214⟩ (Nat.le_trans Z0 sz_b192) (Nat.le_trans Z0 sz_d206) (by rw [lW206, hvs]; omega) (Nat.ne_of_lt (Nat.lt_of_lt_of_le JV.lt sz_d206)) (Nat.ne_of_lt (Nat.lt_of_lt_of_le JE.lt sz_b192))) e207 (by decide) (by decide) (by decide) (by decide) (g := (mkF m 27 #[.val (.ref o), .val (.ref a1)] [(.ref a2), (.ref b192)])) rfl (by rw [hml]; rfl) JE206 (argsL := [(.ref a2)]) (rest := []) opd_26 rfl rfl rfl (by show 2 * 0 + _ ≤ _; exact Nat.le_of_eq rfl) (hb hby d19_2_27)
    obtain ⟨rfl, N216, K216, d216, k216, hd216, J216⟩ := hQ216
    have NN216 := Fr.app NN206 N216
    have KK216 : Keep h0 T216.heap [] := KK206.trans K216 (allS (Or.inr sz_b192) (allS (Or.inr sz_d206) all0))
    have H216 := CHv.keep K216 (sfS q215 (sfS q209 sf0)) H206
    have R216 := CHr.trans R206 (CHr.keep K216 (sfS q215 (sfS q209 sf0)) H206)
    refine os st216 ?_
    show OGo p e below _ T216 (mkF m 30 #[.val (.ref o), .val (.ref a1)] [(.ref b192)])
    obtain ⟨W216, hW216⟩ : ∃ z, z = W206 ++ vs := ⟨_, rfl⟩
    have lW216 : W216.length = 0 + 2 + 2 + 2 := by rw [hW216, List.length_append, lW206, hvs]
    obtain ⟨z216, ez216⟩ : ∃ z, z = own_cap z206 (W206.length + vs.length) := ⟨_, rfl⟩
    have hz216 : z216 = 16 ∨ z216 = 34 := by rw [ez216]; exact own_capin hz206 (by rw [lW206, hvs]; omega)
    have hb216 : W216.length ≤ z216 := by rw [ez216, hW216, List.length_append]; exact own_cap_ge _ _
    rw [← ez216, ← hW216] at J216
    obtain ⟨JE216, JF216, JC216, JN216, JV216, JX216⟩ := J216
    have sz_d216 : h0.size ≤ d216 := hd216.elim (fun q => q ▸ sz_d206) (fun q => Nat.le_trans KK206.1 q)
    have nb216 : b192 ≠ d216 := JE216.neArv JV216 (own_g hw 94 rfl)
    have q217 := (q210.keep K216 (allS (Nat.le_trans Z0 sz_b192) (allS (Nat.le_trans Z0 sz_d206) all0)))
    obtain ⟨v218, T218, L218, X218, hQ218, st218⟩ := vcall X216 hx hZ202 hown202 (own_g hw 161 rfl) (own_g hw 162 rfl) (own_g hw 164 rfl) rfl (own_g hw 164 rfl) (own_g hw 163 rfl) (own_g hw 95 rfl) (own_g hw 165 rfl) (by decide) (W := 0) (rm_toS l Z a0 hw [] b192 d216 k216 z216 W216 zc wf n0 T216.heap SS' q217 ⟨JE216, JF216, JC216, JN216, JV216, JX216⟩ (by rcases hz216 with q | q <;> omega) hb216 (by rw [lW216]; omega)) rfl (by decide) (by decide) (by decide) (by decide) (g := (mkF m 30 #[.val (.ref o), .val (.ref a1)] [(.ref b192)])) rfl (by rw [hml]; rfl) JE216 (argsL := []) (rest := []) opd_28 rfl rfl rfl (by show 2 * 0 + _ ≤ _; exact Nat.le_of_eq rfl) (hb hby d19_2_30)
    obtain ⟨a218, r218, kr218, rfl, sa218, sr218, N218, K218, I218⟩ := hQ218
    have NN218 := Fr.app NN216 N218
    have KK218 : Keep h0 T218.heap [] := KK216.trans K218 all0
    have H218 := CHv.keep K218 sf0 H216
    have R218 := CHr.trans R216 (CHr.keep K218 sf0 H216)
    have sz_a218 : h0.size ≤ a218 := Nat.le_trans KK216.1 sa218
    have sz_r218 : h0.size ≤ r218 := Nat.le_trans KK216.1 sr218
    refine os st218 ?_
    show OGo p e below _ T218 (mkF m 33 #[.val (.ref o), .val (.ref a1)] [(.ref a218)])
    obtain ⟨IE218, IC218, IF218, IV218⟩ := I218
    refine os (fun _ k => XS.goto X218.here hx rfl (pc0 := 33) (pc' := 74) rfl (hb hby d19_2_33) (by decide) (by decide) k) ?_
    show OGo p e below _ T218 (mkF m 74 #[.val (.ref o), .val (.ref a1)] [(.ref a218)])
    have hWf : W216 = own_us n us vs := by rw [own_us, if_pos q]; rw [hW216, hW206, hW201]; simp only [List.nil_append, List.append_assoc]
    exact OGo.retH X218 hx hZ202 (own_hEL hw) hs0 rfl hS202 (Nat.le_trans (Nat.le_trans (Nat.le_trans hk202 K206.1) K216.1) K218.1) H218 R218 (t := (.object "java/lang/String")) hret hlk rfl (Or.inr (Or.inr (Or.inr (Or.inr ⟨rfl, rfl, rfl⟩)))) (hb hby d19_2_74) (by decide) (by decide) ⟨a218, r218, _, rfl, sz_a218, NN218, KK218, by rw [← hWf]; exact ⟨IE218, IC218, IF218, IV218⟩⟩
  refine os (fun _ k => XS.ifYes X191.here hx rfl (pc0 := 4) (pc' := 36) rfl (hb hby d19_2_4) rfl ((if0 _ _).trans (feq (fun h => q (own_ofNat0 hn h))).2) (by decide) (by decide) k) ?_
  show OGo p e below _ T191 (mkF m 36 #[.val (.ref o), .val (.ref a1)] [])
  obtain ⟨T219, h219, X219, e219, E219, A219, D219, UN219, st219⟩ := newO X191 hx hZ hown (own_g hw 93 rfl) (own_g hw 94 rfl) (own_g hw 95 rfl) e191 (g := (mkF m 36 #[.val (.ref o), .val (.ref a1)] [])) rfl (hb hby d19_2_36) (by decide) (by decide)
  obtain ⟨b219, g219⟩ : ∃ z, z = h0.size := ⟨_, rfl⟩
  rw [← g219] at A219 D219 UN219 st219
  have sz_b219 : h0.size ≤ b219 := Nat.le_trans (Keep.refl h0 []).1 (Nat.le_of_eq g219.symm)
  have KK219 : Keep h0 h219 [] := (Keep.refl h0 []).ext E219
  have H219 := CHv.ext E219 H0
  have R219 := CHr.trans R0 (CHr.ext E219 H0)
  have F219_value : Fld Z h219 b219 "java/lang/AbstractStringBuilder" "value" "[B" .null := D219 (Or.inl (own_g hw 108 rfl)) (ty := (.array .byte)) (by decide)
  have F219_coder : Fld Z h219 b219 "java/lang/AbstractStringBuilder" "coder" "B" (.int (0 : Int32)) := D219 (Or.inl (own_g hw 110 rfl)) (ty := .byte) (by decide)
  have F219_count : Fld Z h219 b219 "java/lang/AbstractStringBuilder" "count" "I" (.int (0 : Int32)) := D219 (Or.inl (own_g hw 132 rfl)) (ty := .int) (by decide)
  refine os st219 ?_
  show OGo p e below _ T219 (mkF m 39 #[.val (.ref o), .val (.ref a1)] [(.ref b219)])
  refine os (fun _ k => XS.dup X219.here hx rfl (hb hby d19_2_39) rfl rfl k) ?_
  show OGo p e below _ T219 (mkF m 40 #[.val (.ref o), .val (.ref a1)] [(.ref b219), (.ref b219)])
  have q220 := (Safe.ext E219 H0 (Safe.new (Nat.le_of_eq g219.symm)))
  obtain ⟨v221, T221, L221, X221, hQ221, st221⟩ := icall X219 hx hZ rfl hown (own_g hw 96 rfl) (own_g hw 97 rfl) (own_g hw 95 rfl) (own_g hw 98 rfl) (by decide) (W := 1) (rm_sbInit l Z a0 hw [] b219 zc wf n0 h219 SS' (O.ext E219) A219 F219_value F219_coder F219_count (Nat.le_trans Z0 sz_b219)) e219 (by decide) (by decide) (by decide) (by decide) (g := (mkF m 40 #[.val (.ref o), .val (.ref a1)] [(.ref b219), (.ref b219)])) rfl (by rw [hml]; rfl) (a := b219) (argsL := []) (rest := [(.ref b219)]) opd_25 rfl rfl rfl (by show 2 * 0 + _ ≤ _; exact Nat.le_of_eq rfl) (hb hby d19_2_40)
  obtain ⟨rfl, N221, K221, d221, k221, sd221, J221⟩ := hQ221
  have NN221 := Fr.app N0 N221
  have KK221 : Keep h0 T221.heap [] := KK219.trans K221 (allS (Or.inr sz_b219) all0)
  have H221 := CHv.keep K221 (sfS q220 sf0) H219
  have R221 := CHr.trans R219 (CHr.keep K221 (sfS q220 sf0) H219)
  have sz_d221 : h0.size ≤ d221 := Nat.le_trans KK219.1 sd221
  refine os st221 ?_
  show OGo p e below _ T221 (mkF m 43 #[.val (.ref o), .val (.ref a1)] [(.ref b219)])
  obtain ⟨JE221, JF221, JC221, JN221, JV221, JX221⟩ := J221
  have nb221 : b219 ≠ d221 := JE221.neArv JV221 (own_g hw 94 rfl)
  have hz221 : (16 : Nat) = 16 ∨ (16 : Nat) = 34 := Or.inl rfl
  have hl221 : ([] : List Value).length = 0 := rfl
  have hb221 : ([] : List Value).length ≤ 16 := Nat.zero_le _
  refine os (fun _ k => XS.aloadN X221.here hx rfl (hb hby d19_2_43) rfl rfl k) ?_
  show OGo p e below _ T221 (mkF m 44 #[.val (.ref o), .val (.ref a1)] [(.ref a1), (.ref b219)])
  have q222 := (Safe.keep K221 (sfS q220 sf0) H219 (Safe.new sd221))
  have q223 := ((O.ext E219).keep K221 (allS (Nat.le_trans Z0 sz_b219) all0))
  have q224 := ((IC.ext E219).keep K221 (ninS (Nat.ne_of_lt (Nat.lt_of_lt_of_le IE.lt sz_b219)) nin0))
  have q225 := ((IF.ext E219).keep K221 (ninS (Nat.ne_of_lt (Nat.lt_of_lt_of_le IE.lt sz_b219)) nin0))
  have q226 := ((IV.ext E219).keep K221 (ninS (Nat.ne_of_lt (Nat.lt_of_lt_of_le IV.lt sz_b219)) nin0))
  have q227 := (Safe.keep K221 (sfS q220 sf0) H219 q220)
  obtain ⟨v228, T228, L228, X228, hQ228, st228⟩ := vcall X221 hx hZ hown (own_g hw 111 rfl) (own_g hw 112 rfl) (own_g hw 114 rfl) rfl (own_g hw 114 rfl) (own_g hw 113 rfl) (own_g hw 95 rfl) (own_g hw 115 rfl) (by decide) (W := 0) (rm_sbAppG l Z a0 hw [] b219 d221 k221 16 ([] : List Value) a1 e1 k1 us zc wf n0 T221.heap SS' q223 ⟨JE221, JF221, JC221, JN221, JV221, JX221⟩ (by rcases hz221 with q | q <;> omega) hb221 ⟨((IE.ext E219).keep K221), q224, q225, q226⟩ (Nat.le_trans Z0 sz_b219) (Nat.le_trans Z0 sz_d221) (by rw [hl221, hus]; omega) (Nat.ne_of_lt (Nat.lt_of_lt_of_le IV.lt sz_d221)) (Nat.ne_of_lt (Nat.lt_of_lt_of_le IE.lt sz_b219))) rfl (by decide) (by decide) (by decide) (by decide) (g := (mkF m 44 #[.val (.ref o), .val (.ref a1)] [(.ref a1), (.ref b219)])) rfl (by rw [hml]; rfl) JE221 (argsL := [(.ref a1)]) (rest := []) opd_26 rfl rfl rfl (by show 2 * 0 + _ ≤ _; exact Nat.le_of_eq rfl) (hb hby d19_2_44)
  obtain ⟨rfl, N228, K228, d228, k228, hd228, J228⟩ := hQ228
  have NN228 := Fr.app NN221 N228
  have KK228 : Keep h0 T228.heap [] := KK221.trans K228 (allS (Or.inr sz_b219) (allS (Or.inr sz_d221) all0))
  have H228 := CHv.keep K228 (sfS q227 (sfS q222 sf0)) H221
  have R228 := CHr.trans R221 (CHr.keep K228 (sfS q227 (sfS q222 sf0)) H221)
  refine os st228 ?_
  show OGo p e below _ T228 (mkF m 47 #[.val (.ref o), .val (.ref a1)] [(.ref b219)])
  obtain ⟨W228, hW228⟩ : ∃ z, z = ([] : List Value) ++ us := ⟨_, rfl⟩
  have lW228 : W228.length = 0 + 2 := by rw [hW228, List.length_append, hl221, hus]
  obtain ⟨z228, ez228⟩ : ∃ z, z = own_cap 16 (([] : List Value).length + us.length) := ⟨_, rfl⟩
  have hz228 : z228 = 16 ∨ z228 = 34 := by rw [ez228]; exact own_capin hz221 (by rw [hl221, hus]; omega)
  have hb228 : W228.length ≤ z228 := by rw [ez228, hW228, List.length_append]; exact own_cap_ge _ _
  rw [← ez228, ← hW228] at J228
  obtain ⟨JE228, JF228, JC228, JN228, JV228, JX228⟩ := J228
  have sz_d228 : h0.size ≤ d228 := hd228.elim (fun q => q ▸ sz_d221) (fun q => Nat.le_trans KK221.1 q)
  have nb228 : b219 ≠ d228 := JE228.neArv JV228 (own_g hw 94 rfl)
  obtain ⟨a229, T229, h229, kk229, d229, kd229, X229, e229, E229, hS229, hk229, hZ229, hown229, A229, C229, F229, V229, lt229, ltd229, CR229, Li229, sf229, st229⟩ := ldcCH X228 hx hZ hown (own_g hw 249 rfl) (own_wS hw) rfl hS0 (Nat.le_trans (Nat.le_trans (Nat.le_trans (Nat.zero_le _) E219.1) K221.1) K228.1) (own_hEL hw) (List.mem_of_getElem? (i := 2) rfl) H228 (vs := [(.int (58 : Int32))]) (z := (1 : Int32)) (by decide) (by decide) (by decide) (g := (mkF m 47 #[.val (.ref o), .val (.ref a1)] [(.ref b219)])) rfl (hb hby d19_2_47) (n := 4) (by decide) (by decide) (by decide) (by decide)
  have KK229 : Keep h0 h229 [] := KK228.ext E229
  have H229 := CR229.1
  have R229 := CHr.trans R228 CR229
  refine os st229 ?_
  show OGo p e below _ T229 (mkF m 49 #[.val (.ref o), .val (.ref a1)] [(.ref a229), (.ref b219)])
  have LV229 : Arv Z h229 d229 kd229 .byte (Int32.ofNat own_l37.length) own_l37 (.int (0 : Int32)) := V229
  have q230 := (CHr.safe CR229 JV228.lt (Safe.keep K228 (sfS q227 (sfS q222 sf0)) H221 (own_safeAlt q222 hd228)))
  have q231 := ((q223.keep K228 (allS (Nat.le_trans Z0 sz_b219) (allS (Nat.le_trans Z0 sz_d221) all0))).ext E229)
  have q232 := (CHr.safe CR229 JF228.lt (Safe.keep K228 (sfS q227 (sfS q222 sf0)) H221 q227))
  obtain ⟨v233, T233, L233, X233, hQ233, st233⟩ := vcall X229 hx hZ229 hown229 (own_g hw 111 rfl) (own_g hw 112 rfl) (own_g hw 114 rfl) rfl (own_g hw 114 rfl) (own_g hw 113 rfl) (own_g hw 95 rfl) (own_g hw 115 rfl) (by decide) (W := 0) (rm_sbAppG l Z a0 hw [] b219 d228 k228 z228 W228 a229 d229 kd229 own_l37 zc wf n0 h229 SS' q231 ⟨(JE228.ext E229), (JF228.ext E229), (JC228.ext E229), (JN228.ext E229), (JV228.ext E229), (JX228.ext E229)⟩ (by rcases hz228 with q | q <;> omega) hb228 ⟨A229, C229, F229, LV229⟩ (Nat.le_trans Z0 sz_b219) (Nat.le_trans Z0 sz_d228) (by rw [lW228, own_n37]; omega) (Ne.symm (sf229 _ q230).2) (Ne.symm (sf229 _ q232).1)) e229 (by decide) (by decide) (by decide) (by decide) (g := (mkF m 49 #[.val (.ref o), .val (.ref a1)] [(.ref a229), (.ref b219)])) rfl (by rw [hml]; rfl) (JE228.ext E229) (argsL := [(.ref a229)]) (rest := []) opd_26 rfl rfl rfl (by show 2 * 0 + _ ≤ _; exact Nat.le_of_eq rfl) (hb hby d19_2_49)
  obtain ⟨rfl, N233, K233, d233, k233, hd233, J233⟩ := hQ233
  have NN233 := Fr.app NN228 N233
  have KK233 : Keep h0 T233.heap [] := KK229.trans K233 (allS (Or.inr sz_b219) (allS (Or.inr sz_d228) all0))
  have H233 := CHv.keep K233 (sfS q232 (sfS q230 sf0)) H229
  have R233 := CHr.trans R229 (CHr.keep K233 (sfS q232 (sfS q230 sf0)) H229)
  refine os st233 ?_
  show OGo p e below _ T233 (mkF m 52 #[.val (.ref o), .val (.ref a1)] [(.ref b219)])
  obtain ⟨W233, hW233⟩ : ∃ z, z = W228 ++ own_l37 := ⟨_, rfl⟩
  have lW233 : W233.length = 0 + 2 + 1 := by rw [hW233, List.length_append, lW228, own_n37]
  obtain ⟨z233, ez233⟩ : ∃ z, z = own_cap z228 (W228.length + own_l37.length) := ⟨_, rfl⟩
  have hz233 : z233 = 16 ∨ z233 = 34 := by rw [ez233]; exact own_capin hz228 (by rw [lW228, own_n37]; omega)
  have hb233 : W233.length ≤ z233 := by rw [ez233, hW233, List.length_append]; exact own_cap_ge _ _
  rw [← ez233, ← hW233] at J233
  obtain ⟨JE233, JF233, JC233, JN233, JV233, JX233⟩ := J233
  have sz_d233 : h0.size ≤ d233 := hd233.elim (fun q => q ▸ sz_d228) (fun q => Nat.le_trans KK229.1 q)
  have nb233 : b219 ≠ d233 := JE233.neArv JV233 (own_g hw 94 rfl)
  refine os (fun _ k => XS.aloadN X233.here hx rfl (hb hby d19_2_52) rfl rfl k) ?_
  show OGo p e below _ T233 (mkF m 53 #[.val (.ref o), .val (.ref a1)] [(.ref o), (.ref b219)])
  have q235 := (((((FL.ext E219).keep K221 (ninS (Nat.ne_of_lt (Nat.lt_of_lt_of_le FL.lt sz_b219)) nin0)).keep K228 (ninS (Nat.ne_of_lt (Nat.lt_of_lt_of_le FL.lt sz_b219)) (ninS (Nat.ne_of_lt (Nat.lt_of_lt_of_le FL.lt sz_d221)) nin0))).ext E229).keep K233 (ninS (Nat.ne_of_lt (Nat.lt_of_lt_of_le FL.lt sz_b219)) (ninS (Nat.ne_of_lt (Nat.lt_of_lt_of_le FL.lt sz_d228)) nin0)))
  obtain ⟨T234, X234, e234, st234⟩ := getF X233 hx hZ229 hown229 (host := "") (Or.inl (own_g hw 84 rfl)) Via.refl rfl q235 (g := (mkF m 53 #[.val (.ref o), .val (.ref a1)] [(.ref o), (.ref b219)])) rfl rfl (hb hby d19_2_53)
  refine os st234 ?_
  show OGo p e below _ T234 (mkF m 56 #[.val (.ref o), .val (.ref a1)] [(.int (Int32.ofNat n)), (.ref b219)])
  have q236 := (Safe.keep K233 (sfS q232 (sfS q230 sf0)) H229 (own_safeAlt q230 hd233))
  have q237 := (q231.keep K233 (allS (Nat.le_trans Z0 sz_b219) (allS (Nat.le_trans Z0 sz_d228) all0)))
  have q238 := (Safe.keep K233 (sfS q232 (sfS q230 sf0)) H229 q232)
  obtain ⟨v239, T239, L239, X239, hQ239, st239⟩ := vcall X234 hx hZ229 hown229 (own_g hw 231 rfl) (own_g hw 232 rfl) (own_g hw 234 rfl) rfl (own_g hw 234 rfl) (own_g hw 233 rfl) (own_g hw 95 rfl) (own_g hw 235 rfl) (by decide) (W := 0) (rm_appI l Z a0 hw [] n b219 d233 k233 z233 W233 zc wf n0 d1 d2 kd1 kd2 T233.heap SS' q237 SI hn ⟨JE233, JF233, JC233, JN233, JV233, JX233⟩ (by rcases hz233 with q | q <;> omega) hb233 (Nat.le_trans Z0 sz_b219) (Nat.le_trans Z0 sz_d233) (by rw [lW233]; omega)) e234 (by decide) (by decide) (by decide) (by decide) (g := (mkF m 56 #[.val (.ref o), .val (.ref a1)] [(.int (Int32.ofNat n)), (.ref b219)])) rfl (by rw [hml]; rfl) JE233 (argsL := [(.int (Int32.ofNat n))]) (rest := []) opd_27 rfl rfl rfl (by show 2 * 0 + _ ≤ _; exact Nat.le_of_eq rfl) (hb hby d19_2_56)
  obtain ⟨rfl, N239, K239, d239, k239, hd239, J239⟩ := hQ239
  have NN239 := Fr.app NN233 N239
  have KK239 : Keep h0 T239.heap [] := KK233.trans K239 (allS (Or.inr sz_b219) (allS (Or.inr sz_d233) all0))
  have H239 := CHv.keep K239 (sfS q238 (sfS q236 sf0)) H233
  have R239 := CHr.trans R233 (CHr.keep K239 (sfS q238 (sfS q236 sf0)) H233)
  refine os st239 ?_
  show OGo p e below _ T239 (mkF m 59 #[.val (.ref o), .val (.ref a1)] [(.ref b219)])
  obtain ⟨W239, hW239⟩ : ∃ z, z = W233 ++ own_dig (own_w n) n := ⟨_, rfl⟩
  have lW239 : W239.length = 0 + 2 + 1 + own_w n := by rw [hW239, List.length_append, lW233, own_diglen]
  obtain ⟨z239, ez239⟩ : ∃ z, z = own_cap z233 (W233.length + own_w n) := ⟨_, rfl⟩
  have hz239 : z239 = 16 ∨ z239 = 34 := by rw [ez239]; exact own_capin hz233 (by rw [lW233]; omega)
  have hb239 : W239.length ≤ z239 := by rw [ez239, hW239, List.length_append, own_diglen]; exact own_cap_ge _ _
  rw [← ez239, ← hW239] at J239
  obtain ⟨JE239, JF239, JC239, JN239, JV239, JX239⟩ := J239
  have sz_d239 : h0.size ≤ d239 := hd239.elim (fun q => q ▸ sz_d233) (fun q => Nat.le_trans KK233.1 q)
  have nb239 : b219 ≠ d239 := JE239.neArv JV239 (own_g hw 94 rfl)
  obtain ⟨a240, T240, h240, kk240, d240, kd240, X240, e240, E240, hS240, hk240, hZ240, hown240, A240, C240, F240, V240, lt240, ltd240, CR240, Li240, sf240, st240⟩ := ldcCH X239 hx hZ229 hown229 (own_g hw 158 rfl) (own_wS hw) rfl hS229 (Nat.le_trans (Nat.le_trans hk229 K233.1) K239.1) (own_hEL hw) (List.mem_of_getElem? (i := 1) rfl) H239 (vs := [(.int (58 : Int32)), (.int (32 : Int32))]) (z := (2 : Int32)) (by decide) (by decide) (by decide) (g := (mkF m 59 #[.val (.ref o), .val (.ref a1)] [(.ref b219)])) rfl (hb hby d19_2_59) (n := 8) (by decide) (by decide) (by decide) (by decide)
  have KK240 : Keep h0 h240 [] := KK239.ext E240
  have H240 := CR240.1
  have R240 := CHr.trans R239 CR240
  refine os st240 ?_
  show OGo p e below _ T240 (mkF m 61 #[.val (.ref o), .val (.ref a1)] [(.ref a240), (.ref b219)])
  have LV240 : Arv Z h240 d240 kd240 .byte (Int32.ofNat own_l16.length) own_l16 (.int (0 : Int32)) := V240
  have q241 := (CHr.safe CR240 JV239.lt (Safe.keep K239 (sfS q238 (sfS q236 sf0)) H233 (own_safeAlt q236 hd239)))
  have q242 := ((q237.keep K239 (allS (Nat.le_trans Z0 sz_b219) (allS (Nat.le_trans Z0 sz_d233) all0))).ext E240)
  have q243 := (CHr.safe CR240 JF239.lt (Safe.keep K239 (sfS q238 (sfS q236 sf0)) H233 q238))
  obtain ⟨v244, T244, L244, X244, hQ244, st244⟩ := vcall X240 hx hZ240 hown240 (own_g hw 111 rfl) (own_g hw 112 rfl) (own_g hw 114 rfl) rfl (own_g hw 114 rfl) (own_g hw 113 rfl) (own_g hw 95 rfl) (own_g hw 115 rfl) (by decide) (W := 0) (rm_sbAppG l Z a0 hw [] b219 d239 k239 z239 W239 a240 d240 kd240 own_l16 zc wf n0 h240 SS' q242 ⟨(JE239.ext E240), (JF239.ext E240), (JC239.ext E240), (JN239.ext E240), (JV239.ext E240), (JX239.ext E240)⟩ (by rcases hz239 with q | q <;> omega) hb239 ⟨A240, C240, F240, LV240⟩ (Nat.le_trans Z0 sz_b219) (Nat.le_trans Z0 sz_d239) (by rw [lW239, own_n16]; omega) (Ne.symm (sf240 _ q241).2) (Ne.symm (sf240 _ q243).1)) e240 (by decide) (by decide) (by decide) (by decide) (g := (mkF m 61 #[.val (.ref o), .val (.ref a1)] [(.ref a240), (.ref b219)])) rfl (by rw [hml]; rfl) (JE239.ext E240) (argsL := [(.ref a240)]) (rest := []) opd_26 rfl rfl rfl (by show 2 * 0 + _ ≤ _; exact Nat.le_of_eq rfl) (hb hby d19_2_61)
  obtain ⟨rfl, N244, K244, d244, k244, hd244, J244⟩ := hQ244
  have NN244 := Fr.app NN239 N244
  have KK244 : Keep h0 T244.heap [] := KK240.trans K244 (allS (Or.inr sz_b219) (allS (Or.inr sz_d239) all0))
  have H244 := CHv.keep K244 (sfS q243 (sfS q241 sf0)) H240
  have R244 := CHr.trans R240 (CHr.keep K244 (sfS q243 (sfS q241 sf0)) H240)
  refine os st244 ?_
  show OGo p e below _ T244 (mkF m 64 #[.val (.ref o), .val (.ref a1)] [(.ref b219)])
  obtain ⟨W244, hW244⟩ : ∃ z, z = W239 ++ own_l16 := ⟨_, rfl⟩
  have lW244 : W244.length = 0 + 2 + 1 + own_w n + 2 := by rw [hW244, List.length_append, lW239, own_n16]
  obtain ⟨z244, ez244⟩ : ∃ z, z = own_cap z239 (W239.length + own_l16.length) := ⟨_, rfl⟩
  have hz244 : z244 = 16 ∨ z244 = 34 := by rw [ez244]; exact own_capin hz239 (by rw [lW239, own_n16]; omega)
  have hb244 : W244.length ≤ z244 := by rw [ez244, hW244, List.length_append]; exact own_cap_ge _ _
  rw [← ez244, ← hW244] at J244
  obtain ⟨JE244, JF244, JC244, JN244, JV244, JX244⟩ := J244
  have sz_d244 : h0.size ≤ d244 := hd244.elim (fun q => q ▸ sz_d239) (fun q => Nat.le_trans KK240.1 q)
  have nb244 : b219 ≠ d244 := JE244.neArv JV244 (own_g hw 94 rfl)
  refine os (fun _ k => XS.aloadN X244.here hx rfl (hb hby d19_2_64) rfl rfl k) ?_
  show OGo p e below _ T244 (mkF m 65 #[.val (.ref o), .val (.ref a1)] [(.ref o), (.ref b219)])
  have q246 := ((((((((FR.ext E219).keep K221 (ninS (Nat.ne_of_lt (Nat.lt_of_lt_of_le FL.lt sz_b219)) nin0)).keep K228 (ninS (Nat.ne_of_lt (Nat.lt_of_lt_of_le FL.lt sz_b219)) (ninS (Nat.ne_of_lt (Nat.lt_of_lt_of_le FL.lt sz_d221)) nin0))).ext E229).keep K233 (ninS (Nat.ne_of_lt (Nat.lt_of_lt_of_le FL.lt sz_b219)) (ninS (Nat.ne_of_lt (Nat.lt_of_lt_of_le FL.lt sz_d228)) nin0))).keep K239 (ninS (Nat.ne_of_lt (Nat.lt_of_lt_of_le FL.lt sz_b219)) (ninS (Nat.ne_of_lt (Nat.lt_of_lt_of_le FL.lt sz_d233)) nin0))).ext E240).keep K244 (ninS (Nat.ne_of_lt (Nat.lt_of_lt_of_le FL.lt sz_b219)) (ninS (Nat.ne_of_lt (Nat.lt_of_lt_of_le FL.lt sz_d239)) nin0)))
  obtain ⟨T245, X245, e245, st245⟩ := getF X244 hx hZ240 hown240 (host := "") (Or.inl (own_g hw 86 rfl)) Via.refl rfl q246 (g := (mkF m 65 #[.val (.ref o), .val (.ref a1)] [(.ref o), (.ref b219)])) rfl rfl (hb hby d19_2_65)
  refine os st245 ?_
  show OGo p e below _ T245 (mkF m 68 #[.val (.ref o), .val (.ref a1)] [(.ref a2), (.ref b219)])
  have q247 := (Safe.keep K244 (sfS q243 (sfS q241 sf0)) H240 (own_safeAlt q241 hd244))
  have q248 := (q242.keep K244 (allS (Nat.le_trans Z0 sz_b219) (allS (Nat.le_trans Z0 sz_d239) all0)))
  have q249 := ((((((((JE.ext E219).keep K221).keep K228).ext E229).keep K233).keep K239).ext E240).keep K244)
  have q250 := ((((((((JC.ext E219).keep K221 (ninS (Nat.ne_of_lt (Nat.lt_of_lt_of_le JE.lt sz_b219)) nin0)).keep K228 (ninS (Nat.ne_of_lt (Nat.lt_of_lt_of_le JE.lt sz_b219)) (ninS (Nat.ne_of_lt (Nat.lt_of_lt_of_le JE.lt sz_d221)) nin0))).ext E229).keep K233 (ninS (Nat.ne_of_lt (Nat.lt_of_lt_of_le JE.lt sz_b219)) (ninS (Nat.ne_of_lt (Nat.lt_of_lt_of_le JE.lt sz_d228)) nin0))).keep K239 (ninS (Nat.ne_of_lt (Nat.lt_of_lt_of_le JE.lt sz_b219)) (ninS (Nat.ne_of_lt (Nat.lt_of_lt_of_le JE.lt sz_d233)) nin0))).ext E240).keep K244 (ninS (Nat.ne_of_lt (Nat.lt_of_lt_of_le JE.lt sz_b219)) (ninS (Nat.ne_of_lt (Nat.lt_of_lt_of_le JE.lt sz_d239)) nin0)))
  have q251 := ((((((((JF.ext E219).keep K221 (ninS (Nat.ne_of_lt (Nat.lt_of_lt_of_le JE.lt sz_b219)) nin0)).keep K228 (ninS (Nat.ne_of_lt (Nat.lt_of_lt_of_le JE.lt sz_b219)) (ninS (Nat.ne_of_lt (Nat.lt_of_lt_of_le JE.lt sz_d221)) nin0))).ext E229).keep K233 (ninS (Nat.ne_of_lt (Nat.lt_of_lt_of_le JE.lt sz_b219)) (ninS (Nat.ne_of_lt (Nat.lt_of_lt_of_le JE.lt sz_d228)) nin0))).keep K239 (ninS (Nat.ne_of_lt (Nat.lt_of_lt_of_le JE.lt sz_b219)) (ninS (Nat.ne_of_lt (Nat.lt_of_lt_of_le JE.lt sz_d233)) nin0))).ext E240).keep K244 (ninS (Nat.ne_of_lt (Nat.lt_of_lt_of_le JE.lt sz_b219)) (ninS (Nat.ne_of_lt (Nat.lt_of_lt_of_le JE.lt sz_d239)) nin0)))
  have q252 := ((((((((JV.ext E219).keep K221 (ninS (Nat.ne_of_lt (Nat.lt_of_lt_of_le JV.lt sz_b219)) nin0)).keep K228 (ninS (Nat.ne_of_lt (Nat.lt_of_lt_of_le JV.lt sz_b219)) (ninS (Nat.ne_of_lt (Nat.lt_of_lt_of_le JV.lt sz_d221)) nin0))).ext E229).keep K233 (ninS (Nat.ne_of_lt (Nat.lt_of_lt_of_le JV.lt sz_b219)) (ninS (Nat.ne_of_lt (Nat.lt_of_lt_of_le JV.lt sz_d228)) nin0))).keep K239 (ninS (Nat.ne_of_lt (Nat.lt_of_lt_of_le JV.lt sz_b219)) (ninS (Nat.ne_of_lt (Nat.lt_of_lt_of_le JV.lt sz_d233)) nin0))).ext E240).keep K244 (ninS (Nat.ne_of_lt (Nat.lt_of_lt_of_le JV.lt sz_b219)) (ninS (Nat.ne_of_lt (Nat.lt_of_lt_of_le JV.lt sz_d239)) nin0)))
  have q253 := (Safe.keep K244 (sfS q243 (sfS q241 sf0)) H240 q243)
  obtain ⟨v254, T254, L254, X254, hQ254, st254⟩ := vcall X245 hx hZ240 hown240 (own_g hw 111 rfl) (own_g hw 112 rfl) (own_g hw 114 rfl) rfl (own_g hw 114 rfl) (own_g hw 113 rfl) (own_g hw 95 rfl) (own_g hw 115 rfl) (by decide) (W := 0) (rm_sbAppG l Z a0 hw [] b219 d244 k244 z244 W244 a2 e2 k2 vs zc wf n0 T244.heap SS' q248 ⟨JE244, JF244, JC244, JN244, JV244, JX244⟩ (by rcases hz244 with q | q <;> omega) hb244 ⟨q249, q250, q251, q252⟩ (Nat.le_trans Z0 sz_b219) (Nat.le_trans Z0 sz_d244) (by rw [lW244, hvs]; omega) (Nat.ne_of_lt (Nat.lt_of_lt_of_le JV.lt sz_d244)) (Nat.ne_of_lt (Nat.lt_of_lt_of_le JE.lt sz_b219))) e245 (by decide) (by decide) (by decide) (by decide) (g := (mkF m 68 #[.val (.ref o), .val (.ref a1)] [(.ref a2), (.ref b219)])) rfl (by rw [hml]; rfl) JE244 (argsL := [(.ref a2)]) (rest := []) opd_26 rfl rfl rfl (by show 2 * 0 + _ ≤ _; exact Nat.le_of_eq rfl) (hb hby d19_2_68)
  obtain ⟨rfl, N254, K254, d254, k254, hd254, J254⟩ := hQ254
  have NN254 := Fr.app NN244 N254
  have KK254 : Keep h0 T254.heap [] := KK244.trans K254 (allS (Or.inr sz_b219) (allS (Or.inr sz_d244) all0))
  have H254 := CHv.keep K254 (sfS q253 (sfS q247 sf0)) H244
  have R254 := CHr.trans R244 (CHr.keep K254 (sfS q253 (sfS q247 sf0)) H244)
  refine os st254 ?_
  show OGo p e below _ T254 (mkF m 71 #[.val (.ref o), .val (.ref a1)] [(.ref b219)])
  obtain ⟨W254, hW254⟩ : ∃ z, z = W244 ++ vs := ⟨_, rfl⟩
  have lW254 : W254.length = 0 + 2 + 1 + own_w n + 2 + 2 := by rw [hW254, List.length_append, lW244, hvs]
  obtain ⟨z254, ez254⟩ : ∃ z, z = own_cap z244 (W244.length + vs.length) := ⟨_, rfl⟩
  have hz254 : z254 = 16 ∨ z254 = 34 := by rw [ez254]; exact own_capin hz244 (by rw [lW244, hvs]; omega)
  have hb254 : W254.length ≤ z254 := by rw [ez254, hW254, List.length_append]; exact own_cap_ge _ _
  rw [← ez254, ← hW254] at J254
  obtain ⟨JE254, JF254, JC254, JN254, JV254, JX254⟩ := J254
  have sz_d254 : h0.size ≤ d254 := hd254.elim (fun q => q ▸ sz_d244) (fun q => Nat.le_trans KK244.1 q)
  have nb254 : b219 ≠ d254 := JE254.neArv JV254 (own_g hw 94 rfl)
  have q255 := (q248.keep K254 (allS (Nat.le_trans Z0 sz_b219) (allS (Nat.le_trans Z0 sz_d244) all0)))
  obtain ⟨v256, T256, L256, X256, hQ256, st256⟩ := vcall X254 hx hZ240 hown240 (own_g hw 161 rfl) (own_g hw 162 rfl) (own_g hw 164 rfl) rfl (own_g hw 164 rfl) (own_g hw 163 rfl) (own_g hw 95 rfl) (own_g hw 165 rfl) (by decide) (W := 0) (rm_toS l Z a0 hw [] b219 d254 k254 z254 W254 zc wf n0 T254.heap SS' q255 ⟨JE254, JF254, JC254, JN254, JV254, JX254⟩ (by rcases hz254 with q | q <;> omega) hb254 (by rw [lW254]; omega)) rfl (by decide) (by decide) (by decide) (by decide) (g := (mkF m 71 #[.val (.ref o), .val (.ref a1)] [(.ref b219)])) rfl (by rw [hml]; rfl) JE254 (argsL := []) (rest := []) opd_28 rfl rfl rfl (by show 2 * 0 + _ ≤ _; exact Nat.le_of_eq rfl) (hb hby d19_2_71)
  obtain ⟨a256, r256, kr256, rfl, sa256, sr256, N256, K256, I256⟩ := hQ256
  have NN256 := Fr.app NN254 N256
  have KK256 : Keep h0 T256.heap [] := KK254.trans K256 all0
  have H256 := CHv.keep K256 sf0 H254
  have R256 := CHr.trans R254 (CHr.keep K256 sf0 H254)
  have sz_a256 : h0.size ≤ a256 := Nat.le_trans KK254.1 sa256
  have sz_r256 : h0.size ≤ r256 := Nat.le_trans KK254.1 sr256
  refine os st256 ?_
  show OGo p e below _ T256 (mkF m 74 #[.val (.ref o), .val (.ref a1)] [(.ref a256)])
  obtain ⟨IE256, IC256, IF256, IV256⟩ := I256
  have hWf : W254 = own_us n us vs := by rw [own_us, if_neg q]; rw [hW254, hW244, hW239, hW233, hW228]; simp only [List.nil_append, List.append_assoc]
  exact OGo.retH X256 hx hZ240 (own_hEL hw) hs0 rfl hS240 (Nat.le_trans (Nat.le_trans (Nat.le_trans hk240 K244.1) K254.1) K256.1) H256 R256 (t := (.object "java/lang/String")) hret hlk rfl (Or.inr (Or.inr (Or.inr (Or.inr ⟨rfl, rfl, rfl⟩)))) (hb hby d19_2_74) (by decide) (by decide) ⟨a256, r256, _, rfl, sz_a256, NN256, KK256, by rw [← hWf]; exact ⟨IE256, IC256, IF256, IV256⟩⟩
theorem d_method_3_0 : decode method_3_code 0 = .ok (.iload_n 0, 1) := by decide +kernel
theorem d_method_3_1 : decode method_3_code 1 = .ok (.bipush 10, 2) := by decide +kernel
theorem d_method_3_3 : decode method_3_code 3 = .ok (.if_icmp .ge 5, 3) := by decide +kernel
theorem d_method_3_6 : decode method_3_code 6 = .ok (.iconst 1, 1) := by decide +kernel
theorem d_method_3_7 : decode method_3_code 7 = .ok (.ireturn, 1) := by decide +kernel
theorem d_method_3_8 : decode method_3_code 8 = .ok (.iload_n 0, 1) := by decide +kernel
theorem d_method_3_9 : decode method_3_code 9 = .ok (.bipush 100, 2) := by decide +kernel
theorem d_method_3_11 : decode method_3_code 11 = .ok (.if_icmp .ge 5, 3) := by decide +kernel
theorem d_method_3_14 : decode method_3_code 14 = .ok (.iconst 2, 1) := by decide +kernel
theorem d_method_3_15 : decode method_3_code 15 = .ok (.ireturn, 1) := by decide +kernel
theorem d_method_3_16 : decode method_3_code 16 = .ok (.iload_n 0, 1) := by decide +kernel
theorem d_method_3_17 : decode method_3_code 17 = .ok (.sipush 1000, 3) := by decide +kernel
theorem d_method_3_20 : decode method_3_code 20 = .ok (.if_icmp .ge 5, 3) := by decide +kernel
theorem d_method_3_23 : decode method_3_code 23 = .ok (.iconst 3, 1) := by decide +kernel
theorem d_method_3_24 : decode method_3_code 24 = .ok (.ireturn, 1) := by decide +kernel
theorem d_method_3_25 : decode method_3_code 25 = .ok (.iload_n 0, 1) := by decide +kernel
theorem d_method_3_26 : decode method_3_code 26 = .ok (.sipush 10000, 3) := by decide +kernel
theorem d_method_3_29 : decode method_3_code 29 = .ok (.if_icmp .ge 5, 3) := by decide +kernel
theorem d_method_3_32 : decode method_3_code 32 = .ok (.iconst 4, 1) := by decide +kernel
theorem d_method_3_33 : decode method_3_code 33 = .ok (.ireturn, 1) := by decide +kernel
theorem d_method_3_34 : decode method_3_code 34 = .ok (.iload_n 0, 1) := by decide +kernel
theorem d_method_3_35 : decode method_3_code 35 = .ok (.ldc 40, 2) := by decide +kernel
theorem d_method_3_37 : decode method_3_code 37 = .ok (.if_icmp .ge 5, 3) := by decide +kernel
theorem d_method_3_40 : decode method_3_code 40 = .ok (.iconst 5, 1) := by decide +kernel
theorem d_method_3_41 : decode method_3_code 41 = .ok (.ireturn, 1) := by decide +kernel
theorem d_method_3_42 : decode method_3_code 42 = .ok (.iload_n 0, 1) := by decide +kernel
theorem d_method_3_43 : decode method_3_code 43 = .ok (.ldc 41, 2) := by decide +kernel
theorem d_method_3_45 : decode method_3_code 45 = .ok (.if_icmp .ge 6, 3) := by decide +kernel
theorem d_method_3_48 : decode method_3_code 48 = .ok (.bipush 6, 2) := by decide +kernel
theorem d_method_3_50 : decode method_3_code 50 = .ok (.ireturn, 1) := by decide +kernel
theorem d_method_3_51 : decode method_3_code 51 = .ok (.iload_n 0, 1) := by decide +kernel
theorem d_method_3_52 : decode method_3_code 52 = .ok (.ldc 42, 2) := by decide +kernel
theorem d_method_3_54 : decode method_3_code 54 = .ok (.if_icmp .ge 6, 3) := by decide +kernel
theorem d_method_3_57 : decode method_3_code 57 = .ok (.bipush 7, 2) := by decide +kernel
theorem d_method_3_59 : decode method_3_code 59 = .ok (.ireturn, 1) := by decide +kernel
theorem d_method_3_60 : decode method_3_code 60 = .ok (.iload_n 0, 1) := by decide +kernel
theorem d_method_3_61 : decode method_3_code 61 = .ok (.ldc 43, 2) := by decide +kernel
theorem d_method_3_63 : decode method_3_code 63 = .ok (.if_icmp .ge 6, 3) := by decide +kernel
theorem d_method_3_66 : decode method_3_code 66 = .ok (.bipush 8, 2) := by decide +kernel
theorem d_method_3_68 : decode method_3_code 68 = .ok (.ireturn, 1) := by decide +kernel
theorem d_method_3_69 : decode method_3_code 69 = .ok (.iload_n 0, 1) := by decide +kernel
theorem d_method_3_70 : decode method_3_code 70 = .ok (.ldc 44, 2) := by decide +kernel
theorem d_method_3_72 : decode method_3_code 72 = .ok (.if_icmp .ge 6, 3) := by decide +kernel
theorem d_method_3_75 : decode method_3_code 75 = .ok (.bipush 9, 2) := by decide +kernel
theorem d_method_3_77 : decode method_3_code 77 = .ok (.ireturn, 1) := by decide +kernel
theorem d_method_3_78 : decode method_3_code 78 = .ok (.bipush 10, 2) := by decide +kernel
theorem d_method_3_80 : decode method_3_code 80 = .ok (.ireturn, 1) := by decide +kernel
theorem opl_rm_dgs : plainFor (⟨"com/example/slackline/slackline/instance/InputExceptionDescribePinLaw", "digits", "(I)I"⟩ : MethodName) = true := plainFor_of_name (by first | (simp [plainName, overriddenIn]; done) | decide +kernel)
set_option maxRecDepth 65536 in
set_option maxHeartbeats 40000000 in
theorem rm_dgs (l : Launch) (Z : State) (a0 : Array Value) (hw : ∀ d ∈ tables_1, d.before a0 Z = true) (ws : List Jvm.Cond) (n : Nat) (h0 : Heap) (hn : n < 2147483648) :
    Con l Z (⟨"com/example/slackline/slackline/instance/InputExceptionDescribePinLaw", "digits", "(I)I"⟩ : MethodName) method_3_code 1 (some .int) ws ({ frames := 0, cells := 0, slots := 0, locals := 0 } : Room) #[(.int (Int32.ofNat n))] h0 (fun v h L => v = some (.int (Int32.ofNat (own_w n))) ∧ L = [] ∧ h = h0) := by
  refine Con.intro opl_rm_dgs ?_
  intro p e s m below meth c s₁ hx hby hml hown hret hlk hZ hnm X0 e0
  refine OGo.cast (g' := (mkF m 0 #[.val (.int (Int32.ofNat n))] [])) (by first | (simp [entryFrame, mkF, argsToLocals, Value.category]; done) | rfl) ?_
  show OGo p e below _ s₁ (mkF m 0 #[.val (.int (Int32.ofNat n))] [])
  refine os (fun _ k => XS.iloadN X0.here hx rfl (hb hby d_method_3_0) rfl k) ?_
  show OGo p e below _ s₁ (mkF m 1 #[.val (.int (Int32.ofNat n))] [(.int (Int32.ofNat n))])
  refine os (fun _ k => XS.bipush X0.here hx rfl (hb hby d_method_3_1) k) ?_
  show OGo p e below _ s₁ (mkF m 3 #[.val (.int (Int32.ofNat n))] [(.int (10 : Int32)), (.int (Int32.ofNat n))])
  have c1 : Int32.ofNat n < (10 : Int32) ↔ n < 10 := own_lt (b := 10) hn (by decide)
  by_cases q1 : n < 10
  case pos =>
    refine os (fun _ k => XS.icmpNo X0.here hx rfl (hb hby d_method_3_3) rfl (tlt (c1.mpr q1)).2.1 k) ?_
    show OGo p e below _ s₁ (mkF m 6 #[.val (.int (Int32.ofNat n))] [])
    refine os (fun _ k => XS.iconst X0.here hx rfl (hb hby d_method_3_6) k) ?_
    show OGo p e below _ s₁ (mkF m 7 #[.val (.int (Int32.ofNat n))] [(.int (1 : Int32))])
    exact OGo.ret X0 hx (t := .int) hret hlk rfl (Or.inl ⟨rfl, by simp, _, rfl⟩) (hb hby d_method_3_7) (by decide) (by decide) ⟨by rw [show own_w n = 1 from (by unfold own_w; (repeat' split) <;> omega)]; rfl, rfl, e0⟩
  refine os (fun _ k => XS.icmpYes X0.here hx rfl (pc0 := 3) (pc' := 8) rfl (hb hby d_method_3_3) rfl (flt (fun h => q1 (c1.mp h))).2.1 (by decide) (by decide) k) ?_
  show OGo p e below _ s₁ (mkF m 8 #[.val (.int (Int32.ofNat n))] [])
  refine os (fun _ k => XS.iloadN X0.here hx rfl (hb hby d_method_3_8) rfl k) ?_
  show OGo p e below _ s₁ (mkF m 9 #[.val (.int (Int32.ofNat n))] [(.int (Int32.ofNat n))])
  refine os (fun _ k => XS.bipush X0.here hx rfl (hb hby d_method_3_9) k) ?_
  show OGo p e below _ s₁ (mkF m 11 #[.val (.int (Int32.ofNat n))] [(.int (100 : Int32)), (.int (Int32.ofNat n))])
  have c2 : Int32.ofNat n < (100 : Int32) ↔ n < 100 := own_lt (b := 100) hn (by decide)
  by_cases q2 : n < 100
  case pos =>
    refine os (fun _ k => XS.icmpNo X0.here hx rfl (hb hby d_method_3_11) rfl (tlt (c2.mpr q2)).2.1 k) ?_
    show OGo p e below _ s₁ (mkF m 14 #[.val (.int (Int32.ofNat n))] [])
    refine os (fun _ k => XS.iconst X0.here hx rfl (hb hby d_method_3_14) k) ?_
    show OGo p e below _ s₁ (mkF m 15 #[.val (.int (Int32.ofNat n))] [(.int (2 : Int32))])
    exact OGo.ret X0 hx (t := .int) hret hlk rfl (Or.inl ⟨rfl, by simp, _, rfl⟩) (hb hby d_method_3_15) (by decide) (by decide) ⟨by rw [show own_w n = 2 from (by unfold own_w; (repeat' split) <;> omega)]; rfl, rfl, e0⟩
  refine os (fun _ k => XS.icmpYes X0.here hx rfl (pc0 := 11) (pc' := 16) rfl (hb hby d_method_3_11) rfl (flt (fun h => q2 (c2.mp h))).2.1 (by decide) (by decide) k) ?_
  show OGo p e below _ s₁ (mkF m 16 #[.val (.int (Int32.ofNat n))] [])
  refine os (fun _ k => XS.iloadN X0.here hx rfl (hb hby d_method_3_16) rfl k) ?_
  show OGo p e below _ s₁ (mkF m 17 #[.val (.int (Int32.ofNat n))] [(.int (Int32.ofNat n))])
  refine os (fun _ k => XS.sipush X0.here hx rfl (hb hby d_method_3_17) k) ?_
  show OGo p e below _ s₁ (mkF m 20 #[.val (.int (Int32.ofNat n))] [(.int (1000 : Int32)), (.int (Int32.ofNat n))])
  have c3 : Int32.ofNat n < (1000 : Int32) ↔ n < 1000 := own_lt (b := 1000) hn (by decide)
  by_cases q3 : n < 1000
  case pos =>
    refine os (fun _ k => XS.icmpNo X0.here hx rfl (hb hby d_method_3_20) rfl (tlt (c3.mpr q3)).2.1 k) ?_
    show OGo p e below _ s₁ (mkF m 23 #[.val (.int (Int32.ofNat n))] [])
    refine os (fun _ k => XS.iconst X0.here hx rfl (hb hby d_method_3_23) k) ?_
    show OGo p e below _ s₁ (mkF m 24 #[.val (.int (Int32.ofNat n))] [(.int (3 : Int32))])
    exact OGo.ret X0 hx (t := .int) hret hlk rfl (Or.inl ⟨rfl, by simp, _, rfl⟩) (hb hby d_method_3_24) (by decide) (by decide) ⟨by rw [show own_w n = 3 from (by unfold own_w; (repeat' split) <;> omega)]; rfl, rfl, e0⟩
  refine os (fun _ k => XS.icmpYes X0.here hx rfl (pc0 := 20) (pc' := 25) rfl (hb hby d_method_3_20) rfl (flt (fun h => q3 (c3.mp h))).2.1 (by decide) (by decide) k) ?_
  show OGo p e below _ s₁ (mkF m 25 #[.val (.int (Int32.ofNat n))] [])
  refine os (fun _ k => XS.iloadN X0.here hx rfl (hb hby d_method_3_25) rfl k) ?_
  show OGo p e below _ s₁ (mkF m 26 #[.val (.int (Int32.ofNat n))] [(.int (Int32.ofNat n))])
  refine os (fun _ k => XS.sipush X0.here hx rfl (hb hby d_method_3_26) k) ?_
  show OGo p e below _ s₁ (mkF m 29 #[.val (.int (Int32.ofNat n))] [(.int (10000 : Int32)), (.int (Int32.ofNat n))])
  have c4 : Int32.ofNat n < (10000 : Int32) ↔ n < 10000 := own_lt (b := 10000) hn (by decide)
  by_cases q4 : n < 10000
  case pos =>
    refine os (fun _ k => XS.icmpNo X0.here hx rfl (hb hby d_method_3_29) rfl (tlt (c4.mpr q4)).2.1 k) ?_
    show OGo p e below _ s₁ (mkF m 32 #[.val (.int (Int32.ofNat n))] [])
    refine os (fun _ k => XS.iconst X0.here hx rfl (hb hby d_method_3_32) k) ?_
    show OGo p e below _ s₁ (mkF m 33 #[.val (.int (Int32.ofNat n))] [(.int (4 : Int32))])
    exact OGo.ret X0 hx (t := .int) hret hlk rfl (Or.inl ⟨rfl, by simp, _, rfl⟩) (hb hby d_method_3_33) (by decide) (by decide) ⟨by rw [show own_w n = 4 from (by unfold own_w; (repeat' split) <;> omega)]; rfl, rfl, e0⟩
  refine os (fun _ k => XS.icmpYes X0.here hx rfl (pc0 := 29) (pc' := 34) rfl (hb hby d_method_3_29) rfl (flt (fun h => q4 (c4.mp h))).2.1 (by decide) (by decide) k) ?_
  show OGo p e below _ s₁ (mkF m 34 #[.val (.int (Int32.ofNat n))] [])
  refine os (fun _ k => XS.iloadN X0.here hx rfl (hb hby d_method_3_34) rfl k) ?_
  show OGo p e below _ s₁ (mkF m 35 #[.val (.int (Int32.ofNat n))] [(.int (Int32.ofNat n))])
  refine os (fun _ k => Jvm.Stand.ldcI X0 hx hown (mvT hZ (own_g hw 297 rfl)) rfl (hb hby d_method_3_35) k) ?_
  show OGo p e below _ s₁ (mkF m 37 #[.val (.int (Int32.ofNat n))] [(.int (100000 : Int32)), (.int (Int32.ofNat n))])
  have c5 : Int32.ofNat n < (100000 : Int32) ↔ n < 100000 := own_lt (b := 100000) hn (by decide)
  by_cases q5 : n < 100000
  case pos =>
    refine os (fun _ k => XS.icmpNo X0.here hx rfl (hb hby d_method_3_37) rfl (tlt (c5.mpr q5)).2.1 k) ?_
    show OGo p e below _ s₁ (mkF m 40 #[.val (.int (Int32.ofNat n))] [])
    refine os (fun _ k => XS.iconst X0.here hx rfl (hb hby d_method_3_40) k) ?_
    show OGo p e below _ s₁ (mkF m 41 #[.val (.int (Int32.ofNat n))] [(.int (5 : Int32))])
    exact OGo.ret X0 hx (t := .int) hret hlk rfl (Or.inl ⟨rfl, by simp, _, rfl⟩) (hb hby d_method_3_41) (by decide) (by decide) ⟨by rw [show own_w n = 5 from (by unfold own_w; (repeat' split) <;> omega)]; rfl, rfl, e0⟩
  refine os (fun _ k => XS.icmpYes X0.here hx rfl (pc0 := 37) (pc' := 42) rfl (hb hby d_method_3_37) rfl (flt (fun h => q5 (c5.mp h))).2.1 (by decide) (by decide) k) ?_
  show OGo p e below _ s₁ (mkF m 42 #[.val (.int (Int32.ofNat n))] [])
  refine os (fun _ k => XS.iloadN X0.here hx rfl (hb hby d_method_3_42) rfl k) ?_
  show OGo p e below _ s₁ (mkF m 43 #[.val (.int (Int32.ofNat n))] [(.int (Int32.ofNat n))])
  refine os (fun _ k => Jvm.Stand.ldcI X0 hx hown (mvT hZ (own_g hw 298 rfl)) rfl (hb hby d_method_3_43) k) ?_
  show OGo p e below _ s₁ (mkF m 45 #[.val (.int (Int32.ofNat n))] [(.int (1000000 : Int32)), (.int (Int32.ofNat n))])
  have c6 : Int32.ofNat n < (1000000 : Int32) ↔ n < 1000000 := own_lt (b := 1000000) hn (by decide)
  by_cases q6 : n < 1000000
  case pos =>
    refine os (fun _ k => XS.icmpNo X0.here hx rfl (hb hby d_method_3_45) rfl (tlt (c6.mpr q6)).2.1 k) ?_
    show OGo p e below _ s₁ (mkF m 48 #[.val (.int (Int32.ofNat n))] [])
    refine os (fun _ k => XS.bipush X0.here hx rfl (hb hby d_method_3_48) k) ?_
    show OGo p e below _ s₁ (mkF m 50 #[.val (.int (Int32.ofNat n))] [(.int (6 : Int32))])
    exact OGo.ret X0 hx (t := .int) hret hlk rfl (Or.inl ⟨rfl, by simp, _, rfl⟩) (hb hby d_method_3_50) (by decide) (by decide) ⟨by rw [show own_w n = 6 from (by unfold own_w; (repeat' split) <;> omega)]; rfl, rfl, e0⟩
  refine os (fun _ k => XS.icmpYes X0.here hx rfl (pc0 := 45) (pc' := 51) rfl (hb hby d_method_3_45) rfl (flt (fun h => q6 (c6.mp h))).2.1 (by decide) (by decide) k) ?_
  show OGo p e below _ s₁ (mkF m 51 #[.val (.int (Int32.ofNat n))] [])
  refine os (fun _ k => XS.iloadN X0.here hx rfl (hb hby d_method_3_51) rfl k) ?_
  show OGo p e below _ s₁ (mkF m 52 #[.val (.int (Int32.ofNat n))] [(.int (Int32.ofNat n))])
  refine os (fun _ k => Jvm.Stand.ldcI X0 hx hown (mvT hZ (own_g hw 299 rfl)) rfl (hb hby d_method_3_52) k) ?_
  show OGo p e below _ s₁ (mkF m 54 #[.val (.int (Int32.ofNat n))] [(.int (10000000 : Int32)), (.int (Int32.ofNat n))])
  have c7 : Int32.ofNat n < (10000000 : Int32) ↔ n < 10000000 := own_lt (b := 10000000) hn (by decide)
  by_cases q7 : n < 10000000
  case pos =>
    refine os (fun _ k => XS.icmpNo X0.here hx rfl (hb hby d_method_3_54) rfl (tlt (c7.mpr q7)).2.1 k) ?_
    show OGo p e below _ s₁ (mkF m 57 #[.val (.int (Int32.ofNat n))] [])
    refine os (fun _ k => XS.bipush X0.here hx rfl (hb hby d_method_3_57) k) ?_
    show OGo p e below _ s₁ (mkF m 59 #[.val (.int (Int32.ofNat n))] [(.int (7 : Int32))])
    exact OGo.ret X0 hx (t := .int) hret hlk rfl (Or.inl ⟨rfl, by simp, _, rfl⟩) (hb hby d_method_3_59) (by decide) (by decide) ⟨by rw [show own_w n = 7 from (by unfold own_w; (repeat' split) <;> omega)]; rfl, rfl, e0⟩
  refine os (fun _ k => XS.icmpYes X0.here hx rfl (pc0 := 54) (pc' := 60) rfl (hb hby d_method_3_54) rfl (flt (fun h => q7 (c7.mp h))).2.1 (by decide) (by decide) k) ?_
  show OGo p e below _ s₁ (mkF m 60 #[.val (.int (Int32.ofNat n))] [])
  refine os (fun _ k => XS.iloadN X0.here hx rfl (hb hby d_method_3_60) rfl k) ?_
  show OGo p e below _ s₁ (mkF m 61 #[.val (.int (Int32.ofNat n))] [(.int (Int32.ofNat n))])
  refine os (fun _ k => Jvm.Stand.ldcI X0 hx hown (mvT hZ (own_g hw 300 rfl)) rfl (hb hby d_method_3_61) k) ?_
  show OGo p e below _ s₁ (mkF m 63 #[.val (.int (Int32.ofNat n))] [(.int (100000000 : Int32)), (.int (Int32.ofNat n))])
  have c8 : Int32.ofNat n < (100000000 : Int32) ↔ n < 100000000 := own_lt (b := 100000000) hn (by decide)
  by_cases q8 : n < 100000000
  case pos =>
    refine os (fun _ k => XS.icmpNo X0.here hx rfl (hb hby d_method_3_63) rfl (tlt (c8.mpr q8)).2.1 k) ?_
    show OGo p e below _ s₁ (mkF m 66 #[.val (.int (Int32.ofNat n))] [])
    refine os (fun _ k => XS.bipush X0.here hx rfl (hb hby d_method_3_66) k) ?_
    show OGo p e below _ s₁ (mkF m 68 #[.val (.int (Int32.ofNat n))] [(.int (8 : Int32))])
    exact OGo.ret X0 hx (t := .int) hret hlk rfl (Or.inl ⟨rfl, by simp, _, rfl⟩) (hb hby d_method_3_68) (by decide) (by decide) ⟨by rw [show own_w n = 8 from (by unfold own_w; (repeat' split) <;> omega)]; rfl, rfl, e0⟩
  refine os (fun _ k => XS.icmpYes X0.here hx rfl (pc0 := 63) (pc' := 69) rfl (hb hby d_method_3_63) rfl (flt (fun h => q8 (c8.mp h))).2.1 (by decide) (by decide) k) ?_
  show OGo p e below _ s₁ (mkF m 69 #[.val (.int (Int32.ofNat n))] [])
  refine os (fun _ k => XS.iloadN X0.here hx rfl (hb hby d_method_3_69) rfl k) ?_
  show OGo p e below _ s₁ (mkF m 70 #[.val (.int (Int32.ofNat n))] [(.int (Int32.ofNat n))])
  refine os (fun _ k => Jvm.Stand.ldcI X0 hx hown (mvT hZ (own_g hw 301 rfl)) rfl (hb hby d_method_3_70) k) ?_
  show OGo p e below _ s₁ (mkF m 72 #[.val (.int (Int32.ofNat n))] [(.int (1000000000 : Int32)), (.int (Int32.ofNat n))])
  have c9 : Int32.ofNat n < (1000000000 : Int32) ↔ n < 1000000000 := own_lt (b := 1000000000) hn (by decide)
  by_cases q9 : n < 1000000000
  case pos =>
    refine os (fun _ k => XS.icmpNo X0.here hx rfl (hb hby d_method_3_72) rfl (tlt (c9.mpr q9)).2.1 k) ?_
    show OGo p e below _ s₁ (mkF m 75 #[.val (.int (Int32.ofNat n))] [])
    refine os (fun _ k => XS.bipush X0.here hx rfl (hb hby d_method_3_75) k) ?_
    show OGo p e below _ s₁ (mkF m 77 #[.val (.int (Int32.ofNat n))] [(.int (9 : Int32))])
    exact OGo.ret X0 hx (t := .int) hret hlk rfl (Or.inl ⟨rfl, by simp, _, rfl⟩) (hb hby d_method_3_77) (by decide) (by decide) ⟨by rw [show own_w n = 9 from (by unfold own_w; (repeat' split) <;> omega)]; rfl, rfl, e0⟩
  refine os (fun _ k => XS.icmpYes X0.here hx rfl (pc0 := 72) (pc' := 78) rfl (hb hby d_method_3_72) rfl (flt (fun h => q9 (c9.mp h))).2.1 (by decide) (by decide) k) ?_
  show OGo p e below _ s₁ (mkF m 78 #[.val (.int (Int32.ofNat n))] [])
  refine os (fun _ k => XS.bipush X0.here hx rfl (hb hby d_method_3_78) k) ?_
  show OGo p e below _ s₁ (mkF m 80 #[.val (.int (Int32.ofNat n))] [(.int (10 : Int32))])
  exact OGo.ret X0 hx (t := .int) hret hlk rfl (Or.inl ⟨rfl, by simp, _, rfl⟩) (hb hby d_method_3_80) (by decide) (by decide) ⟨by rw [show own_w n = 10 from (by unfold own_w; (repeat' split) <;> omega)]; rfl, rfl, e0⟩
theorem d_method_4_0 : decode method_4_code 0 = .ok (.bipush 10, 2) := by decide +kernel
theorem d_method_4_2 : decode method_4_code 2 = .ok (.newarray .long, 2) := by decide +kernel
theorem d_method_4_4 : decode method_4_code 4 = .ok (.dup, 1) := by decide +kernel
theorem d_method_4_5 : decode method_4_code 5 = .ok (.iconst 0, 1) := by decide +kernel
theorem d_method_4_6 : decode method_4_code 6 = .ok (.lconst 1, 1) := by decide +kernel
theorem d_method_4_7 : decode method_4_code 7 = .ok (.lastore, 1) := by decide +kernel
theorem d_method_4_8 : decode method_4_code 8 = .ok (.dup, 1) := by decide +kernel
theorem d_method_4_9 : decode method_4_code 9 = .ok (.iconst 1, 1) := by decide +kernel
theorem d_method_4_10 : decode method_4_code 10 = .ok (.ldc2_w 45, 3) := by decide +kernel
theorem d_method_4_13 : decode method_4_code 13 = .ok (.lastore, 1) := by decide +kernel
theorem d_method_4_14 : decode method_4_code 14 = .ok (.dup, 1) := by decide +kernel
theorem d_method_4_15 : decode method_4_code 15 = .ok (.iconst 2, 1) := by decide +kernel
theorem d_method_4_16 : decode method_4_code 16 = .ok (.ldc2_w 47, 3) := by decide +kernel
theorem d_method_4_19 : decode method_4_code 19 = .ok (.lastore, 1) := by decide +kernel
theorem d_method_4_20 : decode method_4_code 20 = .ok (.dup, 1) := by decide +kernel
theorem d_method_4_21 : decode method_4_code 21 = .ok (.iconst 3, 1) := by decide +kernel
theorem d_method_4_22 : decode method_4_code 22 = .ok (.ldc2_w 49, 3) := by decide +kernel
theorem d_method_4_25 : decode method_4_code 25 = .ok (.lastore, 1) := by decide +kernel
theorem d_method_4_26 : decode method_4_code 26 = .ok (.dup, 1) := by decide +kernel
theorem d_method_4_27 : decode method_4_code 27 = .ok (.iconst 4, 1) := by decide +kernel
theorem d_method_4_28 : decode method_4_code 28 = .ok (.ldc2_w 51, 3) := by decide +kernel
theorem d_method_4_31 : decode method_4_code 31 = .ok (.lastore, 1) := by decide +kernel
theorem d_method_4_32 : decode method_4_code 32 = .ok (.dup, 1) := by decide +kernel
theorem d_method_4_33 : decode method_4_code 33 = .ok (.iconst 5, 1) := by decide +kernel
theorem d_method_4_34 : decode method_4_code 34 = .ok (.ldc2_w 53, 3) := by decide +kernel
theorem d_method_4_37 : decode method_4_code 37 = .ok (.lastore, 1) := by decide +kernel
theorem d_method_4_38 : decode method_4_code 38 = .ok (.dup, 1) := by decide +kernel
theorem d_method_4_39 : decode method_4_code 39 = .ok (.bipush 6, 2) := by decide +kernel
theorem d_method_4_41 : decode method_4_code 41 = .ok (.ldc2_w 55, 3) := by decide +kernel
theorem d_method_4_44 : decode method_4_code 44 = .ok (.lastore, 1) := by decide +kernel
theorem d_method_4_45 : decode method_4_code 45 = .ok (.dup, 1) := by decide +kernel
theorem d_method_4_46 : decode method_4_code 46 = .ok (.bipush 7, 2) := by decide +kernel
theorem d_method_4_48 : decode method_4_code 48 = .ok (.ldc2_w 57, 3) := by decide +kernel
theorem d_method_4_51 : decode method_4_code 51 = .ok (.lastore, 1) := by decide +kernel
theorem d_method_4_52 : decode method_4_code 52 = .ok (.dup, 1) := by decide +kernel
theorem d_method_4_53 : decode method_4_code 53 = .ok (.bipush 8, 2) := by decide +kernel
theorem d_method_4_55 : decode method_4_code 55 = .ok (.ldc2_w 59, 3) := by decide +kernel
theorem d_method_4_58 : decode method_4_code 58 = .ok (.lastore, 1) := by decide +kernel
theorem d_method_4_59 : decode method_4_code 59 = .ok (.dup, 1) := by decide +kernel
theorem d_method_4_60 : decode method_4_code 60 = .ok (.bipush 9, 2) := by decide +kernel
theorem d_method_4_62 : decode method_4_code 62 = .ok (.ldc2_w 61, 3) := by decide +kernel
theorem d_method_4_65 : decode method_4_code 65 = .ok (.lastore, 1) := by decide +kernel
theorem d_method_4_66 : decode method_4_code 66 = .ok (.astore_n 1, 1) := by decide +kernel
theorem d_method_4_67 : decode method_4_code 67 = .ok (.aload_n 1, 1) := by decide +kernel
theorem d_method_4_68 : decode method_4_code 68 = .ok (.iload_n 0, 1) := by decide +kernel
theorem d_method_4_69 : decode method_4_code 69 = .ok (.laload, 1) := by decide +kernel
theorem d_method_4_70 : decode method_4_code 70 = .ok (.lreturn, 1) := by decide +kernel
theorem opl_rm_p10 : plainFor (⟨"com/example/slackline/slackline/instance/InputExceptionDescribePinLaw", "pow10", "(I)J"⟩ : MethodName) = true := plainFor_of_name (by first | (simp [plainName, overriddenIn]; done) | decide +kernel)
set_option maxRecDepth 65536 in
set_option maxHeartbeats 40000000 in
theorem rm_p10 (l : Launch) (Z : State) (a0 : Array Value) (hw : ∀ d ∈ tables_1, d.before a0 Z = true) (ws : List Jvm.Cond) (ex : Nat) (zc : Int32) (wf : Value) (n0 : Nat) (h0 : Heap) (SS : own_SS Z zc wf) (O : Old Z n0 h0) (he : ex ≤ 9) :
    Con l Z (⟨"com/example/slackline/slackline/instance/InputExceptionDescribePinLaw", "pow10", "(I)J"⟩ : MethodName) method_4_code 2 (some .long) ws ({ frames := 0, cells := 1, slots := 10, locals := 0 } : Room) #[(.int (Int32.ofNat ex))] h0 (fun v h L => v = some (.long (Int64.ofNat (10 ^ ex))) ∧ Fr n0 L ∧ Keep h0 h []) := by
  refine Con.intro opl_rm_p10 ?_
  intro p e s m below meth c s₁ hx hby hml hown hret hlk hZ hnm X0 e0
  obtain ⟨hzc, SC, hwf, SF⟩ := SS
  have Z0 : n0 ≤ h0.size := O.1 ▸ O.2.1
  have N0 := Fr.nil n0
  refine OGo.cast (g' := (mkF m 0 #[.val (.int (Int32.ofNat ex)), .unset] [])) (by first | (simp [entryFrame, mkF, argsToLocals, Value.category]; done) | rfl) ?_
  show OGo p e below _ s₁ (mkF m 0 #[.val (.int (Int32.ofNat ex)), .unset] [])
  refine os (fun _ k => XS.bipush X0.here hx rfl (hb hby d_method_4_0) k) ?_
  show OGo p e below _ s₁ (mkF m 2 #[.val (.int (Int32.ofNat ex)), .unset] [(.int (10 : Int32))])
  obtain ⟨T257, h257, k257, X257, e257, E257, A257, AE257, st257⟩ := newPE X0 hx hZ (own_g hw 260 rfl) e0 (g := (mkF m 2 #[.val (.int (Int32.ofNat ex)), .unset] [(.int (10 : Int32))])) rfl (hb hby d_method_4_2) rfl (by decide) (cap := 10) (by decide) (by decide) (by decide) (by decide) (ad := "[J") (by decide)
  obtain ⟨b257, g257⟩ : ∃ z, z = h0.size := ⟨_, rfl⟩
  rw [← g257] at A257 AE257 st257
  have sz_b257 : h0.size ≤ b257 := Nat.le_trans (Keep.refl h0 []).1 (Nat.le_of_eq g257.symm)
  have KK257 : Keep h0 h257 [] := (Keep.refl h0 []).ext E257
  have V257 : Arv Z h257 b257 k257 .long (10 : Int32) [(.long (0 : Int64)), (.long (0 : Int64)), (.long (0 : Int64)), (.long (0 : Int64)), (.long (0 : Int64)), (.long (0 : Int64)), (.long (0 : Int64)), (.long (0 : Int64)), (.long (0 : Int64)), (.long (0 : Int64))] (.long (0 : Int64)) := (Arv.new A257 (by decide)).pad (pad_rep [] (.long (0 : Int64)) 10)
  refine os st257 ?_
  show OGo p e below _ T257 (mkF m 4 #[.val (.int (Int32.ofNat ex)), .unset] [(.ref b257)])
  refine os (fun _ k => XS.dup X257.here hx rfl (hb hby d_method_4_4) rfl rfl k) ?_
  show OGo p e below _ T257 (mkF m 5 #[.val (.int (Int32.ofNat ex)), .unset] [(.ref b257), (.ref b257)])
  refine os (fun _ k => XS.iconst X257.here hx rfl (hb hby d_method_4_5) k) ?_
  show OGo p e below _ T257 (mkF m 6 #[.val (.int (Int32.ofNat ex)), .unset] [(.int (0 : Int32)), (.ref b257), (.ref b257)])
  refine os (fun _ k => XS.lconst X257.here hx rfl (hb hby d_method_4_6) k) ?_
  show OGo p e below _ T257 (mkF m 7 #[.val (.int (Int32.ofNat ex)), .unset] [(.long (1 : Int64)), (.int (0 : Int32)), (.ref b257), (.ref b257)])
  obtain ⟨T258, h258, X258, e258, W258, Vq258, st258⟩ := lastoreV X257 hx hZ e257 V257 (j := (0 : Int32)) ⟨by decide, by decide⟩ (by decide) (g := (mkF m 7 #[.val (.int (Int32.ofNat ex)), .unset] [(.long (1 : Int64)), (.int (0 : Int32)), (.ref b257), (.ref b257)])) rfl rfl (hb hby d_method_4_7)
  have N258 := Fr.snoc X258 N0 (Nat.le_trans Z0 sz_b257)
  have KK258 : Keep h0 h258 [] := KK257.wr W258 (Or.inr sz_b257)
  have V258 : Arv Z h258 b257 k257 .long (10 : Int32) [(.long (1 : Int64)), (.long (0 : Int64)), (.long (0 : Int64)), (.long (0 : Int64)), (.long (0 : Int64)), (.long (0 : Int64)), (.long (0 : Int64)), (.long (0 : Int64)), (.long (0 : Int64)), (.long (0 : Int64))] (.long (0 : Int64)) := Vq258
  refine os st258 ?_
  show OGo p e below _ T258 (mkF m 8 #[.val (.int (Int32.ofNat ex)), .unset] [(.ref b257)])
  refine os (fun _ k => XS.dup X258.here hx rfl (hb hby d_method_4_8) rfl rfl k) ?_
  show OGo p e below _ T258 (mkF m 9 #[.val (.int (Int32.ofNat ex)), .unset] [(.ref b257), (.ref b257)])
  refine os (fun _ k => XS.iconst X258.here hx rfl (hb hby d_method_4_9) k) ?_
  show OGo p e below _ T258 (mkF m 10 #[.val (.int (Int32.ofNat ex)), .unset] [(.int (1 : Int32)), (.ref b257), (.ref b257)])
  refine os (fun _ k => Jvm.Stand.ldc2J X258 hx hown (mvT hZ (own_g hw 261 rfl)) rfl (hb hby d_method_4_10) k) ?_
  show OGo p e below _ T258 (mkF m 13 #[.val (.int (Int32.ofNat ex)), .unset] [(.long (10 : Int64)), (.int (1 : Int32)), (.ref b257), (.ref b257)])
  obtain ⟨T259, h259, X259, e259, W259, Vq259, st259⟩ := lastoreV X258 hx hZ e258 V258 (j := (1 : Int32)) ⟨by decide, by decide⟩ (by decide) (g := (mkF m 13 #[.val (.int (Int32.ofNat ex)), .unset] [(.long (10 : Int64)), (.int (1 : Int32)), (.ref b257), (.ref b257)])) rfl rfl (hb hby d_method_4_13)
  have N259 := Fr.snoc X259 N258 (Nat.le_trans Z0 sz_b257)
  have KK259 : Keep h0 h259 [] := KK258.wr W259 (Or.inr sz_b257)
  have V259 : Arv Z h259 b257 k257 .long (10 : Int32) [(.long (1 : Int64)), (.long (10 : Int64)), (.long (0 : Int64)), (.long (0 : Int64)), (.long (0 : Int64)), (.long (0 : Int64)), (.long (0 : Int64)), (.long (0 : Int64)), (.long (0 : Int64)), (.long (0 : Int64))] (.long (0 : Int64)) := Vq259
  refine os st259 ?_
  show OGo p e below _ T259 (mkF m 14 #[.val (.int (Int32.ofNat ex)), .unset] [(.ref b257)])
  refine os (fun _ k => XS.dup X259.here hx rfl (hb hby d_method_4_14) rfl rfl k) ?_
  show OGo p e below _ T259 (mkF m 15 #[.val (.int (Int32.ofNat ex)), .unset] [(.ref b257), (.ref b257)])
  refine os (fun _ k => XS.iconst X259.here hx rfl (hb hby d_method_4_15) k) ?_
  show OGo p e below _ T259 (mkF m 16 #[.val (.int (Int32.ofNat ex)), .unset] [(.int (2 : Int32)), (.ref b257), (.ref b257)])
  refine os (fun _ k => Jvm.Stand.ldc2J X259 hx hown (mvT hZ (own_g hw 262 rfl)) rfl (hb hby d_method_4_16) k) ?_
  show OGo p e below _ T259 (mkF m 19 #[.val (.int (Int32.ofNat ex)), .unset] [(.long (100 : Int64)), (.int (2 : Int32)), (.ref b257), (.ref b257)])
  obtain ⟨T260, h260, X260, e260, W260, Vq260, st260⟩ := lastoreV X259 hx hZ e259 V259 (j := (2 : Int32)) ⟨by decide, by decide⟩ (by decide) (g := (mkF m 19 #[.val (.int (Int32.ofNat ex)), .unset] [(.long (100 : Int64)), (.int (2 : Int32)), (.ref b257), (.ref b257)])) rfl rfl (hb hby d_method_4_19)
  have N260 := Fr.snoc X260 N259 (Nat.le_trans Z0 sz_b257)
  have KK260 : Keep h0 h260 [] := KK259.wr W260 (Or.inr sz_b257)
  have V260 : Arv Z h260 b257 k257 .long (10 : Int32) [(.long (1 : Int64)), (.long (10 : Int64)), (.long (100 : Int64)), (.long (0 : Int64)), (.long (0 : Int64)), (.long (0 : Int64)), (.long (0 : Int64)), (.long (0 : Int64)), (.long (0 : Int64)), (.long (0 : Int64))] (.long (0 : Int64)) := Vq260
  refine os st260 ?_
  show OGo p e below _ T260 (mkF m 20 #[.val (.int (Int32.ofNat ex)), .unset] [(.ref b257)])
  refine os (fun _ k => XS.dup X260.here hx rfl (hb hby d_method_4_20) rfl rfl k) ?_
  show OGo p e below _ T260 (mkF m 21 #[.val (.int (Int32.ofNat ex)), .unset] [(.ref b257), (.ref b257)])
  refine os (fun _ k => XS.iconst X260.here hx rfl (hb hby d_method_4_21) k) ?_
  show OGo p e below _ T260 (mkF m 22 #[.val (.int (Int32.ofNat ex)), .unset] [(.int (3 : Int32)), (.ref b257), (.ref b257)])
  refine os (fun _ k => Jvm.Stand.ldc2J X260 hx hown (mvT hZ (own_g hw 263 rfl)) rfl (hb hby d_method_4_22) k) ?_
  show OGo p e below _ T260 (mkF m 25 #[.val (.int (Int32.ofNat ex)), .unset] [(.long (1000 : Int64)), (.int (3 : Int32)), (.ref b257), (.ref b257)])
  obtain ⟨T261, h261, X261, e261, W261, Vq261, st261⟩ := lastoreV X260 hx hZ e260 V260 (j := (3 : Int32)) ⟨by decide, by decide⟩ (by decide) (g := (mkF m 25 #[.val (.int (Int32.ofNat ex)), .unset] [(.long (1000 : Int64)), (.int (3 : Int32)), (.ref b257), (.ref b257)])) rfl rfl (hb hby d_method_4_25)
  have N261 := Fr.snoc X261 N260 (Nat.le_trans Z0 sz_b257)
  have KK261 : Keep h0 h261 [] := KK260.wr W261 (Or.inr sz_b257)
  have V261 : Arv Z h261 b257 k257 .long (10 : Int32) [(.long (1 : Int64)), (.long (10 : Int64)), (.long (100 : Int64)), (.long (1000 : Int64)), (.long (0 : Int64)), (.long (0 : Int64)), (.long (0 : Int64)), (.long (0 : Int64)), (.long (0 : Int64)), (.long (0 : Int64))] (.long (0 : Int64)) := Vq261
  refine os st261 ?_
  show OGo p e below _ T261 (mkF m 26 #[.val (.int (Int32.ofNat ex)), .unset] [(.ref b257)])
  refine os (fun _ k => XS.dup X261.here hx rfl (hb hby d_method_4_26) rfl rfl k) ?_
  show OGo p e below _ T261 (mkF m 27 #[.val (.int (Int32.ofNat ex)), .unset] [(.ref b257), (.ref b257)])
  refine os (fun _ k => XS.iconst X261.here hx rfl (hb hby d_method_4_27) k) ?_
  show OGo p e below _ T261 (mkF m 28 #[.val (.int (Int32.ofNat ex)), .unset] [(.int (4 : Int32)), (.ref b257), (.ref b257)])
  refine os (fun _ k => Jvm.Stand.ldc2J X261 hx hown (mvT hZ (own_g hw 264 rfl)) rfl (hb hby d_method_4_28) k) ?_
  show OGo p e below _ T261 (mkF m 31 #[.val (.int (Int32.ofNat ex)), .unset] [(.long (10000 : Int64)), (.int (4 : Int32)), (.ref b257), (.ref b257)])
  obtain ⟨T262, h262, X262, e262, W262, Vq262, st262⟩ := lastoreV X261 hx hZ e261 V261 (j := (4 : Int32)) ⟨by decide, by decide⟩ (by decide) (g := (mkF m 31 #[.val (.int (Int32.ofNat ex)), .unset] [(.long (10000 : Int64)), (.int (4 : Int32)), (.ref b257), (.ref b257)])) rfl rfl (hb hby d_method_4_31)
  have N262 := Fr.snoc X262 N261 (Nat.le_trans Z0 sz_b257)
  have KK262 : Keep h0 h262 [] := KK261.wr W262 (Or.inr sz_b257)
  have V262 : Arv Z h262 b257 k257 .long (10 : Int32) [(.long (1 : Int64)), (.long (10 : Int64)), (.long (100 : Int64)), (.long (1000 : Int64)), (.long (10000 : Int64)), (.long (0 : Int64)), (.long (0 : Int64)), (.long (0 : Int64)), (.long (0 : Int64)), (.long (0 : Int64))] (.long (0 : Int64)) := Vq262
  refine os st262 ?_
  show OGo p e below _ T262 (mkF m 32 #[.val (.int (Int32.ofNat ex)), .unset] [(.ref b257)])
  refine os (fun _ k => XS.dup X262.here hx rfl (hb hby d_method_4_32) rfl rfl k) ?_
  show OGo p e below _ T262 (mkF m 33 #[.val (.int (Int32.ofNat ex)), .unset] [(.ref b257), (.ref b257)])
  refine os (fun _ k => XS.iconst X262.here hx rfl (hb hby d_method_4_33) k) ?_
  show OGo p e below _ T262 (mkF m 34 #[.val (.int (Int32.ofNat ex)), .unset] [(.int (5 : Int32)), (.ref b257), (.ref b257)])
  refine os (fun _ k => Jvm.Stand.ldc2J X262 hx hown (mvT hZ (own_g hw 265 rfl)) rfl (hb hby d_method_4_34) k) ?_
  show OGo p e below _ T262 (mkF m 37 #[.val (.int (Int32.ofNat ex)), .unset] [(.long (100000 : Int64)), (.int (5 : Int32)), (.ref b257), (.ref b257)])
  obtain ⟨T263, h263, X263, e263, W263, Vq263, st263⟩ := lastoreV X262 hx hZ e262 V262 (j := (5 : Int32)) ⟨by decide, by decide⟩ (by decide) (g := (mkF m 37 #[.val (.int (Int32.ofNat ex)), .unset] [(.long (100000 : Int64)), (.int (5 : Int32)), (.ref b257), (.ref b257)])) rfl rfl (hb hby d_method_4_37)
  have N263 := Fr.snoc X263 N262 (Nat.le_trans Z0 sz_b257)
  have KK263 : Keep h0 h263 [] := KK262.wr W263 (Or.inr sz_b257)
  have V263 : Arv Z h263 b257 k257 .long (10 : Int32) [(.long (1 : Int64)), (.long (10 : Int64)), (.long (100 : Int64)), (.long (1000 : Int64)), (.long (10000 : Int64)), (.long (100000 : Int64)), (.long (0 : Int64)), (.long (0 : Int64)), (.long (0 : Int64)), (.long (0 : Int64))] (.long (0 : Int64)) := Vq263
  refine os st263 ?_
  show OGo p e below _ T263 (mkF m 38 #[.val (.int (Int32.ofNat ex)), .unset] [(.ref b257)])
  refine os (fun _ k => XS.dup X263.here hx rfl (hb hby d_method_4_38) rfl rfl k) ?_
  show OGo p e below _ T263 (mkF m 39 #[.val (.int (Int32.ofNat ex)), .unset] [(.ref b257), (.ref b257)])
  refine os (fun _ k => XS.bipush X263.here hx rfl (hb hby d_method_4_39) k) ?_
  show OGo p e below _ T263 (mkF m 41 #[.val (.int (Int32.ofNat ex)), .unset] [(.int (6 : Int32)), (.ref b257), (.ref b257)])
  refine os (fun _ k => Jvm.Stand.ldc2J X263 hx hown (mvT hZ (own_g hw 266 rfl)) rfl (hb hby d_method_4_41) k) ?_
  show OGo p e below _ T263 (mkF m 44 #[.val (.int (Int32.ofNat ex)), .unset] [(.long (1000000 : Int64)), (.int (6 : Int32)), (.ref b257), (.ref b257)])
  obtain ⟨T264, h264, X264, e264, W264, Vq264, st264⟩ := lastoreV X263 hx hZ e263 V263 (j := (6 : Int32)) ⟨by decide, by decide⟩ (by decide) (g := (mkF m 44 #[.val (.int (Int32.ofNat ex)), .unset] [(.long (1000000 : Int64)), (.int (6 : Int32)), (.ref b257), (.ref b257)])) rfl rfl (hb hby d_method_4_44)
  have N264 := Fr.snoc X264 N263 (Nat.le_trans Z0 sz_b257)
  have KK264 : Keep h0 h264 [] := KK263.wr W264 (Or.inr sz_b257)
  have V264 : Arv Z h264 b257 k257 .long (10 : Int32) [(.long (1 : Int64)), (.long (10 : Int64)), (.long (100 : Int64)), (.long (1000 : Int64)), (.long (10000 : Int64)), (.long (100000 : Int64)), (.long (1000000 : Int64)), (.long (0 : Int64)), (.long (0 : Int64)), (.long (0 : Int64))] (.long (0 : Int64)) := Vq264
  refine os st264 ?_
  show OGo p e below _ T264 (mkF m 45 #[.val (.int (Int32.ofNat ex)), .unset] [(.ref b257)])
  refine os (fun _ k => XS.dup X264.here hx rfl (hb hby d_method_4_45) rfl rfl k) ?_
  show OGo p e below _ T264 (mkF m 46 #[.val (.int (Int32.ofNat ex)), .unset] [(.ref b257), (.ref b257)])
  refine os (fun _ k => XS.bipush X264.here hx rfl (hb hby d_method_4_46) k) ?_
  show OGo p e below _ T264 (mkF m 48 #[.val (.int (Int32.ofNat ex)), .unset] [(.int (7 : Int32)), (.ref b257), (.ref b257)])
  refine os (fun _ k => Jvm.Stand.ldc2J X264 hx hown (mvT hZ (own_g hw 267 rfl)) rfl (hb hby d_method_4_48) k) ?_
  show OGo p e below _ T264 (mkF m 51 #[.val (.int (Int32.ofNat ex)), .unset] [(.long (10000000 : Int64)), (.int (7 : Int32)), (.ref b257), (.ref b257)])
  obtain ⟨T265, h265, X265, e265, W265, Vq265, st265⟩ := lastoreV X264 hx hZ e264 V264 (j := (7 : Int32)) ⟨by decide, by decide⟩ (by decide) (g := (mkF m 51 #[.val (.int (Int32.ofNat ex)), .unset] [(.long (10000000 : Int64)), (.int (7 : Int32)), (.ref b257), (.ref b257)])) rfl rfl (hb hby d_method_4_51)
  have N265 := Fr.snoc X265 N264 (Nat.le_trans Z0 sz_b257)
  have KK265 : Keep h0 h265 [] := KK264.wr W265 (Or.inr sz_b257)
  have V265 : Arv Z h265 b257 k257 .long (10 : Int32) [(.long (1 : Int64)), (.long (10 : Int64)), (.long (100 : Int64)), (.long (1000 : Int64)), (.long (10000 : Int64)), (.long (100000 : Int64)), (.long (1000000 : Int64)), (.long (10000000 : Int64)), (.long (0 : Int64)), (.long (0 : Int64))] (.long (0 : Int64)) := Vq265
  refine os st265 ?_
  show OGo p e below _ T265 (mkF m 52 #[.val (.int (Int32.ofNat ex)), .unset] [(.ref b257)])
  refine os (fun _ k => XS.dup X265.here hx rfl (hb hby d_method_4_52) rfl rfl k) ?_
  show OGo p e below _ T265 (mkF m 53 #[.val (.int (Int32.ofNat ex)), .unset] [(.ref b257), (.ref b257)])
  refine os (fun _ k => XS.bipush X265.here hx rfl (hb hby d_method_4_53) k) ?_
  show OGo p e below _ T265 (mkF m 55 #[.val (.int (Int32.ofNat ex)), .unset] [(.int (8 : Int32)), (.ref b257), (.ref b257)])
  refine os (fun _ k => Jvm.Stand.ldc2J X265 hx hown (mvT hZ (own_g hw 268 rfl)) rfl (hb hby d_method_4_55) k) ?_
  show OGo p e below _ T265 (mkF m 58 #[.val (.int (Int32.ofNat ex)), .unset] [(.long (100000000 : Int64)), (.int (8 : Int32)), (.ref b257), (.ref b257)])
  obtain ⟨T266, h266, X266, e266, W266, Vq266, st266⟩ := lastoreV X265 hx hZ e265 V265 (j := (8 : Int32)) ⟨by decide, by decide⟩ (by decide) (g := (mkF m 58 #[.val (.int (Int32.ofNat ex)), .unset] [(.long (100000000 : Int64)), (.int (8 : Int32)), (.ref b257), (.ref b257)])) rfl rfl (hb hby d_method_4_58)
  have N266 := Fr.snoc X266 N265 (Nat.le_trans Z0 sz_b257)
  have KK266 : Keep h0 h266 [] := KK265.wr W266 (Or.inr sz_b257)
  have V266 : Arv Z h266 b257 k257 .long (10 : Int32) [(.long (1 : Int64)), (.long (10 : Int64)), (.long (100 : Int64)), (.long (1000 : Int64)), (.long (10000 : Int64)), (.long (100000 : Int64)), (.long (1000000 : Int64)), (.long (10000000 : Int64)), (.long (100000000 : Int64)), (.long (0 : Int64))] (.long (0 : Int64)) := Vq266
  refine os st266 ?_
  show OGo p e below _ T266 (mkF m 59 #[.val (.int (Int32.ofNat ex)), .unset] [(.ref b257)])
  refine os (fun _ k => XS.dup X266.here hx rfl (hb hby d_method_4_59) rfl rfl k) ?_
  show OGo p e below _ T266 (mkF m 60 #[.val (.int (Int32.ofNat ex)), .unset] [(.ref b257), (.ref b257)])
  refine os (fun _ k => XS.bipush X266.here hx rfl (hb hby d_method_4_60) k) ?_
  show OGo p e below _ T266 (mkF m 62 #[.val (.int (Int32.ofNat ex)), .unset] [(.int (9 : Int32)), (.ref b257), (.ref b257)])
  refine os (fun _ k => Jvm.Stand.ldc2J X266 hx hown (mvT hZ (own_g hw 269 rfl)) rfl (hb hby d_method_4_62) k) ?_
  show OGo p e below _ T266 (mkF m 65 #[.val (.int (Int32.ofNat ex)), .unset] [(.long (1000000000 : Int64)), (.int (9 : Int32)), (.ref b257), (.ref b257)])
  obtain ⟨T267, h267, X267, e267, W267, Vq267, st267⟩ := lastoreV X266 hx hZ e266 V266 (j := (9 : Int32)) ⟨by decide, by decide⟩ (by decide) (g := (mkF m 65 #[.val (.int (Int32.ofNat ex)), .unset] [(.long (1000000000 : Int64)), (.int (9 : Int32)), (.ref b257), (.ref b257)])) rfl rfl (hb hby d_method_4_65)
  have N267 := Fr.snoc X267 N266 (Nat.le_trans Z0 sz_b257)
  have KK267 : Keep h0 h267 [] := KK266.wr W267 (Or.inr sz_b257)
  have V267 : Arv Z h267 b257 k257 .long (10 : Int32) [(.long (1 : Int64)), (.long (10 : Int64)), (.long (100 : Int64)), (.long (1000 : Int64)), (.long (10000 : Int64)), (.long (100000 : Int64)), (.long (1000000 : Int64)), (.long (10000000 : Int64)), (.long (100000000 : Int64)), (.long (1000000000 : Int64))] (.long (0 : Int64)) := Vq267
  refine os st267 ?_
  show OGo p e below _ T267 (mkF m 66 #[.val (.int (Int32.ofNat ex)), .unset] [(.ref b257)])
  refine os (fun _ k => XS.astoreN X267.here hx rfl (hb hby d_method_4_66) rfl rfl (l' := #[.val (.int (Int32.ofNat ex)), .val (.ref b257)]) rfl k) ?_
  show OGo p e below _ T267 (mkF m 67 #[.val (.int (Int32.ofNat ex)), .val (.ref b257)] [])
  refine os (fun _ k => XS.aloadN X267.here hx rfl (hb hby d_method_4_67) rfl rfl k) ?_
  show OGo p e below _ T267 (mkF m 68 #[.val (.int (Int32.ofNat ex)), .val (.ref b257)] [(.ref b257)])
  refine os (fun _ k => XS.iloadN X267.here hx rfl (hb hby d_method_4_68) rfl k) ?_
  show OGo p e below _ T267 (mkF m 69 #[.val (.int (Int32.ofNat ex)), .val (.ref b257)] [(.int (Int32.ofNat ex)), (.ref b257)])
  have hat : ([(.long (1 : Int64)), (.long (10 : Int64)), (.long (100 : Int64)), (.long (1000 : Int64)), (.long (10000 : Int64)), (.long (100000 : Int64)), (.long (1000000 : Int64)), (.long (10000000 : Int64)), (.long (100000000 : Int64)), (.long (1000000000 : Int64))] : List Value).getD (Int32.ofNat ex).toNatClampNeg (.long (0 : Int64)) = .long (Int64.ofNat (10 ^ ex)) := by rw [own_cl (by omega)]; rcases (by omega : ex = 0 ∨ ex = 1 ∨ ex = 2 ∨ ex = 3 ∨ ex = 4 ∨ ex = 5 ∨ ex = 6 ∨ ex = 7 ∨ ex = 8 ∨ ex = 9) with rfl | rfl | rfl | rfl | rfl | rfl | rfl | rfl | rfl | rfl <;> rfl
  refine os (fun _ k => laloadV X267 hx hZ e267 V267 ⟨own_nn (by omega), (own_lt (b := 10) (by omega) (by decide)).mpr (by omega)⟩ hat (g := (mkF m 69 #[.val (.int (Int32.ofNat ex)), .val (.ref b257)] [(.int (Int32.ofNat ex)), (.ref b257)])) rfl rfl (hb hby d_method_4_69) _ k) ?_
  show OGo p e below _ T267 (mkF m 70 #[.val (.int (Int32.ofNat ex)), .val (.ref b257)] [(.long (Int64.ofNat (10 ^ ex)))])
  exact OGo.ret X267 hx (t := .long) hret hlk rfl (Or.inr (Or.inl ⟨rfl, rfl, _, rfl⟩)) (hb hby d_method_4_70) (by decide) (by decide) (by rw [e267]; exact ⟨rfl, N267, KK267⟩)
theorem own_sub1 {n : Nat} (h : 1 ≤ n) : Int32.ofNat n - (1 : Int32) = Int32.ofNat (n - 1) := by
  obtain ⟨k, rfl⟩ : ∃ k, n = k + 1 := ⟨n - 1, by omega⟩
  rw [← own_inc, Nat.add_sub_cancel]
  have c := c_isub (Int32.ofNat k + 1) 1
  have c2 := c_iadd (Int32.ofNat k) 1
  have e1 : (1 : Int32).toInt = 1 := rfl
  have r1 := rng32 (Int32.ofNat k + 1 - 1)
  have r2 := rng32 (Int32.ofNat k)
  exact Int32.toInt_inj.mp (by omega)
theorem own_10nz : ∀ ex : Nat, ex ≤ 9 → ¬ Int64.ofNat (10 ^ ex) = 0 ∧ ¬ Int64.ofNat (10 ^ ex) = -1 ∧ (Int64.ofNat (10 ^ ex)).toInt = ((10 ^ ex : Nat) : Int) := fun ex he => by
  rcases (by omega : ex = 0 ∨ ex = 1 ∨ ex = 2 ∨ ex = 3 ∨ ex = 4 ∨ ex = 5 ∨ ex = 6 ∨ ex = 7 ∨ ex = 8 ∨ ex = 9) with rfl | rfl | rfl | rfl | rfl | rfl | rfl | rfl | rfl | rfl <;> decide
theorem own_dchar {n ex : Nat} (hn : n < 2147483648) (he : ex ≤ 9) : ((48 : Int32) + (((Int32.ofNat n).toInt64 / Int64.ofNat (10 ^ ex)) - (((Int32.ofNat n).toInt64 / Int64.ofNat (10 ^ ex)) / (10 : Int64)) * (10 : Int64)).toInt32).toUInt32.toUInt16.toUInt32.toInt32 = Int32.ofNat (48 + n / 10 ^ ex % 10) := by
  obtain ⟨-, h1, h2⟩ := own_10nz ex he
  have a1 : (Int32.ofNat n).toInt64.toInt = (n : Int) := by rw [c_i2l, own_toInt hn]
  have a2 := (c_ldiv (Int32.ofNat n).toInt64 (Int64.ofNat (10 ^ ex)) _ h2 h1).1 (by rw [a1]; omega)
  rw [a1, ← Int.natCast_ediv] at a2
  generalize (Int32.ofNat n).toInt64 / Int64.ofNat (10 ^ ex) = D at *
  generalize n / 10 ^ ex = q at *
  have a3 := (c_lrem D 10 10 rfl).1 (by rw [a2]; omega)
  generalize D - (D / (10 : Int64)) * (10 : Int64) = r at *
  have a4 := c_l2i r
  have a5 := c_iadd 48 r.toInt32
  have a6 := c_i2c (48 + r.toInt32)
  have a7 := rng32 r.toInt32
  have a8 := rng32 (48 + r.toInt32)
  have e48 : (48 : Int32).toInt = 48 := rfl
  apply Int32.toInt_inj.mp
  rw [own_toInt (by omega)]
  omega
theorem own_lo128 : ∀ x : Nat, x < 128 → (Int32.ofNat x &&& 255) = Int32.ofNat x := by decide +kernel
theorem own_add3 (k : Nat) : (3 : Int32) + Int32.ofNat k = Int32.ofNat (3 + k) := own_addn 3 k
theorem d_method_5_0 : decode method_5_code 0 = .ok (.iload_n 3, 1) := by decide +kernel
theorem d_method_5_1 : decode method_5_code 1 = .ok (.iload_n 2, 1) := by decide +kernel
theorem d_method_5_2 : decode method_5_code 2 = .ok (.if_icmp .lt 5, 3) := by decide +kernel
theorem d_method_5_5 : decode method_5_code 5 = .ok (.iconst 1, 1) := by decide +kernel
theorem d_method_5_6 : decode method_5_code 6 = .ok (.ireturn, 1) := by decide +kernel
theorem d_method_5_7 : decode method_5_code 7 = .ok (.iload_n 2, 1) := by decide +kernel
theorem d_method_5_8 : decode method_5_code 8 = .ok (.iconst 1, 1) := by decide +kernel
theorem d_method_5_9 : decode method_5_code 9 = .ok (.isub, 1) := by decide +kernel
theorem d_method_5_10 : decode method_5_code 10 = .ok (.iload_n 3, 1) := by decide +kernel
theorem d_method_5_11 : decode method_5_code 11 = .ok (.isub, 1) := by decide +kernel
theorem opd_29 : parseMethodDescriptor "(I)J" = some ⟨[.int], some .long⟩ := by decide +kernel
theorem d_method_5_12 : decode method_5_code 12 = .ok (.invokestatic 63, 3) := by decide +kernel
theorem d_method_5_15 : decode method_5_code 15 = .ok (.lstore 4, 2) := by decide +kernel
theorem d_method_5_17 : decode method_5_code 17 = .ok (.bipush 48, 2) := by decide +kernel
theorem d_method_5_19 : decode method_5_code 19 = .ok (.iload_n 1, 1) := by decide +kernel
theorem d_method_5_20 : decode method_5_code 20 = .ok (.i2l, 1) := by decide +kernel
theorem d_method_5_21 : decode method_5_code 21 = .ok (.lload 4, 2) := by decide +kernel
theorem d_method_5_23 : decode method_5_code 23 = .ok (.ldiv, 1) := by decide +kernel
theorem d_method_5_24 : decode method_5_code 24 = .ok (.ldc2_w 45, 3) := by decide +kernel
theorem d_method_5_27 : decode method_5_code 27 = .ok (.lrem, 1) := by decide +kernel
theorem d_method_5_28 : decode method_5_code 28 = .ok (.l2i, 1) := by decide +kernel
theorem d_method_5_29 : decode method_5_code 29 = .ok (.iadd, 1) := by decide +kernel
theorem d_method_5_30 : decode method_5_code 30 = .ok (.i2c, 1) := by decide +kernel
theorem d_method_5_31 : decode method_5_code 31 = .ok (.istore 6, 2) := by decide +kernel
theorem d_method_5_33 : decode method_5_code 33 = .ok (.aload_n 0, 1) := by decide +kernel
theorem d_method_5_34 : decode method_5_code 34 = .ok (.iconst 3, 1) := by decide +kernel
theorem d_method_5_35 : decode method_5_code 35 = .ok (.iload_n 3, 1) := by decide +kernel
theorem d_method_5_36 : decode method_5_code 36 = .ok (.iadd, 1) := by decide +kernel
theorem opd_30 : parseMethodDescriptor "(I)C" = some ⟨[.int], some .char⟩ := by decide +kernel
theorem d_method_5_37 : decode method_5_code 37 = .ok (.invokevirtual 26, 3) := by decide +kernel
theorem d_method_5_40 : decode method_5_code 40 = .ok (.iload 6, 2) := by decide +kernel
theorem d_method_5_42 : decode method_5_code 42 = .ok (.if_icmp .ne 7, 3) := by decide +kernel
theorem d_method_5_45 : decode method_5_code 45 = .ok (.iconst 1, 1) := by decide +kernel
theorem d_method_5_46 : decode method_5_code 46 = .ok (.goto 4, 3) := by decide +kernel
theorem d_method_5_50 : decode method_5_code 50 = .ok (.ireturn, 1) := by decide +kernel
theorem opl_rm_dok : plainFor (⟨"com/example/slackline/slackline/instance/InputExceptionDescribePinLaw", "digitOk", "(Ljava/lang/String;III)Z"⟩ : MethodName) = true := plainFor_of_name (by first | (simp [plainName, overriddenIn]; done) | decide +kernel)
set_option maxRecDepth 65536 in
set_option maxHeartbeats 40000000 in
theorem rm_dok (l : Launch) (Z : State) (a0 : Array Value) (hw : ∀ d ∈ tables_1, d.before a0 Z = true) (ws : List Jvm.Cond) (a d : Addr) (k : ClassId) (us : List Value) (n kk : Nat) (zc : Int32) (wf : Value) (n0 : Nat) (h0 : Heap) (SS : own_SS Z zc wf) (O : Old Z n0 h0) (I : STI Z h0 a d k us) (hn : n < 2147483648) (hkk : kk ≤ 9) (hlen : us.length = 7 + own_w n) (hat : kk < own_w n → us.getD (3 + kk) (.int (0 : Int32)) = .int (Int32.ofNat (48 + n / 10 ^ (own_w n - 1 - kk) % 10))) :
    Con l Z (⟨"com/example/slackline/slackline/instance/InputExceptionDescribePinLaw", "digitOk", "(Ljava/lang/String;III)Z"⟩ : MethodName) method_5_code 7 (some .boolean) ws ({ frames := 4, cells := 1, slots := 10, locals := 53 } : Room) #[(.ref a), (.int (Int32.ofNat n)), (.int (Int32.ofNat (own_w n))), (.int (Int32.ofNat kk))] h0 (fun v h L => v = some (.int (1 : Int32)) ∧ Fr n0 L ∧ Keep h0 h []) := by
  refine Con.intro opl_rm_dok ?_
  intro p e s m below meth c s₁ hx hby hml hown hret hlk hZ hnm X0 e0
  have SS' := SS
  obtain ⟨hzc, SC, hwf, SF⟩ := SS
  have Z0 : n0 ≤ h0.size := O.1 ▸ O.2.1
  have N0 := Fr.nil n0
  obtain ⟨P1, P2, P3, P4⟩ := own_dpow hn
  obtain ⟨IE, IC, IF, IV⟩ := I
  refine OGo.cast (g' := (mkF m 0 #[.val (.ref a), .val (.int (Int32.ofNat n)), .val (.int (Int32.ofNat (own_w n))), .val (.int (Int32.ofNat kk)), .unset, .unset, .unset] [])) (by first | (simp [entryFrame, mkF, argsToLocals, Value.category]; done) | rfl) ?_
  show OGo p e below _ s₁ (mkF m 0 #[.val (.ref a), .val (.int (Int32.ofNat n)), .val (.int (Int32.ofNat (own_w n))), .val (.int (Int32.ofNat kk)), .unset, .unset, .unset] [])
  refine os (fun _ k => XS.iloadN X0.here hx rfl (hb hby d_method_5_0) rfl k) ?_
  show OGo p e below _ s₁ (mkF m 1 #[.val (.ref a), .val (.int (Int32.ofNat n)), .val (.int (Int32.ofNat (own_w n))), .val (.int (Int32.ofNat kk)), .unset, .unset, .unset] [(.int (Int32.ofNat kk))])
  refine os (fun _ k => XS.iloadN X0.here hx rfl (hb hby d_method_5_1) rfl k) ?_
  show OGo p e below _ s₁ (mkF m 2 #[.val (.ref a), .val (.int (Int32.ofNat n)), .val (.int (Int32.ofNat (own_w n))), .val (.int (Int32.ofNat kk)), .unset, .unset, .unset] [(.int (Int32.ofNat (own_w n))), (.int (Int32.ofNat kk))])
  by_cases q : kk < own_w n
  case neg =>
    refine os (fun _ k => XS.icmpNo X0.here hx rfl (hb hby d_method_5_2) rfl (flt (fun h => q ((own_lt (by omega) (by omega)).mp h))).1 k) ?_
    show OGo p e below _ s₁ (mkF m 5 #[.val (.ref a), .val (.int (Int32.ofNat n)), .val (.int (Int32.ofNat (own_w n))), .val (.int (Int32.ofNat kk)), .unset, .unset, .unset] [])
    refine os (fun _ k => XS.iconst X0.here hx rfl (hb hby d_method_5_5) k) ?_
    show OGo p e below _ s₁ (mkF m 6 #[.val (.ref a), .val (.int (Int32.ofNat n)), .val (.int (Int32.ofNat (own_w n))), .val (.int (Int32.ofNat kk)), .unset, .unset, .unset] [(.int (1 : Int32))])
    exact OGo.ret X0 hx (t := .boolean) hret hlk rfl (Or.inl ⟨rfl, by simp, _, rfl⟩) (hb hby d_method_5_6) (by decide) (by decide) ⟨rfl, N0, (by rw [e0]; exact Keep.refl _ _)⟩
  refine os (fun _ k => XS.icmpYes X0.here hx rfl (pc0 := 2) (pc' := 7) rfl (hb hby d_method_5_2) rfl (tlt ((own_lt (by omega) (by omega)).mpr q)).1 (by decide) (by decide) k) ?_
  show OGo p e below _ s₁ (mkF m 7 #[.val (.ref a), .val (.int (Int32.ofNat n)), .val (.int (Int32.ofNat (own_w n))), .val (.int (Int32.ofNat kk)), .unset, .unset, .unset] [])
  refine os (fun _ k => XS.iloadN X0.here hx rfl (hb hby d_method_5_7) rfl k) ?_
  show OGo p e below _ s₁ (mkF m 8 #[.val (.ref a), .val (.int (Int32.ofNat n)), .val (.int (Int32.ofNat (own_w n))), .val (.int (Int32.ofNat kk)), .unset, .unset, .unset] [(.int (Int32.ofNat (own_w n)))])
  refine os (fun _ k => XS.iconst X0.here hx rfl (hb hby d_method_5_8) k) ?_
  show OGo p e below _ s₁ (mkF m 9 #[.val (.ref a), .val (.int (Int32.ofNat n)), .val (.int (Int32.ofNat (own_w n))), .val (.int (Int32.ofNat kk)), .unset, .unset, .unset] [(.int (1 : Int32)), (.int (Int32.ofNat (own_w n)))])
  refine os (fun _ k => XS.isub X0.here hx rfl (hb hby d_method_5_9) rfl k) ?_
  show OGo p e below _ s₁ (mkF m 10 #[.val (.ref a), .val (.int (Int32.ofNat n)), .val (.int (Int32.ofNat (own_w n))), .val (.int (Int32.ofNat kk)), .unset, .unset, .unset] [(.int ((Int32.ofNat (own_w n)) - (1 : Int32)))])
  rw [own_sub1 (show 1 ≤ own_w n by omega)]
  show OGo p e below _ s₁ (mkF m 10 #[.val (.ref a), .val (.int (Int32.ofNat n)), .val (.int (Int32.ofNat (own_w n))), .val (.int (Int32.ofNat kk)), .unset, .unset, .unset] [(.int (Int32.ofNat (own_w n - 1)))])
  refine os (fun _ k => XS.iloadN X0.here hx rfl (hb hby d_method_5_10) rfl k) ?_
  show OGo p e below _ s₁ (mkF m 11 #[.val (.ref a), .val (.int (Int32.ofNat n)), .val (.int (Int32.ofNat (own_w n))), .val (.int (Int32.ofNat kk)), .unset, .unset, .unset] [(.int (Int32.ofNat kk)), (.int (Int32.ofNat (own_w n - 1)))])
  refine os (fun _ k => XS.isub X0.here hx rfl (hb hby d_method_5_11) rfl k) ?_
  show OGo p e below _ s₁ (mkF m 12 #[.val (.ref a), .val (.int (Int32.ofNat n)), .val (.int (Int32.ofNat (own_w n))), .val (.int (Int32.ofNat kk)), .unset, .unset, .unset] [(.int ((Int32.ofNat (own_w n - 1)) - (Int32.ofNat kk)))])
  rw [own_subn (show kk ≤ own_w n - 1 by omega) (by omega)]
  show OGo p e below _ s₁ (mkF m 12 #[.val (.ref a), .val (.int (Int32.ofNat n)), .val (.int (Int32.ofNat (own_w n))), .val (.int (Int32.ofNat kk)), .unset, .unset, .unset] [(.int (Int32.ofNat (own_w n - 1 - kk)))])
  obtain ⟨ex, hex⟩ : ∃ z, z = own_w n - 1 - kk := ⟨_, rfl⟩
  rw [← hex]
  show OGo p e below _ s₁ (mkF m 12 #[.val (.ref a), .val (.int (Int32.ofNat n)), .val (.int (Int32.ofNat (own_w n))), .val (.int (Int32.ofNat kk)), .unset, .unset, .unset] [(.int (Int32.ofNat ex))])
  have he9 : ex ≤ 9 := by omega
  rw [← hex] at hat
  obtain ⟨v268, T268, L268, X268, hQ268, st268⟩ := scall X0 hx hZ hown (own_g hw 257 rfl) (own_g hw 258 rfl) (own_g hw 252 rfl) (own_g hw 259 rfl) (by decide) (W := 0) (rm_p10 l Z a0 hw [] ex zc wf n0 h0 SS' O he9) e0 (by decide) (by decide) (by decide) (by decide) (g := (mkF m 12 #[.val (.ref a), .val (.int (Int32.ofNat n)), .val (.int (Int32.ofNat (own_w n))), .val (.int (Int32.ofNat kk)), .unset, .unset, .unset] [(.int (Int32.ofNat ex))])) rfl (by rw [hml]; rfl) (argsL := [(.int (Int32.ofNat ex))]) (rest := []) opd_29 rfl rfl rfl (by show 2 * 0 + _ ≤ _; exact Nat.le_of_eq rfl) (hb hby d_method_5_12)
  obtain ⟨rfl, N268, K268⟩ := hQ268
  have NN268 := Fr.app N0 N268
  have KK268 : Keep h0 T268.heap [] := (Keep.refl h0 []).trans K268 all0
  refine os st268 ?_
  show OGo p e below _ T268 (mkF m 15 #[.val (.ref a), .val (.int (Int32.ofNat n)), .val (.int (Int32.ofNat (own_w n))), .val (.int (Int32.ofNat kk)), .unset, .unset, .unset] [(.long (Int64.ofNat (10 ^ ex)))])
  refine os (fun _ k => XS.lstore X268.here hx rfl (hb hby d_method_5_15) rfl (l' := #[.val (.ref a), .val (.int (Int32.ofNat n)), .val (.int (Int32.ofNat (own_w n))), .val (.int (Int32.ofNat kk)), .val (.long (Int64.ofNat (10 ^ ex))), .second, .unset]) rfl k) ?_
  show OGo p e below _ T268 (mkF m 17 #[.val (.ref a), .val (.int (Int32.ofNat n)), .val (.int (Int32.ofNat (own_w n))), .val (.int (Int32.ofNat kk)), .val (.long (Int64.ofNat (10 ^ ex))), .second, .unset] [])
  refine os (fun _ k => XS.bipush X268.here hx rfl (hb hby d_method_5_17) k) ?_
  show OGo p e below _ T268 (mkF m 19 #[.val (.ref a), .val (.int (Int32.ofNat n)), .val (.int (Int32.ofNat (own_w n))), .val (.int (Int32.ofNat kk)), .val (.long (Int64.ofNat (10 ^ ex))), .second, .unset] [(.int (48 : Int32))])
  refine os (fun _ k => XS.iloadN X268.here hx rfl (hb hby d_method_5_19) rfl k) ?_
  show OGo p e below _ T268 (mkF m 20 #[.val (.ref a), .val (.int (Int32.ofNat n)), .val (.int (Int32.ofNat (own_w n))), .val (.int (Int32.ofNat kk)), .val (.long (Int64.ofNat (10 ^ ex))), .second, .unset] [(.int (Int32.ofNat n)), (.int (48 : Int32))])
  refine os (fun _ k => XS.i2l X268.here hx rfl (hb hby d_method_5_20) rfl k) ?_
  show OGo p e below _ T268 (mkF m 21 #[.val (.ref a), .val (.int (Int32.ofNat n)), .val (.int (Int32.ofNat (own_w n))), .val (.int (Int32.ofNat kk)), .val (.long (Int64.ofNat (10 ^ ex))), .second, .unset] [(.long ((Int32.ofNat n).toInt64)), (.int (48 : Int32))])
  refine os (fun _ k => XS.lload X268.here hx rfl (hb hby d_method_5_21) rfl k) ?_
  show OGo p e below _ T268 (mkF m 23 #[.val (.ref a), .val (.int (Int32.ofNat n)), .val (.int (Int32.ofNat (own_w n))), .val (.int (Int32.ofNat kk)), .val (.long (Int64.ofNat (10 ^ ex))), .second, .unset] [(.long (Int64.ofNat (10 ^ ex))), (.long ((Int32.ofNat n).toInt64)), (.int (48 : Int32))])
  refine os (fun _ k => XS.ldiv X268.here hx rfl (hb hby d_method_5_23) rfl (own_10nz ex he9).1 k) ?_
  show OGo p e below _ T268 (mkF m 24 #[.val (.ref a), .val (.int (Int32.ofNat n)), .val (.int (Int32.ofNat (own_w n))), .val (.int (Int32.ofNat kk)), .val (.long (Int64.ofNat (10 ^ ex))), .second, .unset] [(.long (((Int32.ofNat n).toInt64) / (Int64.ofNat (10 ^ ex)))), (.int (48 : Int32))])
  refine os (fun _ k => Jvm.Stand.ldc2J X268 hx hown (mvT hZ (own_g hw 261 rfl)) rfl (hb hby d_method_5_24) k) ?_
  show OGo p e below _ T268 (mkF m 27 #[.val (.ref a), .val (.int (Int32.ofNat n)), .val (.int (Int32.ofNat (own_w n))), .val (.int (Int32.ofNat kk)), .val (.long (Int64.ofNat (10 ^ ex))), .second, .unset] [(.long (10 : Int64)), (.long (((Int32.ofNat n).toInt64) / (Int64.ofNat (10 ^ ex)))), (.int (48 : Int32))])
  refine os (fun _ k => XS.lrem X268.here hx rfl (hb hby d_method_5_27) rfl (by decide) k) ?_
  show OGo p e below _ T268 (mkF m 28 #[.val (.ref a), .val (.int (Int32.ofNat n)), .val (.int (Int32.ofNat (own_w n))), .val (.int (Int32.ofNat kk)), .val (.long (Int64.ofNat (10 ^ ex))), .second, .unset] [(.long ((((Int32.ofNat n).toInt64) / (Int64.ofNat (10 ^ ex))) - ((((Int32.ofNat n).toInt64) / (Int64.ofNat (10 ^ ex))) / (10 : Int64)) * (10 : Int64))), (.int (48 : Int32))])
  refine os (fun _ k => XS.l2i X268.here hx rfl (hb hby d_method_5_28) rfl k) ?_
  show OGo p e below _ T268 (mkF m 29 #[.val (.ref a), .val (.int (Int32.ofNat n)), .val (.int (Int32.ofNat (own_w n))), .val (.int (Int32.ofNat kk)), .val (.long (Int64.ofNat (10 ^ ex))), .second, .unset] [(.int (((((Int32.ofNat n).toInt64) / (Int64.ofNat (10 ^ ex))) - ((((Int32.ofNat n).toInt64) / (Int64.ofNat (10 ^ ex))) / (10 : Int64)) * (10 : Int64)).toInt32)), (.int (48 : Int32))])
  refine os (fun _ k => XS.iadd X268.here hx rfl (hb hby d_method_5_29) rfl k) ?_
  show OGo p e below _ T268 (mkF m 30 #[.val (.ref a), .val (.int (Int32.ofNat n)), .val (.int (Int32.ofNat (own_w n))), .val (.int (Int32.ofNat kk)), .val (.long (Int64.ofNat (10 ^ ex))), .second, .unset] [(.int ((48 : Int32) + (((((Int32.ofNat n).toInt64) / (Int64.ofNat (10 ^ ex))) - ((((Int32.ofNat n).toInt64) / (Int64.ofNat (10 ^ ex))) / (10 : Int64)) * (10 : Int64)).toInt32)))])
  refine os (fun _ k => XS.i2c X268.here hx rfl (hb hby d_method_5_30) rfl k) ?_
  show OGo p e below _ T268 (mkF m 31 #[.val (.ref a), .val (.int (Int32.ofNat n)), .val (.int (Int32.ofNat (own_w n))), .val (.int (Int32.ofNat kk)), .val (.long (Int64.ofNat (10 ^ ex))), .second, .unset] [(.int (((48 : Int32) + (((((Int32.ofNat n).toInt64) / (Int64.ofNat (10 ^ ex))) - ((((Int32.ofNat n).toInt64) / (Int64.ofNat (10 ^ ex))) / (10 : Int64)) * (10 : Int64)).toInt32)).toUInt32.toUInt16.toUInt32.toInt32))])
  rw [own_dchar hn he9]
  show OGo p e below _ T268 (mkF m 31 #[.val (.ref a), .val (.int (Int32.ofNat n)), .val (.int (Int32.ofNat (own_w n))), .val (.int (Int32.ofNat kk)), .val (.long (Int64.ofNat (10 ^ ex))), .second, .unset] [(.int (Int32.ofNat (48 + n / 10 ^ ex % 10)))])
  refine os (fun _ k => XS.istore X268.here hx rfl (hb hby d_method_5_31) rfl (l' := #[.val (.ref a), .val (.int (Int32.ofNat n)), .val (.int (Int32.ofNat (own_w n))), .val (.int (Int32.ofNat kk)), .val (.long (Int64.ofNat (10 ^ ex))), .second, .val (.int (Int32.ofNat (48 + n / 10 ^ ex % 10)))]) rfl k) ?_
  show OGo p e below _ T268 (mkF m 33 #[.val (.ref a), .val (.int (Int32.ofNat n)), .val (.int (Int32.ofNat (own_w n))), .val (.int (Int32.ofNat kk)), .val (.long (Int64.ofNat (10 ^ ex))), .second, .val (.int (Int32.ofNat (48 + n / 10 ^ ex % 10)))] [])
  refine os (fun _ k => XS.aloadN X268.here hx rfl (hb hby d_method_5_33) rfl rfl k) ?_
  show OGo p e below _ T268 (mkF m 34 #[.val (.ref a), .val (.int (Int32.ofNat n)), .val (.int (Int32.ofNat (own_w n))), .val (.int (Int32.ofNat kk)), .val (.long (Int64.ofNat (10 ^ ex))), .second, .val (.int (Int32.ofNat (48 + n / 10 ^ ex % 10)))] [(.ref a)])
  refine os (fun _ k => XS.iconst X268.here hx rfl (hb hby d_method_5_34) k) ?_
  show OGo p e below _ T268 (mkF m 35 #[.val (.ref a), .val (.int (Int32.ofNat n)), .val (.int (Int32.ofNat (own_w n))), .val (.int (Int32.ofNat kk)), .val (.long (Int64.ofNat (10 ^ ex))), .second, .val (.int (Int32.ofNat (48 + n / 10 ^ ex % 10)))] [(.int (3 : Int32)), (.ref a)])
  refine os (fun _ k => XS.iloadN X268.here hx rfl (hb hby d_method_5_35) rfl k) ?_
  show OGo p e below _ T268 (mkF m 36 #[.val (.ref a), .val (.int (Int32.ofNat n)), .val (.int (Int32.ofNat (own_w n))), .val (.int (Int32.ofNat kk)), .val (.long (Int64.ofNat (10 ^ ex))), .second, .val (.int (Int32.ofNat (48 + n / 10 ^ ex % 10)))] [(.int (Int32.ofNat kk)), (.int (3 : Int32)), (.ref a)])
  refine os (fun _ k => XS.iadd X268.here hx rfl (hb hby d_method_5_36) rfl k) ?_
  show OGo p e below _ T268 (mkF m 37 #[.val (.ref a), .val (.int (Int32.ofNat n)), .val (.int (Int32.ofNat (own_w n))), .val (.int (Int32.ofNat kk)), .val (.long (Int64.ofNat (10 ^ ex))), .second, .val (.int (Int32.ofNat (48 + n / 10 ^ ex % 10)))] [(.int ((3 : Int32) + (Int32.ofNat kk))), (.ref a)])
  rw [own_add3]
  show OGo p e below _ T268 (mkF m 37 #[.val (.ref a), .val (.int (Int32.ofNat n)), .val (.int (Int32.ofNat (own_w n))), .val (.int (Int32.ofNat kk)), .val (.long (Int64.ofNat (10 ^ ex))), .second, .val (.int (Int32.ofNat (48 + n / 10 ^ ex % 10)))] [(.int (Int32.ofNat (3 + kk))), (.ref a)])
  obtain ⟨v269, T269, L269, X269, hQ269, st269⟩ := vcall X268 hx hZ hown (own_g hw 207 rfl) (own_g hw 208 rfl) (own_g hw 210 rfl) rfl (own_g hw 210 rfl) (own_g hw 209 rfl) (own_g hw 3 rfl) (own_g hw 211 rfl) (by decide) (W := 0) (rm_charAt l Z a0 hw [] a d k us (Int32.ofNat (3 + kk)) (Int32.ofNat (48 + n / 10 ^ ex % 10)) zc wf n0 T268.heap SS' (O.keep K268 all0) ⟨(IE.keep K268), (IC.keep K268 nin0), (IF.keep K268 nin0), (IV.keep K268 nin0)⟩ (own_nn (by omega)) ((own_lt (by omega) (by omega)).mpr (by omega)) (by rw [own_cl (by omega)]; exact hat q)) rfl (by decide) (by decide) (by decide) (by decide) (g := (mkF m 37 #[.val (.ref a), .val (.int (Int32.ofNat n)), .val (.int (Int32.ofNat (own_w n))), .val (.int (Int32.ofNat kk)), .val (.long (Int64.ofNat (10 ^ ex))), .second, .val (.int (Int32.ofNat (48 + n / 10 ^ ex % 10)))] [(.int (Int32.ofNat (3 + kk))), (.ref a)])) rfl (by rw [hml]; rfl) (IE.keep K268) (argsL := [(.int (Int32.ofNat (3 + kk)))]) (rest := []) opd_30 rfl rfl rfl (by show 2 * 0 + _ ≤ _; exact Nat.le_of_eq rfl) (hb hby d_method_5_37)
  obtain ⟨rfl, rfl, e269⟩ := hQ269
  rw [List.append_nil] at X269
  refine os st269 ?_
  show OGo p e below _ T269 (mkF m 40 #[.val (.ref a), .val (.int (Int32.ofNat n)), .val (.int (Int32.ofNat (own_w n))), .val (.int (Int32.ofNat kk)), .val (.long (Int64.ofNat (10 ^ ex))), .second, .val (.int (Int32.ofNat (48 + n / 10 ^ ex % 10)))] [(.int (Int32.ofNat (48 + n / 10 ^ ex % 10) &&& 255))])
  refine os (fun _ k => XS.iload X269.here hx rfl (hb hby d_method_5_40) rfl k) ?_
  show OGo p e below _ T269 (mkF m 42 #[.val (.ref a), .val (.int (Int32.ofNat n)), .val (.int (Int32.ofNat (own_w n))), .val (.int (Int32.ofNat kk)), .val (.long (Int64.ofNat (10 ^ ex))), .second, .val (.int (Int32.ofNat (48 + n / 10 ^ ex % 10)))] [(.int (Int32.ofNat (48 + n / 10 ^ ex % 10))), (.int (Int32.ofNat (48 + n / 10 ^ ex % 10) &&& 255))])
  refine os (fun _ k => XS.icmpNo X269.here hx rfl (hb hby d_method_5_42) rfl (teq (own_lo128 _ (by omega))).2 k) ?_
  show OGo p e below _ T269 (mkF m 45 #[.val (.ref a), .val (.int (Int32.ofNat n)), .val (.int (Int32.ofNat (own_w n))), .val (.int (Int32.ofNat kk)), .val (.long (Int64.ofNat (10 ^ ex))), .second, .val (.int (Int32.ofNat (48 + n / 10 ^ ex % 10)))] [])
  refine os (fun _ k => XS.iconst X269.here hx rfl (hb hby d_method_5_45) k) ?_
  show OGo p e below _ T269 (mkF m 46 #[.val (.ref a), .val (.int (Int32.ofNat n)), .val (.int (Int32.ofNat (own_w n))), .val (.int (Int32.ofNat kk)), .val (.long (Int64.ofNat (10 ^ ex))), .second, .val (.int (Int32.ofNat (48 + n / 10 ^ ex % 10)))] [(.int (1 : Int32))])
  refine os (fun _ k => XS.goto X269.here hx rfl (pc0 := 46) (pc' := 50) rfl (hb hby d_method_5_46) (by decide) (by decide) k) ?_
  show OGo p e below _ T269 (mkF m 50 #[.val (.ref a), .val (.int (Int32.ofNat n)), .val (.int (Int32.ofNat (own_w n))), .val (.int (Int32.ofNat kk)), .val (.long (Int64.ofNat (10 ^ ex))), .second, .val (.int (Int32.ofNat (48 + n / 10 ^ ex % 10)))] [(.int (1 : Int32))])
  exact OGo.ret X269 hx (t := .boolean) hret hlk rfl (Or.inl ⟨rfl, by simp, _, rfl⟩) (hb hby d_method_5_50) (by decide) (by decide) (by rw [e269]; exact ⟨rfl, NN268, KK268⟩)
theorem own_and255 (x : Int32) : ¬ (x &&& 255) < 0 ∧ ¬ (255 : Int32) < (x &&& 255) := by
  have q := c_and x 255 (by decide)
  have e0 : (0 : Int32).toInt = 0 := rfl
  have e1 : (255 : Int32).toInt = 255 := rfl
  rw [Int32.lt_iff_toInt_lt, Int32.lt_iff_toInt_lt]
  omega
theorem own_maskn (x : Int32) : ∃ n : Nat, n < 2147483648 ∧ (x &&& 2147483647) = Int32.ofNat n := by
  have q := c_and x 2147483647 (by decide)
  have e1 : (2147483647 : Int32).toInt = 2147483647 := rfl
  refine ⟨(x &&& 2147483647).toInt.toNat, by omega, ?_⟩
  apply Int32.toInt_inj.mp
  rw [own_toInt (by omega)]
  omega
theorem own_lo8 {x : Int32} (h : ¬ x < 0 ∧ ¬ (255 : Int32) < x) : (x.toInt8.toInt32 &&& 255) = x := by
  obtain ⟨h0, h1⟩ := h
  rw [Int32.lt_iff_toInt_lt] at h0 h1
  have e0 : (0 : Int32).toInt = 0 := rfl
  have e1 : (255 : Int32).toInt = 255 := rfl
  have q := c_i2b x
  have r := c_mask x.toInt8.toInt32 255 8 (by decide) (by decide)
  apply Int32.toInt_inj.mp
  rw [r]
  show x.toInt8.toInt32.toInt % 256 = x.toInt
  omega
theorem own_ok2 {x y : Int32} (h : ¬ x < 0 ∧ ¬ (255 : Int32) < x) (h' : ¬ y < 0 ∧ ¬ (255 : Int32) < y) : own_ok8 [x, y] := own_okS h (own_okS h' own_ok0)
theorem own_gd {xs ys : List Value} {i j : Nat} {d : Value} (h : i = xs.length + j) : (xs ++ ys).getD i d = ys.getD j d := by
  subst h; simp [List.getD, List.getElem?_append_right]
theorem own_gl {xs ys : List Value} {i : Nat} {d : Value} (h : i < xs.length) : (xs ++ ys).getD i d = xs.getD i d := by
  simp [List.getD, List.getElem?_append_left h]
theorem own_usN {n : Nat} (q : ¬ n = 0) (f0 f1 r0 r1 : Int32) : (own_us n (own_b8 [f0, f1]) (own_b8 [r0, r1])).length = 7 + own_w n ∧
    (own_us n (own_b8 [f0, f1]) (own_b8 [r0, r1])).getD 0 (.int (0 : Int32)) = .int f0.toInt8.toInt32 ∧ (own_us n (own_b8 [f0, f1]) (own_b8 [r0, r1])).getD 1 (.int (0 : Int32)) = .int f1.toInt8.toInt32 ∧ (own_us n (own_b8 [f0, f1]) (own_b8 [r0, r1])).getD 2 (.int (0 : Int32)) = .int (58 : Int32) ∧
    (∀ kk, kk < own_w n → (own_us n (own_b8 [f0, f1]) (own_b8 [r0, r1])).getD (3 + kk) (.int (0 : Int32)) = .int (Int32.ofNat (48 + n / 10 ^ (own_w n - 1 - kk) % 10))) ∧
    (own_us n (own_b8 [f0, f1]) (own_b8 [r0, r1])).getD (3 + own_w n) (.int (0 : Int32)) = .int (58 : Int32) ∧ (own_us n (own_b8 [f0, f1]) (own_b8 [r0, r1])).getD (4 + own_w n) (.int (0 : Int32)) = .int (32 : Int32) ∧
    (own_us n (own_b8 [f0, f1]) (own_b8 [r0, r1])).getD (5 + own_w n) (.int (0 : Int32)) = .int r0.toInt8.toInt32 ∧ (own_us n (own_b8 [f0, f1]) (own_b8 [r0, r1])).getD (6 + own_w n) (.int (0 : Int32)) = .int r1.toInt8.toInt32 := by
  have e : own_us n (own_b8 [f0, f1]) (own_b8 [r0, r1]) = [.int f0.toInt8.toInt32, .int f1.toInt8.toInt32, .int (58 : Int32)] ++ (own_dig (own_w n) n ++ [.int (58 : Int32), .int (32 : Int32), .int r0.toInt8.toInt32, .int r1.toInt8.toInt32]) := by
    rw [own_us, if_neg q, List.append_assoc, List.append_assoc]; rfl
  rw [e]
  have hd := own_diglen n (own_w n)
  refine ⟨by simp [hd]; omega, rfl, rfl, rfl, fun kk hk => ?_, ?_, ?_, ?_, ?_⟩
  · rw [own_gd (i := 3 + kk) (j := kk) rfl, own_gl (by rw [hd]; exact hk), List.getD_eq_getElem?_getD, own_digat n _ _ hk]; rfl
  · rw [own_gd (i := 3 + own_w n) (j := own_w n) rfl, own_gd (i := own_w n) (j := 0) (by rw [hd]; rfl)]; rfl
  · rw [own_gd (i := 4 + own_w n) (j := own_w n + 1) (by show _ = 3 + _; omega), own_gd (i := own_w n + 1) (j := 1) (by rw [hd])]; rfl
  · rw [own_gd (i := 5 + own_w n) (j := own_w n + 2) (by show _ = 3 + _; omega), own_gd (i := own_w n + 2) (j := 2) (by rw [hd])]; rfl
  · rw [own_gd (i := 6 + own_w n) (j := own_w n + 3) (by show _ = 3 + _; omega), own_gd (i := own_w n + 3) (j := 3) (by rw [hd])]; rfl
def own_Q (n0 : Nat) : Option Value → Heap → List Loc → Prop := fun v _ L => v = some (.int 1) ∧ Fr n0 L
theorem opd_31 : parseMethodDescriptor "([C)V" = some ⟨[(.array .char)], none⟩ := by decide +kernel
theorem opd_32 : parseMethodDescriptor "(Ljava/lang/String;)Ljava/lang/String;" = some ⟨[(.object "java/lang/String")], some (.object "java/lang/String")⟩ := by decide +kernel
theorem opd_33 : parseMethodDescriptor "(Ljava/lang/String;III)Z" = some ⟨[(.object "java/lang/String"), .int, .int, .int], some .boolean⟩ := by decide +kernel
theorem opl_rm_law : plainFor x = true := plainFor_of_name (by first | (simp [plainName, overriddenIn]; done) | decide +kernel)
set_option maxRecDepth 65536 in
set_option maxHeartbeats 40000000 in
theorem rm_law (l : Launch) (Z : State) (a0 : Array Value) (hw : ∀ d ∈ tables_1, d.before a0 Z = true) (ws : List Jvm.Cond) (f r xx flag : Int32) (zc : Int32) (wf : Value) (n0 : Nat) (u0 u1 : RefV) (d1 d2 : Addr) (kd1 kd2 : ClassId) (h0 : Heap) (SS : own_SS Z zc wf) (O : Old Z n0 h0) (TS : own_TS Z u0 u1) (hlt : l.stackTraces = true) (SI : own_SI Z d1 d2 kd1 kd2) :
    ConK l Z own_EL x code maxLocals ret ws room_1 #[(.int f), (.int r), (.int xx), (.int flag)] h0 (own_Q n0) := by
  refine ConK.intro opl_rm_law ?_
  intro p e s m below meth c s₁ hx hby hml hown hret hlk hZ hnm X0 e0 hs0 hS0 H0 R0 hTK hBl
  have SS' := SS
  obtain ⟨hzc, SC, hwf, SF⟩ := SS
  have Z0 : n0 ≤ h0.size := O.1 ▸ O.2.1
  have N0 := Fr.nil n0
  refine OGo.cast (g' := (mkF m 0 #[.val (.int f), .val (.int r), .val (.int xx), .val (.int flag), .unset, .unset, .unset, .unset, .unset, .unset, .unset, .unset, .unset] [])) (by first | (simp [entryFrame, mkF, argsToLocals, Value.category, maxLocals]; done) | rfl) ?_
  show OGo p e below _ s₁ (mkF m 0 #[.val (.int f), .val (.int r), .val (.int xx), .val (.int flag), .unset, .unset, .unset, .unset, .unset, .unset, .unset, .unset, .unset] [])
  refine os (fun _ k => XS.iconst X0.here hx rfl (hb hby at_0) k) ?_
  show OGo p e below _ s₁ (mkF m 1 #[.val (.int f), .val (.int r), .val (.int xx), .val (.int flag), .unset, .unset, .unset, .unset, .unset, .unset, .unset, .unset, .unset] [(.int (2 : Int32))])
  obtain ⟨T270, h270, k270, X270, e270, E270, A270, AE270, st270⟩ := newPE X0 hx hZ (own_g hw 0 rfl) e0 (g := (mkF m 1 #[.val (.int f), .val (.int r), .val (.int xx), .val (.int flag), .unset, .unset, .unset, .unset, .unset, .unset, .unset, .unset, .unset] [(.int (2 : Int32))])) rfl (hb hby at_1) rfl (by decide) (cap := 2) (by decide) (by decide) (by decide) (by decide) (ad := "[C") (by decide)
  obtain ⟨b270, g270⟩ : ∃ z, z = h0.size := ⟨_, rfl⟩
  rw [← g270] at A270 AE270 st270
  have sz_b270 : h0.size ≤ b270 := Nat.le_trans (Keep.refl h0 []).1 (Nat.le_of_eq g270.symm)
  have KK270 : Keep h0 h270 [] := (Keep.refl h0 []).ext E270
  have H270 := CHv.ext E270 H0
  have R270 := CHr.trans R0 (CHr.ext E270 H0)
  have V270 : Arv Z h270 b270 k270 .char (2 : Int32) [(.int (0 : Int32)), (.int (0 : Int32))] (.int (0 : Int32)) := (Arv.new A270 (by decide)).pad (pad_rep [] (.int (0 : Int32)) 2)
  refine os st270 ?_
  show OGo p e below _ T270 (mkF m 3 #[.val (.int f), .val (.int r), .val (.int xx), .val (.int flag), .unset, .unset, .unset, .unset, .unset, .unset, .unset, .unset, .unset] [(.ref b270)])
  refine os (fun _ k => XS.dup X270.here hx rfl (hb hby at_3) rfl rfl k) ?_
  show OGo p e below _ T270 (mkF m 4 #[.val (.int f), .val (.int r), .val (.int xx), .val (.int flag), .unset, .unset, .unset, .unset, .unset, .unset, .unset, .unset, .unset] [(.ref b270), (.ref b270)])
  refine os (fun _ k => XS.iconst X270.here hx rfl (hb hby at_4) k) ?_
  show OGo p e below _ T270 (mkF m 5 #[.val (.int f), .val (.int r), .val (.int xx), .val (.int flag), .unset, .unset, .unset, .unset, .unset, .unset, .unset, .unset, .unset] [(.int (0 : Int32)), (.ref b270), (.ref b270)])
  refine os (fun _ k => XS.iloadN X270.here hx rfl (hb hby at_5) rfl k) ?_
  show OGo p e below _ T270 (mkF m 6 #[.val (.int f), .val (.int r), .val (.int xx), .val (.int flag), .unset, .unset, .unset, .unset, .unset, .unset, .unset, .unset, .unset] [(.int f), (.int (0 : Int32)), (.ref b270), (.ref b270)])
  refine os (fun _ k => XS.sipush X270.here hx rfl (hb hby at_6) k) ?_
  show OGo p e below _ T270 (mkF m 9 #[.val (.int f), .val (.int r), .val (.int xx), .val (.int flag), .unset, .unset, .unset, .unset, .unset, .unset, .unset, .unset, .unset] [(.int (255 : Int32)), (.int f), (.int (0 : Int32)), (.ref b270), (.ref b270)])
  refine os (fun _ k => XS.iand X270.here hx rfl (hb hby at_9) rfl k) ?_
  show OGo p e below _ T270 (mkF m 10 #[.val (.int f), .val (.int r), .val (.int xx), .val (.int flag), .unset, .unset, .unset, .unset, .unset, .unset, .unset, .unset, .unset] [(.int (f &&& (255 : Int32))), (.int (0 : Int32)), (.ref b270), (.ref b270)])
  refine os (fun _ k => XS.i2c X270.here hx rfl (hb hby at_10) rfl k) ?_
  show OGo p e below _ T270 (mkF m 11 #[.val (.int f), .val (.int r), .val (.int xx), .val (.int flag), .unset, .unset, .unset, .unset, .unset, .unset, .unset, .unset, .unset] [(.int ((f &&& (255 : Int32)).toUInt32.toUInt16.toUInt32.toInt32)), (.int (0 : Int32)), (.ref b270), (.ref b270)])
  rw [i2c_mask]
  show OGo p e below _ T270 (mkF m 11 #[.val (.int f), .val (.int r), .val (.int xx), .val (.int flag), .unset, .unset, .unset, .unset, .unset, .unset, .unset, .unset, .unset] [(.int (f &&& (255 : Int32))), (.int (0 : Int32)), (.ref b270), (.ref b270)])
  obtain ⟨f0, ef0⟩ : ∃ z, (f &&& (255 : Int32)) = z := ⟨_, rfl⟩
  have hf0 := own_and255 f
  rw [ef0] at hf0
  rw [ef0]
  show OGo p e below _ T270 (mkF m 11 #[.val (.int f), .val (.int r), .val (.int xx), .val (.int flag), .unset, .unset, .unset, .unset, .unset, .unset, .unset, .unset, .unset] [(.int f0), (.int (0 : Int32)), (.ref b270), (.ref b270)])
  obtain ⟨T271, h271, X271, e271, W271, Vq271, st271⟩ := castoreV X270 hx hZ e270 V270 (j := (0 : Int32)) ⟨by decide, by decide⟩ (by decide) (g := (mkF m 11 #[.val (.int f), .val (.int r), .val (.int xx), .val (.int flag), .unset, .unset, .unset, .unset, .unset, .unset, .unset, .unset, .unset] [(.int f0), (.int (0 : Int32)), (.ref b270), (.ref b270)])) rfl rfl (hb hby at_11)
  have q272 := (Safe.ext E270 H0 (Safe.new (Nat.le_of_eq g270.symm)))
  have N271 := Fr.snoc X271 N0 (Nat.le_trans Z0 sz_b270)
  have KK271 : Keep h0 h271 [] := KK270.wr W271 (Or.inr sz_b270)
  have H271 := CHv.wr W271 q272 H270
  have R271 := CHr.trans R270 (CHr.wr W271 q272 H270)
  have V271 : Arv Z h271 b270 k270 .char (2 : Int32) [(.int (nar .char f0)), (.int (0 : Int32))] (.int (0 : Int32)) := Vq271
  refine os st271 ?_
  show OGo p e below _ T271 (mkF m 12 #[.val (.int f), .val (.int r), .val (.int xx), .val (.int flag), .unset, .unset, .unset, .unset, .unset, .unset, .unset, .unset, .unset] [(.ref b270)])
  refine os (fun _ k => XS.dup X271.here hx rfl (hb hby at_12) rfl rfl k) ?_
  show OGo p e below _ T271 (mkF m 13 #[.val (.int f), .val (.int r), .val (.int xx), .val (.int flag), .unset, .unset, .unset, .unset, .unset, .unset, .unset, .unset, .unset] [(.ref b270), (.ref b270)])
  refine os (fun _ k => XS.iconst X271.here hx rfl (hb hby at_13) k) ?_
  show OGo p e below _ T271 (mkF m 14 #[.val (.int f), .val (.int r), .val (.int xx), .val (.int flag), .unset, .unset, .unset, .unset, .unset, .unset, .unset, .unset, .unset] [(.int (1 : Int32)), (.ref b270), (.ref b270)])
  refine os (fun _ k => XS.iloadN X271.here hx rfl (hb hby at_14) rfl k) ?_
  show OGo p e below _ T271 (mkF m 15 #[.val (.int f), .val (.int r), .val (.int xx), .val (.int flag), .unset, .unset, .unset, .unset, .unset, .unset, .unset, .unset, .unset] [(.int f), (.int (1 : Int32)), (.ref b270), (.ref b270)])
  refine os (fun _ k => XS.bipush X271.here hx rfl (hb hby at_15) k) ?_
  show OGo p e below _ T271 (mkF m 17 #[.val (.int f), .val (.int r), .val (.int xx), .val (.int flag), .unset, .unset, .unset, .unset, .unset, .unset, .unset, .unset, .unset] [(.int (8 : Int32)), (.int f), (.int (1 : Int32)), (.ref b270), (.ref b270)])
  refine os (fun _ k => XS.iushr X271.here hx rfl (hb hby at_17) rfl k) ?_
  show OGo p e below _ T271 (mkF m 18 #[.val (.int f), .val (.int r), .val (.int xx), .val (.int flag), .unset, .unset, .unset, .unset, .unset, .unset, .unset, .unset, .unset] [(.int ((f.toUInt32 >>> ((8 : Int32) &&& 31).toUInt32).toInt32)), (.int (1 : Int32)), (.ref b270), (.ref b270)])
  refine os (fun _ k => XS.sipush X271.here hx rfl (hb hby at_18) k) ?_
  show OGo p e below _ T271 (mkF m 21 #[.val (.int f), .val (.int r), .val (.int xx), .val (.int flag), .unset, .unset, .unset, .unset, .unset, .unset, .unset, .unset, .unset] [(.int (255 : Int32)), (.int ((f.toUInt32 >>> ((8 : Int32) &&& 31).toUInt32).toInt32)), (.int (1 : Int32)), (.ref b270), (.ref b270)])
  refine os (fun _ k => XS.iand X271.here hx rfl (hb hby at_21) rfl k) ?_
  show OGo p e below _ T271 (mkF m 22 #[.val (.int f), .val (.int r), .val (.int xx), .val (.int flag), .unset, .unset, .unset, .unset, .unset, .unset, .unset, .unset, .unset] [(.int (((f.toUInt32 >>> ((8 : Int32) &&& 31).toUInt32).toInt32) &&& (255 : Int32))), (.int (1 : Int32)), (.ref b270), (.ref b270)])
  refine os (fun _ k => XS.i2c X271.here hx rfl (hb hby at_22) rfl k) ?_
  show OGo p e below _ T271 (mkF m 23 #[.val (.int f), .val (.int r), .val (.int xx), .val (.int flag), .unset, .unset, .unset, .unset, .unset, .unset, .unset, .unset, .unset] [(.int ((((f.toUInt32 >>> ((8 : Int32) &&& 31).toUInt32).toInt32) &&& (255 : Int32)).toUInt32.toUInt16.toUInt32.toInt32)), (.int (1 : Int32)), (.ref b270), (.ref b270)])
  rw [i2c_mask]
  show OGo p e below _ T271 (mkF m 23 #[.val (.int f), .val (.int r), .val (.int xx), .val (.int flag), .unset, .unset, .unset, .unset, .unset, .unset, .unset, .unset, .unset] [(.int (((f.toUInt32 >>> ((8 : Int32) &&& 31).toUInt32).toInt32) &&& (255 : Int32))), (.int (1 : Int32)), (.ref b270), (.ref b270)])
  obtain ⟨f1, ef1⟩ : ∃ z, (((f.toUInt32 >>> ((8 : Int32) &&& 31).toUInt32).toInt32) &&& (255 : Int32)) = z := ⟨_, rfl⟩
  have hf1 := own_and255 ((f.toUInt32 >>> ((8 : Int32) &&& 31).toUInt32).toInt32)
  rw [ef1] at hf1
  rw [ef1]
  show OGo p e below _ T271 (mkF m 23 #[.val (.int f), .val (.int r), .val (.int xx), .val (.int flag), .unset, .unset, .unset, .unset, .unset, .unset, .unset, .unset, .unset] [(.int f1), (.int (1 : Int32)), (.ref b270), (.ref b270)])
  obtain ⟨T273, h273, X273, e273, W273, Vq273, st273⟩ := castoreV X271 hx hZ e271 V271 (j := (1 : Int32)) ⟨by decide, by decide⟩ (show (1 : Int32).toNatClampNeg < 2 by decide) (g := (mkF m 23 #[.val (.int f), .val (.int r), .val (.int xx), .val (.int flag), .unset, .unset, .unset, .unset, .unset, .unset, .unset, .unset, .unset] [(.int f1), (.int (1 : Int32)), (.ref b270), (.ref b270)])) rfl rfl (hb hby at_23)
  have N273 := Fr.snoc X273 N271 (Nat.le_trans Z0 sz_b270)
  have KK273 : Keep h0 h273 [] := KK271.wr W273 (Or.inr sz_b270)
  have H273 := CHv.wr W273 (Safe.wr W271 q272 H270 q272) H271
  have R273 := CHr.trans R271 (CHr.wr W273 (Safe.wr W271 q272 H270 q272) H271)
  have V273 : Arv Z h273 b270 k270 .char (2 : Int32) [(.int (nar .char f0)), (.int (nar .char f1))] (.int (0 : Int32)) := Vq273
  refine os st273 ?_
  show OGo p e below _ T273 (mkF m 24 #[.val (.int f), .val (.int r), .val (.int xx), .val (.int flag), .unset, .unset, .unset, .unset, .unset, .unset, .unset, .unset, .unset] [(.ref b270)])
  have Vc274 : Arv Z h273 b270 k270 .char (Int32.ofNat [f0, f1].length) ([f0, f1].map Value.int) (.int (0 : Int32)) := by have q := V273; rw [own_narc hf0, own_narc hf1] at q; exact q
  refine os (fun _ k => XS.astore X273.here hx rfl (hb hby at_24) rfl rfl (l' := #[.val (.int f), .val (.int r), .val (.int xx), .val (.int flag), .val (.ref b270), .unset, .unset, .unset, .unset, .unset, .unset, .unset, .unset]) rfl k) ?_
  show OGo p e below _ T273 (mkF m 26 #[.val (.int f), .val (.int r), .val (.int xx), .val (.int flag), .val (.ref b270), .unset, .unset, .unset, .unset, .unset, .unset, .unset, .unset] [])
  refine os (fun _ k => XS.iconst X273.here hx rfl (hb hby at_26) k) ?_
  show OGo p e below _ T273 (mkF m 27 #[.val (.int f), .val (.int r), .val (.int xx), .val (.int flag), .val (.ref b270), .unset, .unset, .unset, .unset, .unset, .unset, .unset, .unset] [(.int (2 : Int32))])
  obtain ⟨T275, h275, k275, X275, e275, E275, A275, AE275, st275⟩ := newPE X273 hx hZ (own_g hw 0 rfl) e273 (g := (mkF m 27 #[.val (.int f), .val (.int r), .val (.int xx), .val (.int flag), .val (.ref b270), .unset, .unset, .unset, .unset, .unset, .unset, .unset, .unset] [(.int (2 : Int32))])) rfl (hb hby at_27) rfl (by decide) (cap := 2) (by decide) (by decide) (by decide) (by decide) (ad := "[C") (by decide)
  obtain ⟨b275, g275⟩ : ∃ z, z = h273.size := ⟨_, rfl⟩
  rw [← g275] at A275 AE275 st275
  have sz_b275 : h0.size ≤ b275 := Nat.le_trans KK273.1 (Nat.le_of_eq g275.symm)
  have KK275 : Keep h0 h275 [] := KK273.ext E275
  have H275 := CHv.ext E275 H273
  have R275 := CHr.trans R273 (CHr.ext E275 H273)
  have V275 : Arv Z h275 b275 k275 .char (2 : Int32) [(.int (0 : Int32)), (.int (0 : Int32))] (.int (0 : Int32)) := (Arv.new A275 (by decide)).pad (pad_rep [] (.int (0 : Int32)) 2)
  refine os st275 ?_
  show OGo p e below _ T275 (mkF m 29 #[.val (.int f), .val (.int r), .val (.int xx), .val (.int flag), .val (.ref b270), .unset, .unset, .unset, .unset, .unset, .unset, .unset, .unset] [(.ref b275)])
  refine os (fun _ k => XS.dup X275.here hx rfl (hb hby at_29) rfl rfl k) ?_
  show OGo p e below _ T275 (mkF m 30 #[.val (.int f), .val (.int r), .val (.int xx), .val (.int flag), .val (.ref b270), .unset, .unset, .unset, .unset, .unset, .unset, .unset, .unset] [(.ref b275), (.ref b275)])
  refine os (fun _ k => XS.iconst X275.here hx rfl (hb hby at_30) k) ?_
  show OGo p e below _ T275 (mkF m 31 #[.val (.int f), .val (.int r), .val (.int xx), .val (.int flag), .val (.ref b270), .unset, .unset, .unset, .unset, .unset, .unset, .unset, .unset] [(.int (0 : Int32)), (.ref b275), (.ref b275)])
  refine os (fun _ k => XS.iloadN X275.here hx rfl (hb hby at_31) rfl k) ?_
  show OGo p e below _ T275 (mkF m 32 #[.val (.int f), .val (.int r), .val (.int xx), .val (.int flag), .val (.ref b270), .unset, .unset, .unset, .unset, .unset, .unset, .unset, .unset] [(.int r), (.int (0 : Int32)), (.ref b275), (.ref b275)])
  refine os (fun _ k => XS.sipush X275.here hx rfl (hb hby at_32) k) ?_
  show OGo p e below _ T275 (mkF m 35 #[.val (.int f), .val (.int r), .val (.int xx), .val (.int flag), .val (.ref b270), .unset, .unset, .unset, .unset, .unset, .unset, .unset, .unset] [(.int (255 : Int32)), (.int r), (.int (0 : Int32)), (.ref b275), (.ref b275)])
  refine os (fun _ k => XS.iand X275.here hx rfl (hb hby at_35) rfl k) ?_
  show OGo p e below _ T275 (mkF m 36 #[.val (.int f), .val (.int r), .val (.int xx), .val (.int flag), .val (.ref b270), .unset, .unset, .unset, .unset, .unset, .unset, .unset, .unset] [(.int (r &&& (255 : Int32))), (.int (0 : Int32)), (.ref b275), (.ref b275)])
  refine os (fun _ k => XS.i2c X275.here hx rfl (hb hby at_36) rfl k) ?_
  show OGo p e below _ T275 (mkF m 37 #[.val (.int f), .val (.int r), .val (.int xx), .val (.int flag), .val (.ref b270), .unset, .unset, .unset, .unset, .unset, .unset, .unset, .unset] [(.int ((r &&& (255 : Int32)).toUInt32.toUInt16.toUInt32.toInt32)), (.int (0 : Int32)), (.ref b275), (.ref b275)])
  rw [i2c_mask]
  show OGo p e below _ T275 (mkF m 37 #[.val (.int f), .val (.int r), .val (.int xx), .val (.int flag), .val (.ref b270), .unset, .unset, .unset, .unset, .unset, .unset, .unset, .unset] [(.int (r &&& (255 : Int32))), (.int (0 : Int32)), (.ref b275), (.ref b275)])
  obtain ⟨r0, er0⟩ : ∃ z, (r &&& (255 : Int32)) = z := ⟨_, rfl⟩
  have hr0 := own_and255 r
  rw [er0] at hr0
  rw [er0]
  show OGo p e below _ T275 (mkF m 37 #[.val (.int f), .val (.int r), .val (.int xx), .val (.int flag), .val (.ref b270), .unset, .unset, .unset, .unset, .unset, .unset, .unset, .unset] [(.int r0), (.int (0 : Int32)), (.ref b275), (.ref b275)])
  obtain ⟨T276, h276, X276, e276, W276, Vq276, st276⟩ := castoreV X275 hx hZ e275 V275 (j := (0 : Int32)) ⟨by decide, by decide⟩ (by decide) (g := (mkF m 37 #[.val (.int f), .val (.int r), .val (.int xx), .val (.int flag), .val (.ref b270), .unset, .unset, .unset, .unset, .unset, .unset, .unset, .unset] [(.int r0), (.int (0 : Int32)), (.ref b275), (.ref b275)])) rfl rfl (hb hby at_37)
  have q277 := (Safe.ext E275 H273 (Safe.new (Nat.le_of_eq g275.symm)))
  have N276 := Fr.snoc X276 N273 (Nat.le_trans Z0 sz_b275)
  have KK276 : Keep h0 h276 [] := KK275.wr W276 (Or.inr sz_b275)
  have H276 := CHv.wr W276 q277 H275
  have R276 := CHr.trans R275 (CHr.wr W276 q277 H275)
  have V276 : Arv Z h276 b275 k275 .char (2 : Int32) [(.int (nar .char r0)), (.int (0 : Int32))] (.int (0 : Int32)) := Vq276
  refine os st276 ?_
  show OGo p e below _ T276 (mkF m 38 #[.val (.int f), .val (.int r), .val (.int xx), .val (.int flag), .val (.ref b270), .unset, .unset, .unset, .unset, .unset, .unset, .unset, .unset] [(.ref b275)])
  refine os (fun _ k => XS.dup X276.here hx rfl (hb hby at_38) rfl rfl k) ?_
  show OGo p e below _ T276 (mkF m 39 #[.val (.int f), .val (.int r), .val (.int xx), .val (.int flag), .val (.ref b270), .unset, .unset, .unset, .unset, .unset, .unset, .unset, .unset] [(.ref b275), (.ref b275)])
  refine os (fun _ k => XS.iconst X276.here hx rfl (hb hby at_39) k) ?_
  show OGo p e below _ T276 (mkF m 40 #[.val (.int f), .val (.int r), .val (.int xx), .val (.int flag), .val (.ref b270), .unset, .unset, .unset, .unset, .unset, .unset, .unset, .unset] [(.int (1 : Int32)), (.ref b275), (.ref b275)])
  refine os (fun _ k => XS.iloadN X276.here hx rfl (hb hby at_40) rfl k) ?_
  show OGo p e below _ T276 (mkF m 41 #[.val (.int f), .val (.int r), .val (.int xx), .val (.int flag), .val (.ref b270), .unset, .unset, .unset, .unset, .unset, .unset, .unset, .unset] [(.int r), (.int (1 : Int32)), (.ref b275), (.ref b275)])
  refine os (fun _ k => XS.bipush X276.here hx rfl (hb hby at_41) k) ?_
  show OGo p e below _ T276 (mkF m 43 #[.val (.int f), .val (.int r), .val (.int xx), .val (.int flag), .val (.ref b270), .unset, .unset, .unset, .unset, .unset, .unset, .unset, .unset] [(.int (8 : Int32)), (.int r), (.int (1 : Int32)), (.ref b275), (.ref b275)])
  refine os (fun _ k => XS.iushr X276.here hx rfl (hb hby at_43) rfl k) ?_
  show OGo p e below _ T276 (mkF m 44 #[.val (.int f), .val (.int r), .val (.int xx), .val (.int flag), .val (.ref b270), .unset, .unset, .unset, .unset, .unset, .unset, .unset, .unset] [(.int ((r.toUInt32 >>> ((8 : Int32) &&& 31).toUInt32).toInt32)), (.int (1 : Int32)), (.ref b275), (.ref b275)])
  refine os (fun _ k => XS.sipush X276.here hx rfl (hb hby at_44) k) ?_
  show OGo p e below _ T276 (mkF m 47 #[.val (.int f), .val (.int r), .val (.int xx), .val (.int flag), .val (.ref b270), .unset, .unset, .unset, .unset, .unset, .unset, .unset, .unset] [(.int (255 : Int32)), (.int ((r.toUInt32 >>> ((8 : Int32) &&& 31).toUInt32).toInt32)), (.int (1 : Int32)), (.ref b275), (.ref b275)])
  refine os (fun _ k => XS.iand X276.here hx rfl (hb hby at_47) rfl k) ?_
  show OGo p e below _ T276 (mkF m 48 #[.val (.int f), .val (.int r), .val (.int xx), .val (.int flag), .val (.ref b270), .unset, .unset, .unset, .unset, .unset, .unset, .unset, .unset] [(.int (((r.toUInt32 >>> ((8 : Int32) &&& 31).toUInt32).toInt32) &&& (255 : Int32))), (.int (1 : Int32)), (.ref b275), (.ref b275)])
  refine os (fun _ k => XS.i2c X276.here hx rfl (hb hby at_48) rfl k) ?_
  show OGo p e below _ T276 (mkF m 49 #[.val (.int f), .val (.int r), .val (.int xx), .val (.int flag), .val (.ref b270), .unset, .unset, .unset, .unset, .unset, .unset, .unset, .unset] [(.int ((((r.toUInt32 >>> ((8 : Int32) &&& 31).toUInt32).toInt32) &&& (255 : Int32)).toUInt32.toUInt16.toUInt32.toInt32)), (.int (1 : Int32)), (.ref b275), (.ref b275)])
  rw [i2c_mask]
  show OGo p e below _ T276 (mkF m 49 #[.val (.int f), .val (.int r), .val (.int xx), .val (.int flag), .val (.ref b270), .unset, .unset, .unset, .unset, .unset, .unset, .unset, .unset] [(.int (((r.toUInt32 >>> ((8 : Int32) &&& 31).toUInt32).toInt32) &&& (255 : Int32))), (.int (1 : Int32)), (.ref b275), (.ref b275)])
  obtain ⟨r1, er1⟩ : ∃ z, (((r.toUInt32 >>> ((8 : Int32) &&& 31).toUInt32).toInt32) &&& (255 : Int32)) = z := ⟨_, rfl⟩
  have hr1 := own_and255 ((r.toUInt32 >>> ((8 : Int32) &&& 31).toUInt32).toInt32)
  rw [er1] at hr1
  rw [er1]
  show OGo p e below _ T276 (mkF m 49 #[.val (.int f), .val (.int r), .val (.int xx), .val (.int flag), .val (.ref b270), .unset, .unset, .unset, .unset, .unset, .unset, .unset, .unset] [(.int r1), (.int (1 : Int32)), (.ref b275), (.ref b275)])
  obtain ⟨T278, h278, X278, e278, W278, Vq278, st278⟩ := castoreV X276 hx hZ e276 V276 (j := (1 : Int32)) ⟨by decide, by decide⟩ (show (1 : Int32).toNatClampNeg < 2 by decide) (g := (mkF m 49 #[.val (.int f), .val (.int r), .val (.int xx), .val (.int flag), .val (.ref b270), .unset, .unset, .unset, .unset, .unset, .unset, .unset, .unset] [(.int r1), (.int (1 : Int32)), (.ref b275), (.ref b275)])) rfl rfl (hb hby at_49)
  have N278 := Fr.snoc X278 N276 (Nat.le_trans Z0 sz_b275)
  have KK278 : Keep h0 h278 [] := KK276.wr W278 (Or.inr sz_b275)
  have H278 := CHv.wr W278 (Safe.wr W276 q277 H275 q277) H276
  have R278 := CHr.trans R276 (CHr.wr W278 (Safe.wr W276 q277 H275 q277) H276)
  have V278 : Arv Z h278 b275 k275 .char (2 : Int32) [(.int (nar .char r0)), (.int (nar .char r1))] (.int (0 : Int32)) := Vq278
  refine os st278 ?_
  show OGo p e below _ T278 (mkF m 50 #[.val (.int f), .val (.int r), .val (.int xx), .val (.int flag), .val (.ref b270), .unset, .unset, .unset, .unset, .unset, .unset, .unset, .unset] [(.ref b275)])
  have Vc279 : Arv Z h278 b275 k275 .char (Int32.ofNat [r0, r1].length) ([r0, r1].map Value.int) (.int (0 : Int32)) := by have q := V278; rw [own_narc hr0, own_narc hr1] at q; exact q
  refine os (fun _ k => XS.astore X278.here hx rfl (hb hby at_50) rfl rfl (l' := #[.val (.int f), .val (.int r), .val (.int xx), .val (.int flag), .val (.ref b270), .val (.ref b275), .unset, .unset, .unset, .unset, .unset, .unset, .unset]) rfl k) ?_
  show OGo p e below _ T278 (mkF m 52 #[.val (.int f), .val (.int r), .val (.int xx), .val (.int flag), .val (.ref b270), .val (.ref b275), .unset, .unset, .unset, .unset, .unset, .unset, .unset] [])
  obtain ⟨T280, h280, X280, e280, E280, A280, D280, UN280, st280⟩ := newO X278 hx hZ hown (own_g hw 1 rfl) (own_g hw 2 rfl) (own_g hw 3 rfl) e278 (g := (mkF m 52 #[.val (.int f), .val (.int r), .val (.int xx), .val (.int flag), .val (.ref b270), .val (.ref b275), .unset, .unset, .unset, .unset, .unset, .unset, .unset] [])) rfl (hb hby at_52) (by decide) (by decide)
  obtain ⟨b280, g280⟩ : ∃ z, z = h278.size := ⟨_, rfl⟩
  rw [← g280] at A280 D280 UN280 st280
  have sz_b280 : h0.size ≤ b280 := Nat.le_trans KK278.1 (Nat.le_of_eq g280.symm)
  have KK280 : Keep h0 h280 [] := KK278.ext E280
  have H280 := CHv.ext E280 H278
  have R280 := CHr.trans R278 (CHr.ext E280 H278)
  have F280_coder : Fld Z h280 b280 "java/lang/String" "coder" "B" (.int (0 : Int32)) := D280 (Or.inr (own_g hw 27 rfl)) (ty := .byte) (by decide)
  have F280_value : Fld Z h280 b280 "java/lang/String" "value" "[B" .null := D280 (Or.inr (own_g hw 29 rfl)) (ty := (.array .byte)) (by decide)
  refine os st280 ?_
  show OGo p e below _ T280 (mkF m 55 #[.val (.int f), .val (.int r), .val (.int xx), .val (.int flag), .val (.ref b270), .val (.ref b275), .unset, .unset, .unset, .unset, .unset, .unset, .unset] [(.ref b280)])
  refine os (fun _ k => XS.dup X280.here hx rfl (hb hby at_55) rfl rfl k) ?_
  show OGo p e below _ T280 (mkF m 56 #[.val (.int f), .val (.int r), .val (.int xx), .val (.int flag), .val (.ref b270), .val (.ref b275), .unset, .unset, .unset, .unset, .unset, .unset, .unset] [(.ref b280), (.ref b280)])
  refine os (fun _ k => XS.aload X280.here hx rfl (hb hby at_56) rfl rfl k) ?_
  show OGo p e below _ T280 (mkF m 58 #[.val (.int f), .val (.int r), .val (.int xx), .val (.int flag), .val (.ref b270), .val (.ref b275), .unset, .unset, .unset, .unset, .unset, .unset, .unset] [(.ref b270), (.ref b280), (.ref b280)])
  have q281 := (((((((O.ext E270).wr W271 (Nat.le_trans Z0 sz_b270)).wr W273 (Nat.le_trans Z0 sz_b270)).ext E275).wr W276 (Nat.le_trans Z0 sz_b275)).wr W278 (Nat.le_trans Z0 sz_b275)).ext E280)
  have ne282 : b270 ≠ b275 := (Nat.ne_of_lt (Nat.lt_of_lt_of_le ((AE270.wr W271).wr W273).lt (Nat.le_of_eq g275.symm)))
  have q283 := ((((Vc274.ext E275).other W276 ne282).other W278 ne282).ext E280)
  have ne284 : b270 ≠ b280 := (Nat.ne_of_lt (Nat.lt_of_lt_of_le (((((AE270.wr W271).wr W273).ext E275).wr W276).wr W278).lt (Nat.le_of_eq g280.symm)))
  have q285 := (Safe.ext E280 H278 (Safe.new (Nat.le_of_eq g280.symm)))
  obtain ⟨v286, T286, L286, X286, hQ286, st286⟩ := icall X280 hx hZ rfl hown (own_g hw 4 rfl) (own_g hw 5 rfl) (own_g hw 3 rfl) (own_g hw 6 rfl) (by decide) (W := 1) (rm_new1 l Z a0 hw [] b280 b270 k270 [f0, f1] zc wf n0 h280 SS' q281 q283 (own_ok2 hf0 hf1) (show 2 < 2147483648 by decide) (show 2 ≤ 2 by decide) A280 F280_coder F280_value (Nat.le_trans Z0 sz_b280) (show ¬ Int32.ofNat 2 = 0 by decide) ne284) e280 (by decide) (by decide) (by decide) (by decide) (g := (mkF m 58 #[.val (.int f), .val (.int r), .val (.int xx), .val (.int flag), .val (.ref b270), .val (.ref b275), .unset, .unset, .unset, .unset, .unset, .unset, .unset] [(.ref b270), (.ref b280), (.ref b280)])) rfl (by rw [hml]; rfl) (a := b280) (argsL := [(.ref b270)]) (rest := [(.ref b280)]) opd_31 rfl rfl rfl (by show 2 * 0 + _ ≤ _; exact Nat.le_of_eq rfl) (hb hby at_58)
  obtain ⟨rfl, N286, K286, r286, kr286, sr286, I286⟩ := hQ286
  have NN286 := Fr.app N278 N286
  have KK286 : Keep h0 T286.heap [] := KK280.trans K286 (allS (Or.inr sz_b280) all0)
  have H286 := CHv.keep K286 (sfS q285 sf0) H280
  have R286 := CHr.trans R280 (CHr.keep K286 (sfS q285 sf0) H280)
  have sz_r286 : h0.size ≤ r286 := Nat.le_trans KK280.1 sr286
  refine os st286 ?_
  show OGo p e below _ T286 (mkF m 61 #[.val (.int f), .val (.int r), .val (.int xx), .val (.int flag), .val (.ref b270), .val (.ref b275), .unset, .unset, .unset, .unset, .unset, .unset, .unset] [(.ref b280)])
  obtain ⟨IE286, IC286, IF286, IV286⟩ := I286
  refine os (fun _ k => XS.astore X286.here hx rfl (hb hby at_61) rfl rfl (l' := #[.val (.int f), .val (.int r), .val (.int xx), .val (.int flag), .val (.ref b270), .val (.ref b275), .val (.ref b280), .unset, .unset, .unset, .unset, .unset, .unset]) rfl k) ?_
  show OGo p e below _ T286 (mkF m 63 #[.val (.int f), .val (.int r), .val (.int xx), .val (.int flag), .val (.ref b270), .val (.ref b275), .val (.ref b280), .unset, .unset, .unset, .unset, .unset, .unset] [])
  obtain ⟨T287, h287, X287, e287, E287, A287, D287, UN287, st287⟩ := newO X286 hx hZ hown (own_g hw 1 rfl) (own_g hw 2 rfl) (own_g hw 3 rfl) rfl (g := (mkF m 63 #[.val (.int f), .val (.int r), .val (.int xx), .val (.int flag), .val (.ref b270), .val (.ref b275), .val (.ref b280), .unset, .unset, .unset, .unset, .unset, .unset] [])) rfl (hb hby at_63) (by decide) (by decide)
  obtain ⟨b287, g287⟩ : ∃ z, z = T286.heap.size := ⟨_, rfl⟩
  rw [← g287] at A287 D287 UN287 st287
  have sz_b287 : h0.size ≤ b287 := Nat.le_trans KK286.1 (Nat.le_of_eq g287.symm)
  have KK287 : Keep h0 h287 [] := KK286.ext E287
  have H287 := CHv.ext E287 H286
  have R287 := CHr.trans R286 (CHr.ext E287 H286)
  have F287_coder : Fld Z h287 b287 "java/lang/String" "coder" "B" (.int (0 : Int32)) := D287 (Or.inr (own_g hw 27 rfl)) (ty := .byte) (by decide)
  have F287_value : Fld Z h287 b287 "java/lang/String" "value" "[B" .null := D287 (Or.inr (own_g hw 29 rfl)) (ty := (.array .byte)) (by decide)
  refine os st287 ?_
  show OGo p e below _ T287 (mkF m 66 #[.val (.int f), .val (.int r), .val (.int xx), .val (.int flag), .val (.ref b270), .val (.ref b275), .val (.ref b280), .unset, .unset, .unset, .unset, .unset, .unset] [(.ref b287)])
  refine os (fun _ k => XS.dup X287.here hx rfl (hb hby at_66) rfl rfl k) ?_
  show OGo p e below _ T287 (mkF m 67 #[.val (.int f), .val (.int r), .val (.int xx), .val (.int flag), .val (.ref b270), .val (.ref b275), .val (.ref b280), .unset, .unset, .unset, .unset, .unset, .unset] [(.ref b287), (.ref b287)])
  refine os (fun _ k => XS.aload X287.here hx rfl (hb hby at_67) rfl rfl k) ?_
  show OGo p e below _ T287 (mkF m 69 #[.val (.int f), .val (.int r), .val (.int xx), .val (.int flag), .val (.ref b270), .val (.ref b275), .val (.ref b280), .unset, .unset, .unset, .unset, .unset, .unset] [(.ref b275), (.ref b287), (.ref b287)])
  have q288 := ((q281.keep K286 (allS (Nat.le_trans Z0 sz_b280) all0)).ext E287)
  have ne289 : b275 ≠ b280 := (Nat.ne_of_lt (Nat.lt_of_lt_of_le ((AE275.wr W276).wr W278).lt (Nat.le_of_eq g280.symm)))
  have q290 := (((Vc279.ext E280).keep K286 (ninS ne289 nin0)).ext E287)
  have ne291 : b275 ≠ b287 := (Nat.ne_of_lt (Nat.lt_of_lt_of_le ((((AE275.wr W276).wr W278).ext E280).keep K286).lt (Nat.le_of_eq g287.symm)))
  have q292 := (Safe.ext E287 H286 (Safe.new (Nat.le_of_eq g287.symm)))
  obtain ⟨v293, T293, L293, X293, hQ293, st293⟩ := icall X287 hx hZ rfl hown (own_g hw 4 rfl) (own_g hw 5 rfl) (own_g hw 3 rfl) (own_g hw 6 rfl) (by decide) (W := 1) (rm_new1 l Z a0 hw [] b287 b275 k275 [r0, r1] zc wf n0 h287 SS' q288 q290 (own_ok2 hr0 hr1) (show 2 < 2147483648 by decide) (show 2 ≤ 2 by decide) A287 F287_coder F287_value (Nat.le_trans Z0 sz_b287) (show ¬ Int32.ofNat 2 = 0 by decide) ne291) e287 (by decide) (by decide) (by decide) (by decide) (g := (mkF m 69 #[.val (.int f), .val (.int r), .val (.int xx), .val (.int flag), .val (.ref b270), .val (.ref b275), .val (.ref b280), .unset, .unset, .unset, .unset, .unset, .unset] [(.ref b275), (.ref b287), (.ref b287)])) rfl (by rw [hml]; rfl) (a := b287) (argsL := [(.ref b275)]) (rest := [(.ref b287)]) opd_31 rfl rfl rfl (by show 2 * 0 + _ ≤ _; exact Nat.le_of_eq rfl) (hb hby at_69)
  obtain ⟨rfl, N293, K293, r293, kr293, sr293, I293⟩ := hQ293
  have NN293 := Fr.app NN286 N293
  have KK293 : Keep h0 T293.heap [] := KK287.trans K293 (allS (Or.inr sz_b287) all0)
  have H293 := CHv.keep K293 (sfS q292 sf0) H287
  have R293 := CHr.trans R287 (CHr.keep K293 (sfS q292 sf0) H287)
  have sz_r293 : h0.size ≤ r293 := Nat.le_trans KK287.1 sr293
  refine os st293 ?_
  show OGo p e below _ T293 (mkF m 72 #[.val (.int f), .val (.int r), .val (.int xx), .val (.int flag), .val (.ref b270), .val (.ref b275), .val (.ref b280), .unset, .unset, .unset, .unset, .unset, .unset] [(.ref b287)])
  obtain ⟨IE293, IC293, IF293, IV293⟩ := I293
  refine os (fun _ k => XS.astore X293.here hx rfl (hb hby at_72) rfl rfl (l' := #[.val (.int f), .val (.int r), .val (.int xx), .val (.int flag), .val (.ref b270), .val (.ref b275), .val (.ref b280), .val (.ref b287), .unset, .unset, .unset, .unset, .unset]) rfl k) ?_
  show OGo p e below _ T293 (mkF m 74 #[.val (.int f), .val (.int r), .val (.int xx), .val (.int flag), .val (.ref b270), .val (.ref b275), .val (.ref b280), .val (.ref b287), .unset, .unset, .unset, .unset, .unset] [])
  refine os (fun _ k => XS.iloadN X293.here hx rfl (hb hby at_74) rfl k) ?_
  show OGo p e below _ T293 (mkF m 75 #[.val (.int f), .val (.int r), .val (.int xx), .val (.int flag), .val (.ref b270), .val (.ref b275), .val (.ref b280), .val (.ref b287), .unset, .unset, .unset, .unset, .unset] [(.int flag)])
  refine os (fun _ k => XS.iconst X293.here hx rfl (hb hby at_75) k) ?_
  show OGo p e below _ T293 (mkF m 76 #[.val (.int f), .val (.int r), .val (.int xx), .val (.int flag), .val (.ref b270), .val (.ref b275), .val (.ref b280), .val (.ref b287), .unset, .unset, .unset, .unset, .unset] [(.int (1 : Int32)), (.int flag)])
  refine os (fun _ k => XS.iand X293.here hx rfl (hb hby at_76) rfl k) ?_
  show OGo p e below _ T293 (mkF m 77 #[.val (.int f), .val (.int r), .val (.int xx), .val (.int flag), .val (.ref b270), .val (.ref b275), .val (.ref b280), .val (.ref b287), .unset, .unset, .unset, .unset, .unset] [(.int (flag &&& (1 : Int32)))])
  have K88 : ∀ (n : Nat) (_ : n < 2147483648), OGo p e below (EndH Z own_EL s room_1 (own_Q n0)) T293 (mkF m 88 #[.val (.int f), .val (.int r), .val (.int xx), .val (.int flag), .val (.ref b270), .val (.ref b275), .val (.ref b280), .val (.ref b287), .unset, .unset, .unset, .unset, .unset] [(.int (Int32.ofNat n))]) := by
    intro n hn
    obtain ⟨P1, P2, P3, P4⟩ := own_dpow hn
    show OGo p e below _ T293 (mkF m 88 #[.val (.int f), .val (.int r), .val (.int xx), .val (.int flag), .val (.ref b270), .val (.ref b275), .val (.ref b280), .val (.ref b287), .unset, .unset, .unset, .unset, .unset] [(.int (Int32.ofNat n))])
    refine os (fun _ k => XS.istore X293.here hx rfl (hb hby at_88) rfl (l' := #[.val (.int f), .val (.int r), .val (.int xx), .val (.int flag), .val (.ref b270), .val (.ref b275), .val (.ref b280), .val (.ref b287), .val (.int (Int32.ofNat n)), .unset, .unset, .unset, .unset]) rfl k) ?_
    show OGo p e below _ T293 (mkF m 90 #[.val (.int f), .val (.int r), .val (.int xx), .val (.int flag), .val (.ref b270), .val (.ref b275), .val (.ref b280), .val (.ref b287), .val (.int (Int32.ofNat n)), .unset, .unset, .unset, .unset] [])
    obtain ⟨T294, h294, X294, e294, E294, A294, D294, UN294, st294⟩ := newO X293 hx hZ hown (own_g hw 30 rfl) (own_g hw 31 rfl) (own_g hw 32 rfl) rfl (g := (mkF m 90 #[.val (.int f), .val (.int r), .val (.int xx), .val (.int flag), .val (.ref b270), .val (.ref b275), .val (.ref b280), .val (.ref b287), .val (.int (Int32.ofNat n)), .unset, .unset, .unset, .unset] [])) rfl (hb hby at_90) (by decide) (by decide)
    obtain ⟨b294, g294⟩ : ∃ z, z = T293.heap.size := ⟨_, rfl⟩
    rw [← g294] at A294 D294 UN294 st294
    have sz_b294 : h0.size ≤ b294 := Nat.le_trans KK293.1 (Nat.le_of_eq g294.symm)
    have KK294 : Keep h0 h294 [] := KK293.ext E294
    have H294 := CHv.ext E294 H293
    have R294 := CHr.trans R293 (CHr.ext E294 H293)
    have F294_cause : Fld Z h294 b294 "java/lang/Throwable" "cause" "Ljava/lang/Throwable;" .null := D294 (Or.inl (own_g hw 49 rfl)) (ty := (.object "java/lang/Throwable")) (by decide)
    have F294_stackTrace : Fld Z h294 b294 "java/lang/Throwable" "stackTrace" "[Ljava/lang/StackTraceElement;" .null := D294 (Or.inl (own_g hw 52 rfl)) (ty := (.array (.object "java/lang/StackTraceElement"))) (by decide)
    have F294_suppressedExceptions : Fld Z h294 b294 "java/lang/Throwable" "suppressedExceptions" "Ljava/util/List;" .null := D294 (Or.inl (own_g hw 55 rfl)) (ty := (.object "java/util/List")) (by decide)
    have F294_detailMessage : Fld Z h294 b294 "java/lang/Throwable" "detailMessage" "Ljava/lang/String;" .null := D294 (Or.inl (own_g hw 79 rfl)) (ty := (.object "java/lang/String")) (by decide)
    have F294_backtrace : Fld Z h294 b294 "java/lang/Throwable" "backtrace" "Ljava/lang/Object;" .null := D294 (Or.inl (own_g hw 80 rfl)) (ty := (.object "java/lang/Object")) (by decide)
    refine os st294 ?_
    show OGo p e below _ T294 (mkF m 93 #[.val (.int f), .val (.int r), .val (.int xx), .val (.int flag), .val (.ref b270), .val (.ref b275), .val (.ref b280), .val (.ref b287), .val (.int (Int32.ofNat n)), .unset, .unset, .unset, .unset] [(.ref b294)])
    refine os (fun _ k => XS.dup X294.here hx rfl (hb hby at_93) rfl rfl k) ?_
    show OGo p e below _ T294 (mkF m 94 #[.val (.int f), .val (.int r), .val (.int xx), .val (.int flag), .val (.ref b270), .val (.ref b275), .val (.ref b280), .val (.ref b287), .val (.int (Int32.ofNat n)), .unset, .unset, .unset, .unset] [(.ref b294), (.ref b294)])
    refine os (fun _ k => XS.iload X294.here hx rfl (hb hby at_94) rfl k) ?_
    show OGo p e below _ T294 (mkF m 96 #[.val (.int f), .val (.int r), .val (.int xx), .val (.int flag), .val (.ref b270), .val (.ref b275), .val (.ref b280), .val (.ref b287), .val (.int (Int32.ofNat n)), .unset, .unset, .unset, .unset] [(.int (Int32.ofNat n)), (.ref b294), (.ref b294)])
    refine os (fun _ k => XS.aload X294.here hx rfl (hb hby at_96) rfl rfl k) ?_
    show OGo p e below _ T294 (mkF m 98 #[.val (.int f), .val (.int r), .val (.int xx), .val (.int flag), .val (.ref b270), .val (.ref b275), .val (.ref b280), .val (.ref b287), .val (.int (Int32.ofNat n)), .unset, .unset, .unset, .unset] [(.ref b287), (.int (Int32.ofNat n)), (.ref b294), (.ref b294)])
    have q295 := ((q288.keep K293 (allS (Nat.le_trans Z0 sz_b287) all0)).ext E294)
    obtain ⟨v296, T296, L296, kk296, X296, hS296, hk296, hZ296, hown296, CR296, hQ296, st296⟩ := icallK X294 hx hZ rfl hown (own_hEL hw) hS0 (Nat.le_trans (Nat.le_trans (Nat.le_trans (Nat.le_trans (Nat.le_trans (Nat.le_trans (Nat.le_trans (Nat.le_trans (Nat.le_trans (Nat.le_trans (Nat.le_trans (Nat.zero_le _) E270.1) (Nat.le_of_eq W271.size.symm)) (Nat.le_of_eq W273.size.symm)) E275.1) (Nat.le_of_eq W276.size.symm)) (Nat.le_of_eq W278.size.symm)) E280.1) K286.1) E287.1) K293.1) E294.1) H294 hTK hBl (own_g hw 33 rfl) (own_g hw 34 rfl) (own_g hw 32 rfl) (own_g hw 35 rfl) (by decide) (W := 1) (rm_inp l Z a0 hw [] b294 b287 r293 kr293 (own_b8 [r0, r1]) n zc wf n0 u0 u1 d1 d2 kd1 kd2 h294 SS' q295 TS hlt SI hn A294 UN294 (Nat.le_trans Z0 sz_b294) F294_cause F294_stackTrace F294_suppressedExceptions F294_backtrace F294_detailMessage ⟨(IE293.ext E294), (IC293.ext E294), (IF293.ext E294), (IV293.ext E294)⟩ rfl) e294 (by decide) (by decide) (by decide) (by decide) (g := (mkF m 98 #[.val (.int f), .val (.int r), .val (.int xx), .val (.int flag), .val (.ref b270), .val (.ref b275), .val (.ref b280), .val (.ref b287), .val (.int (Int32.ofNat n)), .unset, .unset, .unset, .unset] [(.ref b287), (.int (Int32.ofNat n)), (.ref b294), (.ref b294)])) rfl (by rw [hml]; rfl) (a := b294) (argsL := [(.int (Int32.ofNat n)), (.ref b287)]) (rest := [(.ref b294)]) opd_13 rfl rfl rfl (by show 2 * 0 + _ ≤ _; exact Nat.le_of_eq rfl) (hb hby at_98)
    obtain ⟨rfl, N296, K296, FL296, FR296⟩ := hQ296
    have NN296 := Fr.app NN293 N296
    have KK296 : Keep h0 T296.heap [] := KK294.trans K296 (allS (Or.inr sz_b294) all0)
    have H296 := CR296.1
    have R296 := CHr.trans R294 CR296
    refine os st296 ?_
    show OGo p e below _ T296 (mkF m 101 #[.val (.int f), .val (.int r), .val (.int xx), .val (.int flag), .val (.ref b270), .val (.ref b275), .val (.ref b280), .val (.ref b287), .val (.int (Int32.ofNat n)), .unset, .unset, .unset, .unset] [(.ref b294)])
    refine os (fun _ k => XS.astore X296.here hx rfl (hb hby at_101) rfl rfl (l' := #[.val (.int f), .val (.int r), .val (.int xx), .val (.int flag), .val (.ref b270), .val (.ref b275), .val (.ref b280), .val (.ref b287), .val (.int (Int32.ofNat n)), .val (.ref b294), .unset, .unset, .unset]) rfl k) ?_
    show OGo p e below _ T296 (mkF m 103 #[.val (.int f), .val (.int r), .val (.int xx), .val (.int flag), .val (.ref b270), .val (.ref b275), .val (.ref b280), .val (.ref b287), .val (.int (Int32.ofNat n)), .val (.ref b294), .unset, .unset, .unset] [])
    refine os (fun _ k => XS.aload X296.here hx rfl (hb hby at_103) rfl rfl k) ?_
    show OGo p e below _ T296 (mkF m 105 #[.val (.int f), .val (.int r), .val (.int xx), .val (.int flag), .val (.ref b270), .val (.ref b275), .val (.ref b280), .val (.ref b287), .val (.int (Int32.ofNat n)), .val (.ref b294), .unset, .unset, .unset] [(.ref b294)])
    refine os (fun _ k => XS.aload X296.here hx rfl (hb hby at_105) rfl rfl k) ?_
    show OGo p e below _ T296 (mkF m 107 #[.val (.int f), .val (.int r), .val (.int xx), .val (.int flag), .val (.ref b270), .val (.ref b275), .val (.ref b280), .val (.ref b287), .val (.int (Int32.ofNat n)), .val (.ref b294), .unset, .unset, .unset] [(.ref b280), (.ref b294)])
    have q297 := (q295.keep K296 (allS (Nat.le_trans Z0 sz_b294) all0))
    have q298 := ((((IE286.ext E287).keep K293).ext E294).keep K296)
    have ne299 : b280 ≠ b287 := (Nat.ne_of_lt (Nat.lt_of_lt_of_le IC286.lt (Nat.le_of_eq g287.symm)))
    have ne300 : b280 ≠ b294 := (Nat.ne_of_lt (Nat.lt_of_lt_of_le ((IC286.ext E287).keep K293 (ninS ne299 nin0)).lt (Nat.le_of_eq g294.symm)))
    have q301 := ((((IC286.ext E287).keep K293 (ninS ne299 nin0)).ext E294).keep K296 (ninS ne300 nin0))
    have q302 := ((((IF286.ext E287).keep K293 (ninS ne299 nin0)).ext E294).keep K296 (ninS ne300 nin0))
    have ne303 : r286 ≠ b287 := (Nat.ne_of_lt (Nat.lt_of_lt_of_le IV286.lt (Nat.le_of_eq g287.symm)))
    have ne304 : r286 ≠ b294 := (Nat.ne_of_lt (Nat.lt_of_lt_of_le ((IV286.ext E287).keep K293 (ninS ne303 nin0)).lt (Nat.le_of_eq g294.symm)))
    have q305 := ((((IV286.ext E287).keep K293 (ninS ne303 nin0)).ext E294).keep K296 (ninS ne304 nin0))
    have ne306 : b287 ≠ b294 := (Nat.ne_of_lt (Nat.lt_of_lt_of_le IC293.lt (Nat.le_of_eq g294.symm)))
    have q307 := ((IC293.ext E294).keep K296 (ninS ne306 nin0))
    have q308 := ((IF293.ext E294).keep K296 (ninS ne306 nin0))
    have ne309 : r293 ≠ b294 := (Nat.ne_of_lt (Nat.lt_of_lt_of_le IV293.lt (Nat.le_of_eq g294.symm)))
    have q310 := ((IV293.ext E294).keep K296 (ninS ne309 nin0))
    obtain ⟨v311, T311, L311, kk311, X311, hS311, hk311, hZ311, hown311, CR311, hQ311, st311⟩ := vcallH X296 hx hZ296 hown296 (own_hEL hw) hS296 hk296 H296 (own_g hw 88 rfl) (own_g hw 89 rfl) (own_g hw 91 rfl) rfl (own_g hw 91 rfl) (own_g hw 90 rfl) (own_g hw 32 rfl) (own_g hw 92 rfl) (by decide) (W := 0) (rm_desc l Z a0 hw [] b294 b280 r286 b287 r293 kr286 kr293 (own_b8 [f0, f1]) (own_b8 [r0, r1]) n zc wf n0 d1 d2 kd1 kd2 T296.heap SS' q297 SI hn ⟨q298, q301, q302, q305⟩ ⟨((IE293.ext E294).keep K296), q307, q308, q310⟩ FL296 FR296 rfl rfl) rfl (by decide) (by decide) (by decide) (by decide) (g := (mkF m 107 #[.val (.int f), .val (.int r), .val (.int xx), .val (.int flag), .val (.ref b270), .val (.ref b275), .val (.ref b280), .val (.ref b287), .val (.int (Int32.ofNat n)), .val (.ref b294), .unset, .unset, .unset] [(.ref b280), (.ref b294)])) rfl (by rw [hml]; rfl) (A294.keep K296) (argsL := [(.ref b280)]) (rest := []) opd_32 rfl rfl rfl (by show 2 * 0 + _ ≤ _; exact Nat.le_of_eq rfl) (hb hby at_107)
    obtain ⟨m311, r311, kr311, rfl, sm311, N311, K311, I311⟩ := hQ311
    have NN311 := Fr.app NN296 N311
    have KK311 : Keep h0 T311.heap [] := KK296.trans K311 all0
    have H311 := CR311.1
    have R311 := CHr.trans R296 CR311
    have sz_m311 : h0.size ≤ m311 := Nat.le_trans KK296.1 sm311
    refine os st311 ?_
    show OGo p e below _ T311 (mkF m 110 #[.val (.int f), .val (.int r), .val (.int xx), .val (.int flag), .val (.ref b270), .val (.ref b275), .val (.ref b280), .val (.ref b287), .val (.int (Int32.ofNat n)), .val (.ref b294), .unset, .unset, .unset] [(.ref m311)])
    refine os (fun _ k => XS.astore X311.here hx rfl (hb hby at_110) rfl rfl (l' := #[.val (.int f), .val (.int r), .val (.int xx), .val (.int flag), .val (.ref b270), .val (.ref b275), .val (.ref b280), .val (.ref b287), .val (.int (Int32.ofNat n)), .val (.ref b294), .val (.ref m311), .unset, .unset]) rfl k) ?_
    show OGo p e below _ T311 (mkF m 112 #[.val (.int f), .val (.int r), .val (.int xx), .val (.int flag), .val (.ref b270), .val (.ref b275), .val (.ref b280), .val (.ref b287), .val (.int (Int32.ofNat n)), .val (.ref b294), .val (.ref m311), .unset, .unset] [])
    refine os (fun _ k => XS.iload X311.here hx rfl (hb hby at_112) rfl k) ?_
    show OGo p e below _ T311 (mkF m 114 #[.val (.int f), .val (.int r), .val (.int xx), .val (.int flag), .val (.ref b270), .val (.ref b275), .val (.ref b280), .val (.ref b287), .val (.int (Int32.ofNat n)), .val (.ref b294), .val (.ref m311), .unset, .unset] [(.int (Int32.ofNat n))])
    by_cases q : n = 0
    case pos =>
      subst q
      refine os (fun _ k => XS.ifNo X311.here hx rfl (hb hby at_114) rfl ((if0 _ _).trans (teq (rfl : (0 : Int32) = 0)).2) k) ?_
      show OGo p e below _ T311 (mkF m 117 #[.val (.int f), .val (.int r), .val (.int xx), .val (.int flag), .val (.ref b270), .val (.ref b275), .val (.ref b280), .val (.ref b287), .val (.int (Int32.ofNat 0)), .val (.ref b294), .val (.ref m311), .unset, .unset] [])
      have e0 : own_us 0 (own_b8 [f0, f1]) (own_b8 [r0, r1]) = [.int f0.toInt8.toInt32, .int f1.toInt8.toInt32, .int (58 : Int32), .int (32 : Int32), .int r0.toInt8.toInt32, .int r1.toInt8.toInt32] := rfl
      rw [e0] at I311
      generalize hus : [Value.int f0.toInt8.toInt32, .int f1.toInt8.toInt32, .int (58 : Int32), .int (32 : Int32), .int r0.toInt8.toInt32, .int r1.toInt8.toInt32] = us at I311
      have hl : us.length = 6 := by rw [← hus]; rfl
      refine os (fun _ k => XS.aload X311.here hx rfl (hb hby at_117) rfl rfl k) ?_
      show OGo p e below _ T311 (mkF m 119 #[.val (.int f), .val (.int r), .val (.int xx), .val (.int flag), .val (.ref b270), .val (.ref b275), .val (.ref b280), .val (.ref b287), .val (.int (Int32.ofNat 0)), .val (.ref b294), .val (.ref m311), .unset, .unset] [(.ref m311)])
      obtain ⟨v312, T312, L312, X312, hQ312, st312⟩ := vcall X311 hx hZ311 hown311 (own_g hw 206 rfl) (own_g hw 122 rfl) (own_g hw 124 rfl) rfl (own_g hw 124 rfl) (own_g hw 123 rfl) (own_g hw 3 rfl) (own_g hw 125 rfl) (by decide) (W := 0) (rm_length l Z a0 hw [] m311 r311 kr311 us zc wf n0 T311.heap SS' (q297.keep K311 all0) I311) rfl (by decide) (by decide) (by decide) (by decide) (g := (mkF m 119 #[.val (.int f), .val (.int r), .val (.int xx), .val (.int flag), .val (.ref b270), .val (.ref b275), .val (.ref b280), .val (.ref b287), .val (.int (Int32.ofNat 0)), .val (.ref b294), .val (.ref m311), .unset, .unset] [(.ref m311)])) rfl (by rw [hml]; rfl) I311.1 (argsL := []) (rest := []) opd_11 rfl rfl rfl (by show 2 * 0 + _ ≤ _; exact Nat.le_of_eq rfl) (hb hby at_119)
      obtain ⟨rfl, rfl, e312⟩ := hQ312
      rw [List.append_nil] at X312
      refine os st312 ?_
      show OGo p e below _ T312 (mkF m 122 #[.val (.int f), .val (.int r), .val (.int xx), .val (.int flag), .val (.ref b270), .val (.ref b275), .val (.ref b280), .val (.ref b287), .val (.int (Int32.ofNat 0)), .val (.ref b294), .val (.ref m311), .unset, .unset] [(.int (Int32.ofNat us.length))])
      refine os (fun _ k => XS.bipush X312.here hx rfl (hb hby at_122) k) ?_
      show OGo p e below _ T312 (mkF m 124 #[.val (.int f), .val (.int r), .val (.int xx), .val (.int flag), .val (.ref b270), .val (.ref b275), .val (.ref b280), .val (.ref b287), .val (.int (Int32.ofNat 0)), .val (.ref b294), .val (.ref m311), .unset, .unset] [(.int (6 : Int32)), (.int (Int32.ofNat us.length))])
      refine os (fun _ k => XS.icmpNo X312.here hx rfl (hb hby at_124) rfl (teq (by rw [hl]; rfl)).2 k) ?_
      show OGo p e below _ T312 (mkF m 127 #[.val (.int f), .val (.int r), .val (.int xx), .val (.int flag), .val (.ref b270), .val (.ref b275), .val (.ref b280), .val (.ref b287), .val (.int (Int32.ofNat 0)), .val (.ref b294), .val (.ref m311), .unset, .unset] [])
      refine os (fun _ k => XS.aload X312.here hx rfl (hb hby at_127) rfl rfl k) ?_
      show OGo p e below _ T312 (mkF m 129 #[.val (.int f), .val (.int r), .val (.int xx), .val (.int flag), .val (.ref b270), .val (.ref b275), .val (.ref b280), .val (.ref b287), .val (.int (Int32.ofNat 0)), .val (.ref b294), .val (.ref m311), .unset, .unset] [(.ref m311)])
      refine os (fun _ k => XS.iconst X312.here hx rfl (hb hby at_129) k) ?_
      show OGo p e below _ T312 (mkF m 130 #[.val (.int f), .val (.int r), .val (.int xx), .val (.int flag), .val (.ref b270), .val (.ref b275), .val (.ref b280), .val (.ref b287), .val (.int (Int32.ofNat 0)), .val (.ref b294), .val (.ref m311), .unset, .unset] [(.int (0 : Int32)), (.ref m311)])
      obtain ⟨v313, T313, L313, X313, hQ313, st313⟩ := vcall X312 hx hZ311 hown311 (own_g hw 207 rfl) (own_g hw 208 rfl) (own_g hw 210 rfl) rfl (own_g hw 210 rfl) (own_g hw 209 rfl) (own_g hw 3 rfl) (own_g hw 211 rfl) (by decide) (W := 0) (rm_charAt l Z a0 hw [] m311 r311 kr311 us (0 : Int32) f0.toInt8.toInt32 zc wf n0 T311.heap SS' (q297.keep K311 all0) I311 (by decide) (show Int32.ofNat 0 < Int32.ofNat us.length from (own_lt (by decide) (by rw [hl]; omega)).mpr (by rw [hl]; omega)) (show us.getD 0 _ = _ from (by rw [← hus]; rfl))) e312 (by decide) (by decide) (by decide) (by decide) (g := (mkF m 130 #[.val (.int f), .val (.int r), .val (.int xx), .val (.int flag), .val (.ref b270), .val (.ref b275), .val (.ref b280), .val (.ref b287), .val (.int (Int32.ofNat 0)), .val (.ref b294), .val (.ref m311), .unset, .unset] [(.int (0 : Int32)), (.ref m311)])) rfl (by rw [hml]; rfl) I311.1 (argsL := [(.int (0 : Int32))]) (rest := []) opd_30 rfl rfl rfl (by show 2 * 0 + _ ≤ _; exact Nat.le_of_eq rfl) (hb hby at_130)
      obtain ⟨rfl, rfl, e313⟩ := hQ313
      rw [List.append_nil] at X313
      refine os st313 ?_
      show OGo p e below _ T313 (mkF m 133 #[.val (.int f), .val (.int r), .val (.int xx), .val (.int flag), .val (.ref b270), .val (.ref b275), .val (.ref b280), .val (.ref b287), .val (.int (Int32.ofNat 0)), .val (.ref b294), .val (.ref m311), .unset, .unset] [(.int (f0.toInt8.toInt32 &&& 255))])
      refine os (fun _ k => XS.aload X313.here hx rfl (hb hby at_133) rfl rfl k) ?_
      show OGo p e below _ T313 (mkF m 135 #[.val (.int f), .val (.int r), .val (.int xx), .val (.int flag), .val (.ref b270), .val (.ref b275), .val (.ref b280), .val (.ref b287), .val (.int (Int32.ofNat 0)), .val (.ref b294), .val (.ref m311), .unset, .unset] [(.ref b270), (.int (f0.toInt8.toInt32 &&& 255))])
      refine os (fun _ k => XS.iconst X313.here hx rfl (hb hby at_135) k) ?_
      show OGo p e below _ T313 (mkF m 136 #[.val (.int f), .val (.int r), .val (.int xx), .val (.int flag), .val (.ref b270), .val (.ref b275), .val (.ref b280), .val (.ref b287), .val (.int (Int32.ofNat 0)), .val (.ref b294), .val (.ref m311), .unset, .unset] [(.int (0 : Int32)), (.ref b270), (.int (f0.toInt8.toInt32 &&& 255))])
      have ne314 : b270 ≠ b287 := (Nat.ne_of_lt (Nat.lt_of_lt_of_le (((((((AE270.wr W271).wr W273).ext E275).wr W276).wr W278).ext E280).keep K286).lt (Nat.le_of_eq g287.symm)))
      have ne315 : b270 ≠ b294 := (Nat.ne_of_lt (Nat.lt_of_lt_of_le (((((((((AE270.wr W271).wr W273).ext E275).wr W276).wr W278).ext E280).keep K286).ext E287).keep K293).lt (Nat.le_of_eq g294.symm)))
      have q316 := ((((((q283.keep K286 (ninS ne284 nin0)).ext E287).keep K293 (ninS ne314 nin0)).ext E294).keep K296 (ninS ne315 nin0)).keep K311 nin0)
      refine os (fun _ k => caloadV X313 hx hZ311 e313 q316 ⟨by decide, (show (0 : Int32) < (2 : Int32) by decide)⟩ rfl (g := (mkF m 136 #[.val (.int f), .val (.int r), .val (.int xx), .val (.int flag), .val (.ref b270), .val (.ref b275), .val (.ref b280), .val (.ref b287), .val (.int (Int32.ofNat 0)), .val (.ref b294), .val (.ref m311), .unset, .unset] [(.int (0 : Int32)), (.ref b270), (.int (f0.toInt8.toInt32 &&& 255))])) rfl rfl (hb hby at_136) _ k) ?_
      show OGo p e below _ T313 (mkF m 137 #[.val (.int f), .val (.int r), .val (.int xx), .val (.int flag), .val (.ref b270), .val (.ref b275), .val (.ref b280), .val (.ref b287), .val (.int (Int32.ofNat 0)), .val (.ref b294), .val (.ref m311), .unset, .unset] [(.int f0), (.int (f0.toInt8.toInt32 &&& 255))])
      refine os (fun _ k => XS.icmpNo X313.here hx rfl (hb hby at_137) rfl (teq (own_lo8 hf0)).2 k) ?_
      show OGo p e below _ T313 (mkF m 140 #[.val (.int f), .val (.int r), .val (.int xx), .val (.int flag), .val (.ref b270), .val (.ref b275), .val (.ref b280), .val (.ref b287), .val (.int (Int32.ofNat 0)), .val (.ref b294), .val (.ref m311), .unset, .unset] [])
      refine os (fun _ k => XS.aload X313.here hx rfl (hb hby at_140) rfl rfl k) ?_
      show OGo p e below _ T313 (mkF m 142 #[.val (.int f), .val (.int r), .val (.int xx), .val (.int flag), .val (.ref b270), .val (.ref b275), .val (.ref b280), .val (.ref b287), .val (.int (Int32.ofNat 0)), .val (.ref b294), .val (.ref m311), .unset, .unset] [(.ref m311)])
      refine os (fun _ k => XS.iconst X313.here hx rfl (hb hby at_142) k) ?_
      show OGo p e below _ T313 (mkF m 143 #[.val (.int f), .val (.int r), .val (.int xx), .val (.int flag), .val (.ref b270), .val (.ref b275), .val (.ref b280), .val (.ref b287), .val (.int (Int32.ofNat 0)), .val (.ref b294), .val (.ref m311), .unset, .unset] [(.int (1 : Int32)), (.ref m311)])
      obtain ⟨v317, T317, L317, X317, hQ317, st317⟩ := vcall X313 hx hZ311 hown311 (own_g hw 207 rfl) (own_g hw 208 rfl) (own_g hw 210 rfl) rfl (own_g hw 210 rfl) (own_g hw 209 rfl) (own_g hw 3 rfl) (own_g hw 211 rfl) (by decide) (W := 0) (rm_charAt l Z a0 hw [] m311 r311 kr311 us (1 : Int32) f1.toInt8.toInt32 zc wf n0 T311.heap SS' (q297.keep K311 all0) I311 (by decide) (show Int32.ofNat 1 < Int32.ofNat us.length from (own_lt (by decide) (by rw [hl]; omega)).mpr (by rw [hl]; omega)) (show us.getD 1 _ = _ from (by rw [← hus]; rfl))) e313 (by decide) (by decide) (by decide) (by decide) (g := (mkF m 143 #[.val (.int f), .val (.int r), .val (.int xx), .val (.int flag), .val (.ref b270), .val (.ref b275), .val (.ref b280), .val (.ref b287), .val (.int (Int32.ofNat 0)), .val (.ref b294), .val (.ref m311), .unset, .unset] [(.int (1 : Int32)), (.ref m311)])) rfl (by rw [hml]; rfl) I311.1 (argsL := [(.int (1 : Int32))]) (rest := []) opd_30 rfl rfl rfl (by show 2 * 0 + _ ≤ _; exact Nat.le_of_eq rfl) (hb hby at_143)
      obtain ⟨rfl, rfl, e317⟩ := hQ317
      rw [List.append_nil] at X317
      refine os st317 ?_
      show OGo p e below _ T317 (mkF m 146 #[.val (.int f), .val (.int r), .val (.int xx), .val (.int flag), .val (.ref b270), .val (.ref b275), .val (.ref b280), .val (.ref b287), .val (.int (Int32.ofNat 0)), .val (.ref b294), .val (.ref m311), .unset, .unset] [(.int (f1.toInt8.toInt32 &&& 255))])
      refine os (fun _ k => XS.aload X317.here hx rfl (hb hby at_146) rfl rfl k) ?_
      show OGo p e below _ T317 (mkF m 148 #[.val (.int f), .val (.int r), .val (.int xx), .val (.int flag), .val (.ref b270), .val (.ref b275), .val (.ref b280), .val (.ref b287), .val (.int (Int32.ofNat 0)), .val (.ref b294), .val (.ref m311), .unset, .unset] [(.ref b270), (.int (f1.toInt8.toInt32 &&& 255))])
      refine os (fun _ k => XS.iconst X317.here hx rfl (hb hby at_148) k) ?_
      show OGo p e below _ T317 (mkF m 149 #[.val (.int f), .val (.int r), .val (.int xx), .val (.int flag), .val (.ref b270), .val (.ref b275), .val (.ref b280), .val (.ref b287), .val (.int (Int32.ofNat 0)), .val (.ref b294), .val (.ref m311), .unset, .unset] [(.int (1 : Int32)), (.ref b270), (.int (f1.toInt8.toInt32 &&& 255))])
      refine os (fun _ k => caloadV X317 hx hZ311 e317 q316 ⟨by decide, (show (1 : Int32) < (2 : Int32) by decide)⟩ rfl (g := (mkF m 149 #[.val (.int f), .val (.int r), .val (.int xx), .val (.int flag), .val (.ref b270), .val (.ref b275), .val (.ref b280), .val (.ref b287), .val (.int (Int32.ofNat 0)), .val (.ref b294), .val (.ref m311), .unset, .unset] [(.int (1 : Int32)), (.ref b270), (.int (f1.toInt8.toInt32 &&& 255))])) rfl rfl (hb hby at_149) _ k) ?_
      show OGo p e below _ T317 (mkF m 150 #[.val (.int f), .val (.int r), .val (.int xx), .val (.int flag), .val (.ref b270), .val (.ref b275), .val (.ref b280), .val (.ref b287), .val (.int (Int32.ofNat 0)), .val (.ref b294), .val (.ref m311), .unset, .unset] [(.int f1), (.int (f1.toInt8.toInt32 &&& 255))])
      refine os (fun _ k => XS.icmpNo X317.here hx rfl (hb hby at_150) rfl (teq (own_lo8 hf1)).2 k) ?_
      show OGo p e below _ T317 (mkF m 153 #[.val (.int f), .val (.int r), .val (.int xx), .val (.int flag), .val (.ref b270), .val (.ref b275), .val (.ref b280), .val (.ref b287), .val (.int (Int32.ofNat 0)), .val (.ref b294), .val (.ref m311), .unset, .unset] [])
      refine os (fun _ k => XS.aload X317.here hx rfl (hb hby at_153) rfl rfl k) ?_
      show OGo p e below _ T317 (mkF m 155 #[.val (.int f), .val (.int r), .val (.int xx), .val (.int flag), .val (.ref b270), .val (.ref b275), .val (.ref b280), .val (.ref b287), .val (.int (Int32.ofNat 0)), .val (.ref b294), .val (.ref m311), .unset, .unset] [(.ref m311)])
      refine os (fun _ k => XS.iconst X317.here hx rfl (hb hby at_155) k) ?_
      show OGo p e below _ T317 (mkF m 156 #[.val (.int f), .val (.int r), .val (.int xx), .val (.int flag), .val (.ref b270), .val (.ref b275), .val (.ref b280), .val (.ref b287), .val (.int (Int32.ofNat 0)), .val (.ref b294), .val (.ref m311), .unset, .unset] [(.int (2 : Int32)), (.ref m311)])
      obtain ⟨v318, T318, L318, X318, hQ318, st318⟩ := vcall X317 hx hZ311 hown311 (own_g hw 207 rfl) (own_g hw 208 rfl) (own_g hw 210 rfl) rfl (own_g hw 210 rfl) (own_g hw 209 rfl) (own_g hw 3 rfl) (own_g hw 211 rfl) (by decide) (W := 0) (rm_charAt l Z a0 hw [] m311 r311 kr311 us (2 : Int32) (58 : Int32) zc wf n0 T311.heap SS' (q297.keep K311 all0) I311 (by decide) (show Int32.ofNat 2 < Int32.ofNat us.length from (own_lt (by decide) (by rw [hl]; omega)).mpr (by rw [hl]; omega)) (show us.getD 2 _ = _ from (by rw [← hus]; rfl))) e317 (by decide) (by decide) (by decide) (by decide) (g := (mkF m 156 #[.val (.int f), .val (.int r), .val (.int xx), .val (.int flag), .val (.ref b270), .val (.ref b275), .val (.ref b280), .val (.ref b287), .val (.int (Int32.ofNat 0)), .val (.ref b294), .val (.ref m311), .unset, .unset] [(.int (2 : Int32)), (.ref m311)])) rfl (by rw [hml]; rfl) I311.1 (argsL := [(.int (2 : Int32))]) (rest := []) opd_30 rfl rfl rfl (by show 2 * 0 + _ ≤ _; exact Nat.le_of_eq rfl) (hb hby at_156)
      obtain ⟨rfl, rfl, e318⟩ := hQ318
      rw [List.append_nil] at X318
      refine os st318 ?_
      show OGo p e below _ T318 (mkF m 159 #[.val (.int f), .val (.int r), .val (.int xx), .val (.int flag), .val (.ref b270), .val (.ref b275), .val (.ref b280), .val (.ref b287), .val (.int (Int32.ofNat 0)), .val (.ref b294), .val (.ref m311), .unset, .unset] [(.int ((58 : Int32) &&& 255))])
      refine os (fun _ k => XS.bipush X318.here hx rfl (hb hby at_159) k) ?_
      show OGo p e below _ T318 (mkF m 161 #[.val (.int f), .val (.int r), .val (.int xx), .val (.int flag), .val (.ref b270), .val (.ref b275), .val (.ref b280), .val (.ref b287), .val (.int (Int32.ofNat 0)), .val (.ref b294), .val (.ref m311), .unset, .unset] [(.int (58 : Int32)), (.int ((58 : Int32) &&& 255))])
      refine os (fun _ k => XS.icmpNo X318.here hx rfl (hb hby at_161) rfl (teq (by decide)).2 k) ?_
      show OGo p e below _ T318 (mkF m 164 #[.val (.int f), .val (.int r), .val (.int xx), .val (.int flag), .val (.ref b270), .val (.ref b275), .val (.ref b280), .val (.ref b287), .val (.int (Int32.ofNat 0)), .val (.ref b294), .val (.ref m311), .unset, .unset] [])
      refine os (fun _ k => XS.aload X318.here hx rfl (hb hby at_164) rfl rfl k) ?_
      show OGo p e below _ T318 (mkF m 166 #[.val (.int f), .val (.int r), .val (.int xx), .val (.int flag), .val (.ref b270), .val (.ref b275), .val (.ref b280), .val (.ref b287), .val (.int (Int32.ofNat 0)), .val (.ref b294), .val (.ref m311), .unset, .unset] [(.ref m311)])
      refine os (fun _ k => XS.iconst X318.here hx rfl (hb hby at_166) k) ?_
      show OGo p e below _ T318 (mkF m 167 #[.val (.int f), .val (.int r), .val (.int xx), .val (.int flag), .val (.ref b270), .val (.ref b275), .val (.ref b280), .val (.ref b287), .val (.int (Int32.ofNat 0)), .val (.ref b294), .val (.ref m311), .unset, .unset] [(.int (3 : Int32)), (.ref m311)])
      obtain ⟨v319, T319, L319, X319, hQ319, st319⟩ := vcall X318 hx hZ311 hown311 (own_g hw 207 rfl) (own_g hw 208 rfl) (own_g hw 210 rfl) rfl (own_g hw 210 rfl) (own_g hw 209 rfl) (own_g hw 3 rfl) (own_g hw 211 rfl) (by decide) (W := 0) (rm_charAt l Z a0 hw [] m311 r311 kr311 us (3 : Int32) (32 : Int32) zc wf n0 T311.heap SS' (q297.keep K311 all0) I311 (by decide) (show Int32.ofNat 3 < Int32.ofNat us.length from (own_lt (by decide) (by rw [hl]; omega)).mpr (by rw [hl]; omega)) (show us.getD 3 _ = _ from (by rw [← hus]; rfl))) e318 (by decide) (by decide) (by decide) (by decide) (g := (mkF m 167 #[.val (.int f), .val (.int r), .val (.int xx), .val (.int flag), .val (.ref b270), .val (.ref b275), .val (.ref b280), .val (.ref b287), .val (.int (Int32.ofNat 0)), .val (.ref b294), .val (.ref m311), .unset, .unset] [(.int (3 : Int32)), (.ref m311)])) rfl (by rw [hml]; rfl) I311.1 (argsL := [(.int (3 : Int32))]) (rest := []) opd_30 rfl rfl rfl (by show 2 * 0 + _ ≤ _; exact Nat.le_of_eq rfl) (hb hby at_167)
      obtain ⟨rfl, rfl, e319⟩ := hQ319
      rw [List.append_nil] at X319
      refine os st319 ?_
      show OGo p e below _ T319 (mkF m 170 #[.val (.int f), .val (.int r), .val (.int xx), .val (.int flag), .val (.ref b270), .val (.ref b275), .val (.ref b280), .val (.ref b287), .val (.int (Int32.ofNat 0)), .val (.ref b294), .val (.ref m311), .unset, .unset] [(.int ((32 : Int32) &&& 255))])
      refine os (fun _ k => XS.bipush X319.here hx rfl (hb hby at_170) k) ?_
      show OGo p e below _ T319 (mkF m 172 #[.val (.int f), .val (.int r), .val (.int xx), .val (.int flag), .val (.ref b270), .val (.ref b275), .val (.ref b280), .val (.ref b287), .val (.int (Int32.ofNat 0)), .val (.ref b294), .val (.ref m311), .unset, .unset] [(.int (32 : Int32)), (.int ((32 : Int32) &&& 255))])
      refine os (fun _ k => XS.icmpNo X319.here hx rfl (hb hby at_172) rfl (teq (by decide)).2 k) ?_
      show OGo p e below _ T319 (mkF m 175 #[.val (.int f), .val (.int r), .val (.int xx), .val (.int flag), .val (.ref b270), .val (.ref b275), .val (.ref b280), .val (.ref b287), .val (.int (Int32.ofNat 0)), .val (.ref b294), .val (.ref m311), .unset, .unset] [])
      refine os (fun _ k => XS.aload X319.here hx rfl (hb hby at_175) rfl rfl k) ?_
      show OGo p e below _ T319 (mkF m 177 #[.val (.int f), .val (.int r), .val (.int xx), .val (.int flag), .val (.ref b270), .val (.ref b275), .val (.ref b280), .val (.ref b287), .val (.int (Int32.ofNat 0)), .val (.ref b294), .val (.ref m311), .unset, .unset] [(.ref m311)])
      refine os (fun _ k => XS.iconst X319.here hx rfl (hb hby at_177) k) ?_
      show OGo p e below _ T319 (mkF m 178 #[.val (.int f), .val (.int r), .val (.int xx), .val (.int flag), .val (.ref b270), .val (.ref b275), .val (.ref b280), .val (.ref b287), .val (.int (Int32.ofNat 0)), .val (.ref b294), .val (.ref m311), .unset, .unset] [(.int (4 : Int32)), (.ref m311)])
      obtain ⟨v320, T320, L320, X320, hQ320, st320⟩ := vcall X319 hx hZ311 hown311 (own_g hw 207 rfl) (own_g hw 208 rfl) (own_g hw 210 rfl) rfl (own_g hw 210 rfl) (own_g hw 209 rfl) (own_g hw 3 rfl) (own_g hw 211 rfl) (by decide) (W := 0) (rm_charAt l Z a0 hw [] m311 r311 kr311 us (4 : Int32) r0.toInt8.toInt32 zc wf n0 T311.heap SS' (q297.keep K311 all0) I311 (by decide) (show Int32.ofNat 4 < Int32.ofNat us.length from (own_lt (by decide) (by rw [hl]; omega)).mpr (by rw [hl]; omega)) (show us.getD 4 _ = _ from (by rw [← hus]; rfl))) e319 (by decide) (by decide) (by decide) (by decide) (g := (mkF m 178 #[.val (.int f), .val (.int r), .val (.int xx), .val (.int flag), .val (.ref b270), .val (.ref b275), .val (.ref b280), .val (.ref b287), .val (.int (Int32.ofNat 0)), .val (.ref b294), .val (.ref m311), .unset, .unset] [(.int (4 : Int32)), (.ref m311)])) rfl (by rw [hml]; rfl) I311.1 (argsL := [(.int (4 : Int32))]) (rest := []) opd_30 rfl rfl rfl (by show 2 * 0 + _ ≤ _; exact Nat.le_of_eq rfl) (hb hby at_178)
      obtain ⟨rfl, rfl, e320⟩ := hQ320
      rw [List.append_nil] at X320
      refine os st320 ?_
      show OGo p e below _ T320 (mkF m 181 #[.val (.int f), .val (.int r), .val (.int xx), .val (.int flag), .val (.ref b270), .val (.ref b275), .val (.ref b280), .val (.ref b287), .val (.int (Int32.ofNat 0)), .val (.ref b294), .val (.ref m311), .unset, .unset] [(.int (r0.toInt8.toInt32 &&& 255))])
      refine os (fun _ k => XS.aload X320.here hx rfl (hb hby at_181) rfl rfl k) ?_
      show OGo p e below _ T320 (mkF m 183 #[.val (.int f), .val (.int r), .val (.int xx), .val (.int flag), .val (.ref b270), .val (.ref b275), .val (.ref b280), .val (.ref b287), .val (.int (Int32.ofNat 0)), .val (.ref b294), .val (.ref m311), .unset, .unset] [(.ref b275), (.int (r0.toInt8.toInt32 &&& 255))])
      refine os (fun _ k => XS.iconst X320.here hx rfl (hb hby at_183) k) ?_
      show OGo p e below _ T320 (mkF m 184 #[.val (.int f), .val (.int r), .val (.int xx), .val (.int flag), .val (.ref b270), .val (.ref b275), .val (.ref b280), .val (.ref b287), .val (.int (Int32.ofNat 0)), .val (.ref b294), .val (.ref m311), .unset, .unset] [(.int (0 : Int32)), (.ref b275), (.int (r0.toInt8.toInt32 &&& 255))])
      have ne321 : b275 ≠ b294 := (Nat.ne_of_lt (Nat.lt_of_lt_of_le ((((((AE275.wr W276).wr W278).ext E280).keep K286).ext E287).keep K293).lt (Nat.le_of_eq g294.symm)))
      have q322 := ((((q290.keep K293 (ninS ne291 nin0)).ext E294).keep K296 (ninS ne321 nin0)).keep K311 nin0)
      refine os (fun _ k => caloadV X320 hx hZ311 e320 q322 ⟨by decide, (show (0 : Int32) < (2 : Int32) by decide)⟩ rfl (g := (mkF m 184 #[.val (.int f), .val (.int r), .val (.int xx), .val (.int flag), .val (.ref b270), .val (.ref b275), .val (.ref b280), .val (.ref b287), .val (.int (Int32.ofNat 0)), .val (.ref b294), .val (.ref m311), .unset, .unset] [(.int (0 : Int32)), (.ref b275), (.int (r0.toInt8.toInt32 &&& 255))])) rfl rfl (hb hby at_184) _ k) ?_
      show OGo p e below _ T320 (mkF m 185 #[.val (.int f), .val (.int r), .val (.int xx), .val (.int flag), .val (.ref b270), .val (.ref b275), .val (.ref b280), .val (.ref b287), .val (.int (Int32.ofNat 0)), .val (.ref b294), .val (.ref m311), .unset, .unset] [(.int r0), (.int (r0.toInt8.toInt32 &&& 255))])
      refine os (fun _ k => XS.icmpNo X320.here hx rfl (hb hby at_185) rfl (teq (own_lo8 hr0)).2 k) ?_
      show OGo p e below _ T320 (mkF m 188 #[.val (.int f), .val (.int r), .val (.int xx), .val (.int flag), .val (.ref b270), .val (.ref b275), .val (.ref b280), .val (.ref b287), .val (.int (Int32.ofNat 0)), .val (.ref b294), .val (.ref m311), .unset, .unset] [])
      refine os (fun _ k => XS.aload X320.here hx rfl (hb hby at_188) rfl rfl k) ?_
      show OGo p e below _ T320 (mkF m 190 #[.val (.int f), .val (.int r), .val (.int xx), .val (.int flag), .val (.ref b270), .val (.ref b275), .val (.ref b280), .val (.ref b287), .val (.int (Int32.ofNat 0)), .val (.ref b294), .val (.ref m311), .unset, .unset] [(.ref m311)])
      refine os (fun _ k => XS.iconst X320.here hx rfl (hb hby at_190) k) ?_
      show OGo p e below _ T320 (mkF m 191 #[.val (.int f), .val (.int r), .val (.int xx), .val (.int flag), .val (.ref b270), .val (.ref b275), .val (.ref b280), .val (.ref b287), .val (.int (Int32.ofNat 0)), .val (.ref b294), .val (.ref m311), .unset, .unset] [(.int (5 : Int32)), (.ref m311)])
      obtain ⟨v323, T323, L323, X323, hQ323, st323⟩ := vcall X320 hx hZ311 hown311 (own_g hw 207 rfl) (own_g hw 208 rfl) (own_g hw 210 rfl) rfl (own_g hw 210 rfl) (own_g hw 209 rfl) (own_g hw 3 rfl) (own_g hw 211 rfl) (by decide) (W := 0) (rm_charAt l Z a0 hw [] m311 r311 kr311 us (5 : Int32) r1.toInt8.toInt32 zc wf n0 T311.heap SS' (q297.keep K311 all0) I311 (by decide) (show Int32.ofNat 5 < Int32.ofNat us.length from (own_lt (by decide) (by rw [hl]; omega)).mpr (by rw [hl]; omega)) (show us.getD 5 _ = _ from (by rw [← hus]; rfl))) e320 (by decide) (by decide) (by decide) (by decide) (g := (mkF m 191 #[.val (.int f), .val (.int r), .val (.int xx), .val (.int flag), .val (.ref b270), .val (.ref b275), .val (.ref b280), .val (.ref b287), .val (.int (Int32.ofNat 0)), .val (.ref b294), .val (.ref m311), .unset, .unset] [(.int (5 : Int32)), (.ref m311)])) rfl (by rw [hml]; rfl) I311.1 (argsL := [(.int (5 : Int32))]) (rest := []) opd_30 rfl rfl rfl (by show 2 * 0 + _ ≤ _; exact Nat.le_of_eq rfl) (hb hby at_191)
      obtain ⟨rfl, rfl, e323⟩ := hQ323
      rw [List.append_nil] at X323
      refine os st323 ?_
      show OGo p e below _ T323 (mkF m 194 #[.val (.int f), .val (.int r), .val (.int xx), .val (.int flag), .val (.ref b270), .val (.ref b275), .val (.ref b280), .val (.ref b287), .val (.int (Int32.ofNat 0)), .val (.ref b294), .val (.ref m311), .unset, .unset] [(.int (r1.toInt8.toInt32 &&& 255))])
      refine os (fun _ k => XS.aload X323.here hx rfl (hb hby at_194) rfl rfl k) ?_
      show OGo p e below _ T323 (mkF m 196 #[.val (.int f), .val (.int r), .val (.int xx), .val (.int flag), .val (.ref b270), .val (.ref b275), .val (.ref b280), .val (.ref b287), .val (.int (Int32.ofNat 0)), .val (.ref b294), .val (.ref m311), .unset, .unset] [(.ref b275), (.int (r1.toInt8.toInt32 &&& 255))])
      refine os (fun _ k => XS.iconst X323.here hx rfl (hb hby at_196) k) ?_
      show OGo p e below _ T323 (mkF m 197 #[.val (.int f), .val (.int r), .val (.int xx), .val (.int flag), .val (.ref b270), .val (.ref b275), .val (.ref b280), .val (.ref b287), .val (.int (Int32.ofNat 0)), .val (.ref b294), .val (.ref m311), .unset, .unset] [(.int (1 : Int32)), (.ref b275), (.int (r1.toInt8.toInt32 &&& 255))])
      refine os (fun _ k => caloadV X323 hx hZ311 e323 q322 ⟨by decide, (show (1 : Int32) < (2 : Int32) by decide)⟩ rfl (g := (mkF m 197 #[.val (.int f), .val (.int r), .val (.int xx), .val (.int flag), .val (.ref b270), .val (.ref b275), .val (.ref b280), .val (.ref b287), .val (.int (Int32.ofNat 0)), .val (.ref b294), .val (.ref m311), .unset, .unset] [(.int (1 : Int32)), (.ref b275), (.int (r1.toInt8.toInt32 &&& 255))])) rfl rfl (hb hby at_197) _ k) ?_
      show OGo p e below _ T323 (mkF m 198 #[.val (.int f), .val (.int r), .val (.int xx), .val (.int flag), .val (.ref b270), .val (.ref b275), .val (.ref b280), .val (.ref b287), .val (.int (Int32.ofNat 0)), .val (.ref b294), .val (.ref m311), .unset, .unset] [(.int r1), (.int (r1.toInt8.toInt32 &&& 255))])
      refine os (fun _ k => XS.icmpNo X323.here hx rfl (hb hby at_198) rfl (teq (own_lo8 hr1)).2 k) ?_
      show OGo p e below _ T323 (mkF m 201 #[.val (.int f), .val (.int r), .val (.int xx), .val (.int flag), .val (.ref b270), .val (.ref b275), .val (.ref b280), .val (.ref b287), .val (.int (Int32.ofNat 0)), .val (.ref b294), .val (.ref m311), .unset, .unset] [])
      refine os (fun _ k => XS.iconst X323.here hx rfl (hb hby at_201) k) ?_
      show OGo p e below _ T323 (mkF m 202 #[.val (.int f), .val (.int r), .val (.int xx), .val (.int flag), .val (.ref b270), .val (.ref b275), .val (.ref b280), .val (.ref b287), .val (.int (Int32.ofNat 0)), .val (.ref b294), .val (.ref m311), .unset, .unset] [(.int (1 : Int32))])
      refine os (fun _ k => XS.goto X323.here hx rfl (pc0 := 202) (pc' := 206) rfl (hb hby at_202) (by decide) (by decide) k) ?_
      show OGo p e below _ T323 (mkF m 206 #[.val (.int f), .val (.int r), .val (.int xx), .val (.int flag), .val (.ref b270), .val (.ref b275), .val (.ref b280), .val (.ref b287), .val (.int (Int32.ofNat 0)), .val (.ref b294), .val (.ref m311), .unset, .unset] [(.int (1 : Int32))])
      exact OGo.retH X323 hx hZ311 (own_hEL hw) hs0 e323 hS311 hk311 H311 R311 (t := .boolean) hret hlk rfl (Or.inl ⟨rfl, by simp, _, rfl⟩) (hb hby at_206) (by decide) (by decide) ⟨rfl, NN311⟩
    refine os (fun _ k => XS.ifYes X311.here hx rfl (pc0 := 114) (pc' := 207) rfl (hb hby at_114) rfl ((if0 _ _).trans (feq (fun h => q (own_ofNat0 hn h))).2) (by decide) (by decide) k) ?_
    show OGo p e below _ T311 (mkF m 207 #[.val (.int f), .val (.int r), .val (.int xx), .val (.int flag), .val (.ref b270), .val (.ref b275), .val (.ref b280), .val (.ref b287), .val (.int (Int32.ofNat n)), .val (.ref b294), .val (.ref m311), .unset, .unset] [])
    obtain ⟨hl, g0, g1, g2, gk, g3, g4, g5, g6⟩ := own_usN q f0 f1 r0 r1
    generalize own_us n (own_b8 [f0, f1]) (own_b8 [r0, r1]) = us at *
    refine os (fun _ k => XS.iload X311.here hx rfl (hb hby at_207) rfl k) ?_
    show OGo p e below _ T311 (mkF m 209 #[.val (.int f), .val (.int r), .val (.int xx), .val (.int flag), .val (.ref b270), .val (.ref b275), .val (.ref b280), .val (.ref b287), .val (.int (Int32.ofNat n)), .val (.ref b294), .val (.ref m311), .unset, .unset] [(.int (Int32.ofNat n))])
    obtain ⟨v324, T324, L324, X324, hQ324, st324⟩ := scall X311 hx hZ311 hown311 (own_g hw 250 rfl) (own_g hw 251 rfl) (own_g hw 252 rfl) (own_g hw 253 rfl) (by decide) (W := 0) (rm_dgs l Z a0 hw [] n T311.heap hn) rfl (by decide) (by decide) (by decide) (by decide) (g := (mkF m 209 #[.val (.int f), .val (.int r), .val (.int xx), .val (.int flag), .val (.ref b270), .val (.ref b275), .val (.ref b280), .val (.ref b287), .val (.int (Int32.ofNat n)), .val (.ref b294), .val (.ref m311), .unset, .unset] [(.int (Int32.ofNat n))])) rfl (by rw [hml]; rfl) (argsL := [(.int (Int32.ofNat n))]) (rest := []) opd_7 rfl rfl rfl (by show 2 * 0 + _ ≤ _; exact Nat.le_of_eq rfl) (hb hby at_209)
    obtain ⟨rfl, rfl, e324⟩ := hQ324
    rw [List.append_nil] at X324
    refine os st324 ?_
    show OGo p e below _ T324 (mkF m 212 #[.val (.int f), .val (.int r), .val (.int xx), .val (.int flag), .val (.ref b270), .val (.ref b275), .val (.ref b280), .val (.ref b287), .val (.int (Int32.ofNat n)), .val (.ref b294), .val (.ref m311), .unset, .unset] [(.int (Int32.ofNat (own_w n)))])
    refine os (fun _ k => XS.istore X324.here hx rfl (hb hby at_212) rfl (l' := #[.val (.int f), .val (.int r), .val (.int xx), .val (.int flag), .val (.ref b270), .val (.ref b275), .val (.ref b280), .val (.ref b287), .val (.int (Int32.ofNat n)), .val (.ref b294), .val (.ref m311), .val (.int (Int32.ofNat (own_w n))), .unset]) rfl k) ?_
    show OGo p e below _ T324 (mkF m 214 #[.val (.int f), .val (.int r), .val (.int xx), .val (.int flag), .val (.ref b270), .val (.ref b275), .val (.ref b280), .val (.ref b287), .val (.int (Int32.ofNat n)), .val (.ref b294), .val (.ref m311), .val (.int (Int32.ofNat (own_w n))), .unset] [])
    refine os (fun _ k => XS.aload X324.here hx rfl (hb hby at_214) rfl rfl k) ?_
    show OGo p e below _ T324 (mkF m 216 #[.val (.int f), .val (.int r), .val (.int xx), .val (.int flag), .val (.ref b270), .val (.ref b275), .val (.ref b280), .val (.ref b287), .val (.int (Int32.ofNat n)), .val (.ref b294), .val (.ref m311), .val (.int (Int32.ofNat (own_w n))), .unset] [(.ref m311)])
    obtain ⟨v325, T325, L325, X325, hQ325, st325⟩ := vcall X324 hx hZ311 hown311 (own_g hw 206 rfl) (own_g hw 122 rfl) (own_g hw 124 rfl) rfl (own_g hw 124 rfl) (own_g hw 123 rfl) (own_g hw 3 rfl) (own_g hw 125 rfl) (by decide) (W := 0) (rm_length l Z a0 hw [] m311 r311 kr311 us zc wf n0 T311.heap SS' (q297.keep K311 all0) I311) e324 (by decide) (by decide) (by decide) (by decide) (g := (mkF m 216 #[.val (.int f), .val (.int r), .val (.int xx), .val (.int flag), .val (.ref b270), .val (.ref b275), .val (.ref b280), .val (.ref b287), .val (.int (Int32.ofNat n)), .val (.ref b294), .val (.ref m311), .val (.int (Int32.ofNat (own_w n))), .unset] [(.ref m311)])) rfl (by rw [hml]; rfl) I311.1 (argsL := []) (rest := []) opd_11 rfl rfl rfl (by show 2 * 0 + _ ≤ _; exact Nat.le_of_eq rfl) (hb hby at_216)
    obtain ⟨rfl, rfl, e325⟩ := hQ325
    rw [List.append_nil] at X325
    refine os st325 ?_
    show OGo p e below _ T325 (mkF m 219 #[.val (.int f), .val (.int r), .val (.int xx), .val (.int flag), .val (.ref b270), .val (.ref b275), .val (.ref b280), .val (.ref b287), .val (.int (Int32.ofNat n)), .val (.ref b294), .val (.ref m311), .val (.int (Int32.ofNat (own_w n))), .unset] [(.int (Int32.ofNat us.length))])
    refine os (fun _ k => XS.bipush X325.here hx rfl (hb hby at_219) k) ?_
    show OGo p e below _ T325 (mkF m 221 #[.val (.int f), .val (.int r), .val (.int xx), .val (.int flag), .val (.ref b270), .val (.ref b275), .val (.ref b280), .val (.ref b287), .val (.int (Int32.ofNat n)), .val (.ref b294), .val (.ref m311), .val (.int (Int32.ofNat (own_w n))), .unset] [(.int (7 : Int32)), (.int (Int32.ofNat us.length))])
    refine os (fun _ k => XS.iload X325.here hx rfl (hb hby at_221) rfl k) ?_
    show OGo p e below _ T325 (mkF m 223 #[.val (.int f), .val (.int r), .val (.int xx), .val (.int flag), .val (.ref b270), .val (.ref b275), .val (.ref b280), .val (.ref b287), .val (.int (Int32.ofNat n)), .val (.ref b294), .val (.ref m311), .val (.int (Int32.ofNat (own_w n))), .unset] [(.int (Int32.ofNat (own_w n))), (.int (7 : Int32)), (.int (Int32.ofNat us.length))])
    refine os (fun _ k => XS.iadd X325.here hx rfl (hb hby at_223) rfl k) ?_
    show OGo p e below _ T325 (mkF m 224 #[.val (.int f), .val (.int r), .val (.int xx), .val (.int flag), .val (.ref b270), .val (.ref b275), .val (.ref b280), .val (.ref b287), .val (.int (Int32.ofNat n)), .val (.ref b294), .val (.ref m311), .val (.int (Int32.ofNat (own_w n))), .unset] [(.int ((7 : Int32) + (Int32.ofNat (own_w n)))), (.int (Int32.ofNat us.length))])
    rw [show (7 : Int32) + Int32.ofNat (own_w n) = Int32.ofNat (7 + own_w n) from own_addn 7 _]
    show OGo p e below _ T325 (mkF m 224 #[.val (.int f), .val (.int r), .val (.int xx), .val (.int flag), .val (.ref b270), .val (.ref b275), .val (.ref b280), .val (.ref b287), .val (.int (Int32.ofNat n)), .val (.ref b294), .val (.ref m311), .val (.int (Int32.ofNat (own_w n))), .unset] [(.int (Int32.ofNat (7 + own_w n))), (.int (Int32.ofNat us.length))])
    refine os (fun _ k => XS.icmpYes X325.here hx rfl (pc0 := 224) (pc' := 229) rfl (hb hby at_224) rfl (teq (by rw [hl])).1 (by decide) (by decide) k) ?_
    show OGo p e below _ T325 (mkF m 229 #[.val (.int f), .val (.int r), .val (.int xx), .val (.int flag), .val (.ref b270), .val (.ref b275), .val (.ref b280), .val (.ref b287), .val (.int (Int32.ofNat n)), .val (.ref b294), .val (.ref m311), .val (.int (Int32.ofNat (own_w n))), .unset] [])
    refine os (fun _ k => XS.aload X325.here hx rfl (hb hby at_229) rfl rfl k) ?_
    show OGo p e below _ T325 (mkF m 231 #[.val (.int f), .val (.int r), .val (.int xx), .val (.int flag), .val (.ref b270), .val (.ref b275), .val (.ref b280), .val (.ref b287), .val (.int (Int32.ofNat n)), .val (.ref b294), .val (.ref m311), .val (.int (Int32.ofNat (own_w n))), .unset] [(.ref m311)])
    refine os (fun _ k => XS.iconst X325.here hx rfl (hb hby at_231) k) ?_
    show OGo p e below _ T325 (mkF m 232 #[.val (.int f), .val (.int r), .val (.int xx), .val (.int flag), .val (.ref b270), .val (.ref b275), .val (.ref b280), .val (.ref b287), .val (.int (Int32.ofNat n)), .val (.ref b294), .val (.ref m311), .val (.int (Int32.ofNat (own_w n))), .unset] [(.int (0 : Int32)), (.ref m311)])
    obtain ⟨v326, T326, L326, X326, hQ326, st326⟩ := vcall X325 hx hZ311 hown311 (own_g hw 207 rfl) (own_g hw 208 rfl) (own_g hw 210 rfl) rfl (own_g hw 210 rfl) (own_g hw 209 rfl) (own_g hw 3 rfl) (own_g hw 211 rfl) (by decide) (W := 0) (rm_charAt l Z a0 hw [] m311 r311 kr311 us (0 : Int32) f0.toInt8.toInt32 zc wf n0 T311.heap SS' (q297.keep K311 all0) I311 (by decide) (show Int32.ofNat 0 < Int32.ofNat us.length from (own_lt (by decide) (by rw [hl]; omega)).mpr (by rw [hl]; omega)) (show us.getD 0 _ = _ from g0)) e325 (by decide) (by decide) (by decide) (by decide) (g := (mkF m 232 #[.val (.int f), .val (.int r), .val (.int xx), .val (.int flag), .val (.ref b270), .val (.ref b275), .val (.ref b280), .val (.ref b287), .val (.int (Int32.ofNat n)), .val (.ref b294), .val (.ref m311), .val (.int (Int32.ofNat (own_w n))), .unset] [(.int (0 : Int32)), (.ref m311)])) rfl (by rw [hml]; rfl) I311.1 (argsL := [(.int (0 : Int32))]) (rest := []) opd_30 rfl rfl rfl (by show 2 * 0 + _ ≤ _; exact Nat.le_of_eq rfl) (hb hby at_232)
    obtain ⟨rfl, rfl, e326⟩ := hQ326
    rw [List.append_nil] at X326
    refine os st326 ?_
    show OGo p e below _ T326 (mkF m 235 #[.val (.int f), .val (.int r), .val (.int xx), .val (.int flag), .val (.ref b270), .val (.ref b275), .val (.ref b280), .val (.ref b287), .val (.int (Int32.ofNat n)), .val (.ref b294), .val (.ref m311), .val (.int (Int32.ofNat (own_w n))), .unset] [(.int (f0.toInt8.toInt32 &&& 255))])
    refine os (fun _ k => XS.aload X326.here hx rfl (hb hby at_235) rfl rfl k) ?_
    show OGo p e below _ T326 (mkF m 237 #[.val (.int f), .val (.int r), .val (.int xx), .val (.int flag), .val (.ref b270), .val (.ref b275), .val (.ref b280), .val (.ref b287), .val (.int (Int32.ofNat n)), .val (.ref b294), .val (.ref m311), .val (.int (Int32.ofNat (own_w n))), .unset] [(.ref b270), (.int (f0.toInt8.toInt32 &&& 255))])
    refine os (fun _ k => XS.iconst X326.here hx rfl (hb hby at_237) k) ?_
    show OGo p e below _ T326 (mkF m 238 #[.val (.int f), .val (.int r), .val (.int xx), .val (.int flag), .val (.ref b270), .val (.ref b275), .val (.ref b280), .val (.ref b287), .val (.int (Int32.ofNat n)), .val (.ref b294), .val (.ref m311), .val (.int (Int32.ofNat (own_w n))), .unset] [(.int (0 : Int32)), (.ref b270), (.int (f0.toInt8.toInt32 &&& 255))])
    have ne327 : b270 ≠ b287 := (Nat.ne_of_lt (Nat.lt_of_lt_of_le (((((((AE270.wr W271).wr W273).ext E275).wr W276).wr W278).ext E280).keep K286).lt (Nat.le_of_eq g287.symm)))
    have ne328 : b270 ≠ b294 := (Nat.ne_of_lt (Nat.lt_of_lt_of_le (((((((((AE270.wr W271).wr W273).ext E275).wr W276).wr W278).ext E280).keep K286).ext E287).keep K293).lt (Nat.le_of_eq g294.symm)))
    have q329 := ((((((q283.keep K286 (ninS ne284 nin0)).ext E287).keep K293 (ninS ne327 nin0)).ext E294).keep K296 (ninS ne328 nin0)).keep K311 nin0)
    refine os (fun _ k => caloadV X326 hx hZ311 e326 q329 ⟨by decide, (show (0 : Int32) < (2 : Int32) by decide)⟩ rfl (g := (mkF m 238 #[.val (.int f), .val (.int r), .val (.int xx), .val (.int flag), .val (.ref b270), .val (.ref b275), .val (.ref b280), .val (.ref b287), .val (.int (Int32.ofNat n)), .val (.ref b294), .val (.ref m311), .val (.int (Int32.ofNat (own_w n))), .unset] [(.int (0 : Int32)), (.ref b270), (.int (f0.toInt8.toInt32 &&& 255))])) rfl rfl (hb hby at_238) _ k) ?_
    show OGo p e below _ T326 (mkF m 239 #[.val (.int f), .val (.int r), .val (.int xx), .val (.int flag), .val (.ref b270), .val (.ref b275), .val (.ref b280), .val (.ref b287), .val (.int (Int32.ofNat n)), .val (.ref b294), .val (.ref m311), .val (.int (Int32.ofNat (own_w n))), .unset] [(.int f0), (.int (f0.toInt8.toInt32 &&& 255))])
    refine os (fun _ k => XS.icmpNo X326.here hx rfl (hb hby at_239) rfl (teq (own_lo8 hf0)).2 k) ?_
    show OGo p e below _ T326 (mkF m 242 #[.val (.int f), .val (.int r), .val (.int xx), .val (.int flag), .val (.ref b270), .val (.ref b275), .val (.ref b280), .val (.ref b287), .val (.int (Int32.ofNat n)), .val (.ref b294), .val (.ref m311), .val (.int (Int32.ofNat (own_w n))), .unset] [])
    refine os (fun _ k => XS.aload X326.here hx rfl (hb hby at_242) rfl rfl k) ?_
    show OGo p e below _ T326 (mkF m 244 #[.val (.int f), .val (.int r), .val (.int xx), .val (.int flag), .val (.ref b270), .val (.ref b275), .val (.ref b280), .val (.ref b287), .val (.int (Int32.ofNat n)), .val (.ref b294), .val (.ref m311), .val (.int (Int32.ofNat (own_w n))), .unset] [(.ref m311)])
    refine os (fun _ k => XS.iconst X326.here hx rfl (hb hby at_244) k) ?_
    show OGo p e below _ T326 (mkF m 245 #[.val (.int f), .val (.int r), .val (.int xx), .val (.int flag), .val (.ref b270), .val (.ref b275), .val (.ref b280), .val (.ref b287), .val (.int (Int32.ofNat n)), .val (.ref b294), .val (.ref m311), .val (.int (Int32.ofNat (own_w n))), .unset] [(.int (1 : Int32)), (.ref m311)])
    obtain ⟨v330, T330, L330, X330, hQ330, st330⟩ := vcall X326 hx hZ311 hown311 (own_g hw 207 rfl) (own_g hw 208 rfl) (own_g hw 210 rfl) rfl (own_g hw 210 rfl) (own_g hw 209 rfl) (own_g hw 3 rfl) (own_g hw 211 rfl) (by decide) (W := 0) (rm_charAt l Z a0 hw [] m311 r311 kr311 us (1 : Int32) f1.toInt8.toInt32 zc wf n0 T311.heap SS' (q297.keep K311 all0) I311 (by decide) (show Int32.ofNat 1 < Int32.ofNat us.length from (own_lt (by decide) (by rw [hl]; omega)).mpr (by rw [hl]; omega)) (show us.getD 1 _ = _ from g1)) e326 (by decide) (by decide) (by decide) (by decide) (g := (mkF m 245 #[.val (.int f), .val (.int r), .val (.int xx), .val (.int flag), .val (.ref b270), .val (.ref b275), .val (.ref b280), .val (.ref b287), .val (.int (Int32.ofNat n)), .val (.ref b294), .val (.ref m311), .val (.int (Int32.ofNat (own_w n))), .unset] [(.int (1 : Int32)), (.ref m311)])) rfl (by rw [hml]; rfl) I311.1 (argsL := [(.int (1 : Int32))]) (rest := []) opd_30 rfl rfl rfl (by show 2 * 0 + _ ≤ _; exact Nat.le_of_eq rfl) (hb hby at_245)
    obtain ⟨rfl, rfl, e330⟩ := hQ330
    rw [List.append_nil] at X330
    refine os st330 ?_
    show OGo p e below _ T330 (mkF m 248 #[.val (.int f), .val (.int r), .val (.int xx), .val (.int flag), .val (.ref b270), .val (.ref b275), .val (.ref b280), .val (.ref b287), .val (.int (Int32.ofNat n)), .val (.ref b294), .val (.ref m311), .val (.int (Int32.ofNat (own_w n))), .unset] [(.int (f1.toInt8.toInt32 &&& 255))])
    refine os (fun _ k => XS.aload X330.here hx rfl (hb hby at_248) rfl rfl k) ?_
    show OGo p e below _ T330 (mkF m 250 #[.val (.int f), .val (.int r), .val (.int xx), .val (.int flag), .val (.ref b270), .val (.ref b275), .val (.ref b280), .val (.ref b287), .val (.int (Int32.ofNat n)), .val (.ref b294), .val (.ref m311), .val (.int (Int32.ofNat (own_w n))), .unset] [(.ref b270), (.int (f1.toInt8.toInt32 &&& 255))])
    refine os (fun _ k => XS.iconst X330.here hx rfl (hb hby at_250) k) ?_
    show OGo p e below _ T330 (mkF m 251 #[.val (.int f), .val (.int r), .val (.int xx), .val (.int flag), .val (.ref b270), .val (.ref b275), .val (.ref b280), .val (.ref b287), .val (.int (Int32.ofNat n)), .val (.ref b294), .val (.ref m311), .val (.int (Int32.ofNat (own_w n))), .unset] [(.int (1 : Int32)), (.ref b270), (.int (f1.toInt8.toInt32 &&& 255))])
    refine os (fun _ k => caloadV X330 hx hZ311 e330 q329 ⟨by decide, (show (1 : Int32) < (2 : Int32) by decide)⟩ rfl (g := (mkF m 251 #[.val (.int f), .val (.int r), .val (.int xx), .val (.int flag), .val (.ref b270), .val (.ref b275), .val (.ref b280), .val (.ref b287), .val (.int (Int32.ofNat n)), .val (.ref b294), .val (.ref m311), .val (.int (Int32.ofNat (own_w n))), .unset] [(.int (1 : Int32)), (.ref b270), (.int (f1.toInt8.toInt32 &&& 255))])) rfl rfl (hb hby at_251) _ k) ?_
    show OGo p e below _ T330 (mkF m 252 #[.val (.int f), .val (.int r), .val (.int xx), .val (.int flag), .val (.ref b270), .val (.ref b275), .val (.ref b280), .val (.ref b287), .val (.int (Int32.ofNat n)), .val (.ref b294), .val (.ref m311), .val (.int (Int32.ofNat (own_w n))), .unset] [(.int f1), (.int (f1.toInt8.toInt32 &&& 255))])
    refine os (fun _ k => XS.icmpNo X330.here hx rfl (hb hby at_252) rfl (teq (own_lo8 hf1)).2 k) ?_
    show OGo p e below _ T330 (mkF m 255 #[.val (.int f), .val (.int r), .val (.int xx), .val (.int flag), .val (.ref b270), .val (.ref b275), .val (.ref b280), .val (.ref b287), .val (.int (Int32.ofNat n)), .val (.ref b294), .val (.ref m311), .val (.int (Int32.ofNat (own_w n))), .unset] [])
    refine os (fun _ k => XS.aload X330.here hx rfl (hb hby at_255) rfl rfl k) ?_
    show OGo p e below _ T330 (mkF m 257 #[.val (.int f), .val (.int r), .val (.int xx), .val (.int flag), .val (.ref b270), .val (.ref b275), .val (.ref b280), .val (.ref b287), .val (.int (Int32.ofNat n)), .val (.ref b294), .val (.ref m311), .val (.int (Int32.ofNat (own_w n))), .unset] [(.ref m311)])
    refine os (fun _ k => XS.iconst X330.here hx rfl (hb hby at_257) k) ?_
    show OGo p e below _ T330 (mkF m 258 #[.val (.int f), .val (.int r), .val (.int xx), .val (.int flag), .val (.ref b270), .val (.ref b275), .val (.ref b280), .val (.ref b287), .val (.int (Int32.ofNat n)), .val (.ref b294), .val (.ref m311), .val (.int (Int32.ofNat (own_w n))), .unset] [(.int (2 : Int32)), (.ref m311)])
    obtain ⟨v331, T331, L331, X331, hQ331, st331⟩ := vcall X330 hx hZ311 hown311 (own_g hw 207 rfl) (own_g hw 208 rfl) (own_g hw 210 rfl) rfl (own_g hw 210 rfl) (own_g hw 209 rfl) (own_g hw 3 rfl) (own_g hw 211 rfl) (by decide) (W := 0) (rm_charAt l Z a0 hw [] m311 r311 kr311 us (2 : Int32) (58 : Int32) zc wf n0 T311.heap SS' (q297.keep K311 all0) I311 (by decide) (show Int32.ofNat 2 < Int32.ofNat us.length from (own_lt (by decide) (by rw [hl]; omega)).mpr (by rw [hl]; omega)) (show us.getD 2 _ = _ from g2)) e330 (by decide) (by decide) (by decide) (by decide) (g := (mkF m 258 #[.val (.int f), .val (.int r), .val (.int xx), .val (.int flag), .val (.ref b270), .val (.ref b275), .val (.ref b280), .val (.ref b287), .val (.int (Int32.ofNat n)), .val (.ref b294), .val (.ref m311), .val (.int (Int32.ofNat (own_w n))), .unset] [(.int (2 : Int32)), (.ref m311)])) rfl (by rw [hml]; rfl) I311.1 (argsL := [(.int (2 : Int32))]) (rest := []) opd_30 rfl rfl rfl (by show 2 * 0 + _ ≤ _; exact Nat.le_of_eq rfl) (hb hby at_258)
    obtain ⟨rfl, rfl, e331⟩ := hQ331
    rw [List.append_nil] at X331
    refine os st331 ?_
    show OGo p e below _ T331 (mkF m 261 #[.val (.int f), .val (.int r), .val (.int xx), .val (.int flag), .val (.ref b270), .val (.ref b275), .val (.ref b280), .val (.ref b287), .val (.int (Int32.ofNat n)), .val (.ref b294), .val (.ref m311), .val (.int (Int32.ofNat (own_w n))), .unset] [(.int ((58 : Int32) &&& 255))])
    refine os (fun _ k => XS.bipush X331.here hx rfl (hb hby at_261) k) ?_
    show OGo p e below _ T331 (mkF m 263 #[.val (.int f), .val (.int r), .val (.int xx), .val (.int flag), .val (.ref b270), .val (.ref b275), .val (.ref b280), .val (.ref b287), .val (.int (Int32.ofNat n)), .val (.ref b294), .val (.ref m311), .val (.int (Int32.ofNat (own_w n))), .unset] [(.int (58 : Int32)), (.int ((58 : Int32) &&& 255))])
    refine os (fun _ k => XS.icmpNo X331.here hx rfl (hb hby at_263) rfl (teq (by decide)).2 k) ?_
    show OGo p e below _ T331 (mkF m 266 #[.val (.int f), .val (.int r), .val (.int xx), .val (.int flag), .val (.ref b270), .val (.ref b275), .val (.ref b280), .val (.ref b287), .val (.int (Int32.ofNat n)), .val (.ref b294), .val (.ref m311), .val (.int (Int32.ofNat (own_w n))), .unset] [])
    refine os (fun _ k => XS.aload X331.here hx rfl (hb hby at_266) rfl rfl k) ?_
    show OGo p e below _ T331 (mkF m 268 #[.val (.int f), .val (.int r), .val (.int xx), .val (.int flag), .val (.ref b270), .val (.ref b275), .val (.ref b280), .val (.ref b287), .val (.int (Int32.ofNat n)), .val (.ref b294), .val (.ref m311), .val (.int (Int32.ofNat (own_w n))), .unset] [(.ref m311)])
    refine os (fun _ k => XS.iconst X331.here hx rfl (hb hby at_268) k) ?_
    show OGo p e below _ T331 (mkF m 269 #[.val (.int f), .val (.int r), .val (.int xx), .val (.int flag), .val (.ref b270), .val (.ref b275), .val (.ref b280), .val (.ref b287), .val (.int (Int32.ofNat n)), .val (.ref b294), .val (.ref m311), .val (.int (Int32.ofNat (own_w n))), .unset] [(.int (3 : Int32)), (.ref m311)])
    refine os (fun _ k => XS.iload X331.here hx rfl (hb hby at_269) rfl k) ?_
    show OGo p e below _ T331 (mkF m 271 #[.val (.int f), .val (.int r), .val (.int xx), .val (.int flag), .val (.ref b270), .val (.ref b275), .val (.ref b280), .val (.ref b287), .val (.int (Int32.ofNat n)), .val (.ref b294), .val (.ref m311), .val (.int (Int32.ofNat (own_w n))), .unset] [(.int (Int32.ofNat (own_w n))), (.int (3 : Int32)), (.ref m311)])
    refine os (fun _ k => XS.iadd X331.here hx rfl (hb hby at_271) rfl k) ?_
    show OGo p e below _ T331 (mkF m 272 #[.val (.int f), .val (.int r), .val (.int xx), .val (.int flag), .val (.ref b270), .val (.ref b275), .val (.ref b280), .val (.ref b287), .val (.int (Int32.ofNat n)), .val (.ref b294), .val (.ref m311), .val (.int (Int32.ofNat (own_w n))), .unset] [(.int ((3 : Int32) + (Int32.ofNat (own_w n)))), (.ref m311)])
    rw [show (3 : Int32) + Int32.ofNat (own_w n) = Int32.ofNat (3 + own_w n) from own_addn 3 _]
    show OGo p e below _ T331 (mkF m 272 #[.val (.int f), .val (.int r), .val (.int xx), .val (.int flag), .val (.ref b270), .val (.ref b275), .val (.ref b280), .val (.ref b287), .val (.int (Int32.ofNat n)), .val (.ref b294), .val (.ref m311), .val (.int (Int32.ofNat (own_w n))), .unset] [(.int (Int32.ofNat (3 + own_w n))), (.ref m311)])
    obtain ⟨v332, T332, L332, X332, hQ332, st332⟩ := vcall X331 hx hZ311 hown311 (own_g hw 207 rfl) (own_g hw 208 rfl) (own_g hw 210 rfl) rfl (own_g hw 210 rfl) (own_g hw 209 rfl) (own_g hw 3 rfl) (own_g hw 211 rfl) (by decide) (W := 0) (rm_charAt l Z a0 hw [] m311 r311 kr311 us (Int32.ofNat (3 + own_w n)) (58 : Int32) zc wf n0 T311.heap SS' (q297.keep K311 all0) I311 (own_nn (by omega)) ((own_lt (by omega) (by rw [hl]; omega)).mpr (by rw [hl]; omega)) (by rw [own_cl (by omega)]; exact g3)) e331 (by decide) (by decide) (by decide) (by decide) (g := (mkF m 272 #[.val (.int f), .val (.int r), .val (.int xx), .val (.int flag), .val (.ref b270), .val (.ref b275), .val (.ref b280), .val (.ref b287), .val (.int (Int32.ofNat n)), .val (.ref b294), .val (.ref m311), .val (.int (Int32.ofNat (own_w n))), .unset] [(.int (Int32.ofNat (3 + own_w n))), (.ref m311)])) rfl (by rw [hml]; rfl) I311.1 (argsL := [(.int (Int32.ofNat (3 + own_w n)))]) (rest := []) opd_30 rfl rfl rfl (by show 2 * 0 + _ ≤ _; exact Nat.le_of_eq rfl) (hb hby at_272)
    obtain ⟨rfl, rfl, e332⟩ := hQ332
    rw [List.append_nil] at X332
    refine os st332 ?_
    show OGo p e below _ T332 (mkF m 275 #[.val (.int f), .val (.int r), .val (.int xx), .val (.int flag), .val (.ref b270), .val (.ref b275), .val (.ref b280), .val (.ref b287), .val (.int (Int32.ofNat n)), .val (.ref b294), .val (.ref m311), .val (.int (Int32.ofNat (own_w n))), .unset] [(.int ((58 : Int32) &&& 255))])
    refine os (fun _ k => XS.bipush X332.here hx rfl (hb hby at_275) k) ?_
    show OGo p e below _ T332 (mkF m 277 #[.val (.int f), .val (.int r), .val (.int xx), .val (.int flag), .val (.ref b270), .val (.ref b275), .val (.ref b280), .val (.ref b287), .val (.int (Int32.ofNat n)), .val (.ref b294), .val (.ref m311), .val (.int (Int32.ofNat (own_w n))), .unset] [(.int (58 : Int32)), (.int ((58 : Int32) &&& 255))])
    refine os (fun _ k => XS.icmpNo X332.here hx rfl (hb hby at_277) rfl (teq (by decide)).2 k) ?_
    show OGo p e below _ T332 (mkF m 280 #[.val (.int f), .val (.int r), .val (.int xx), .val (.int flag), .val (.ref b270), .val (.ref b275), .val (.ref b280), .val (.ref b287), .val (.int (Int32.ofNat n)), .val (.ref b294), .val (.ref m311), .val (.int (Int32.ofNat (own_w n))), .unset] [])
    refine os (fun _ k => XS.aload X332.here hx rfl (hb hby at_280) rfl rfl k) ?_
    show OGo p e below _ T332 (mkF m 282 #[.val (.int f), .val (.int r), .val (.int xx), .val (.int flag), .val (.ref b270), .val (.ref b275), .val (.ref b280), .val (.ref b287), .val (.int (Int32.ofNat n)), .val (.ref b294), .val (.ref m311), .val (.int (Int32.ofNat (own_w n))), .unset] [(.ref m311)])
    refine os (fun _ k => XS.iconst X332.here hx rfl (hb hby at_282) k) ?_
    show OGo p e below _ T332 (mkF m 283 #[.val (.int f), .val (.int r), .val (.int xx), .val (.int flag), .val (.ref b270), .val (.ref b275), .val (.ref b280), .val (.ref b287), .val (.int (Int32.ofNat n)), .val (.ref b294), .val (.ref m311), .val (.int (Int32.ofNat (own_w n))), .unset] [(.int (4 : Int32)), (.ref m311)])
    refine os (fun _ k => XS.iload X332.here hx rfl (hb hby at_283) rfl k) ?_
    show OGo p e below _ T332 (mkF m 285 #[.val (.int f), .val (.int r), .val (.int xx), .val (.int flag), .val (.ref b270), .val (.ref b275), .val (.ref b280), .val (.ref b287), .val (.int (Int32.ofNat n)), .val (.ref b294), .val (.ref m311), .val (.int (Int32.ofNat (own_w n))), .unset] [(.int (Int32.ofNat (own_w n))), (.int (4 : Int32)), (.ref m311)])
    refine os (fun _ k => XS.iadd X332.here hx rfl (hb hby at_285) rfl k) ?_
    show OGo p e below _ T332 (mkF m 286 #[.val (.int f), .val (.int r), .val (.int xx), .val (.int flag), .val (.ref b270), .val (.ref b275), .val (.ref b280), .val (.ref b287), .val (.int (Int32.ofNat n)), .val (.ref b294), .val (.ref m311), .val (.int (Int32.ofNat (own_w n))), .unset] [(.int ((4 : Int32) + (Int32.ofNat (own_w n)))), (.ref m311)])
    rw [show (4 : Int32) + Int32.ofNat (own_w n) = Int32.ofNat (4 + own_w n) from own_addn 4 _]
    show OGo p e below _ T332 (mkF m 286 #[.val (.int f), .val (.int r), .val (.int xx), .val (.int flag), .val (.ref b270), .val (.ref b275), .val (.ref b280), .val (.ref b287), .val (.int (Int32.ofNat n)), .val (.ref b294), .val (.ref m311), .val (.int (Int32.ofNat (own_w n))), .unset] [(.int (Int32.ofNat (4 + own_w n))), (.ref m311)])
    obtain ⟨v333, T333, L333, X333, hQ333, st333⟩ := vcall X332 hx hZ311 hown311 (own_g hw 207 rfl) (own_g hw 208 rfl) (own_g hw 210 rfl) rfl (own_g hw 210 rfl) (own_g hw 209 rfl) (own_g hw 3 rfl) (own_g hw 211 rfl) (by decide) (W := 0) (rm_charAt l Z a0 hw [] m311 r311 kr311 us (Int32.ofNat (4 + own_w n)) (32 : Int32) zc wf n0 T311.heap SS' (q297.keep K311 all0) I311 (own_nn (by omega)) ((own_lt (by omega) (by rw [hl]; omega)).mpr (by rw [hl]; omega)) (by rw [own_cl (by omega)]; exact g4)) e332 (by decide) (by decide) (by decide) (by decide) (g := (mkF m 286 #[.val (.int f), .val (.int r), .val (.int xx), .val (.int flag), .val (.ref b270), .val (.ref b275), .val (.ref b280), .val (.ref b287), .val (.int (Int32.ofNat n)), .val (.ref b294), .val (.ref m311), .val (.int (Int32.ofNat (own_w n))), .unset] [(.int (Int32.ofNat (4 + own_w n))), (.ref m311)])) rfl (by rw [hml]; rfl) I311.1 (argsL := [(.int (Int32.ofNat (4 + own_w n)))]) (rest := []) opd_30 rfl rfl rfl (by show 2 * 0 + _ ≤ _; exact Nat.le_of_eq rfl) (hb hby at_286)
    obtain ⟨rfl, rfl, e333⟩ := hQ333
    rw [List.append_nil] at X333
    refine os st333 ?_
    show OGo p e below _ T333 (mkF m 289 #[.val (.int f), .val (.int r), .val (.int xx), .val (.int flag), .val (.ref b270), .val (.ref b275), .val (.ref b280), .val (.ref b287), .val (.int (Int32.ofNat n)), .val (.ref b294), .val (.ref m311), .val (.int (Int32.ofNat (own_w n))), .unset] [(.int ((32 : Int32) &&& 255))])
    refine os (fun _ k => XS.bipush X333.here hx rfl (hb hby at_289) k) ?_
    show OGo p e below _ T333 (mkF m 291 #[.val (.int f), .val (.int r), .val (.int xx), .val (.int flag), .val (.ref b270), .val (.ref b275), .val (.ref b280), .val (.ref b287), .val (.int (Int32.ofNat n)), .val (.ref b294), .val (.ref m311), .val (.int (Int32.ofNat (own_w n))), .unset] [(.int (32 : Int32)), (.int ((32 : Int32) &&& 255))])
    refine os (fun _ k => XS.icmpNo X333.here hx rfl (hb hby at_291) rfl (teq (by decide)).2 k) ?_
    show OGo p e below _ T333 (mkF m 294 #[.val (.int f), .val (.int r), .val (.int xx), .val (.int flag), .val (.ref b270), .val (.ref b275), .val (.ref b280), .val (.ref b287), .val (.int (Int32.ofNat n)), .val (.ref b294), .val (.ref m311), .val (.int (Int32.ofNat (own_w n))), .unset] [])
    refine os (fun _ k => XS.aload X333.here hx rfl (hb hby at_294) rfl rfl k) ?_
    show OGo p e below _ T333 (mkF m 296 #[.val (.int f), .val (.int r), .val (.int xx), .val (.int flag), .val (.ref b270), .val (.ref b275), .val (.ref b280), .val (.ref b287), .val (.int (Int32.ofNat n)), .val (.ref b294), .val (.ref m311), .val (.int (Int32.ofNat (own_w n))), .unset] [(.ref m311)])
    refine os (fun _ k => XS.iconst X333.here hx rfl (hb hby at_296) k) ?_
    show OGo p e below _ T333 (mkF m 297 #[.val (.int f), .val (.int r), .val (.int xx), .val (.int flag), .val (.ref b270), .val (.ref b275), .val (.ref b280), .val (.ref b287), .val (.int (Int32.ofNat n)), .val (.ref b294), .val (.ref m311), .val (.int (Int32.ofNat (own_w n))), .unset] [(.int (5 : Int32)), (.ref m311)])
    refine os (fun _ k => XS.iload X333.here hx rfl (hb hby at_297) rfl k) ?_
    show OGo p e below _ T333 (mkF m 299 #[.val (.int f), .val (.int r), .val (.int xx), .val (.int flag), .val (.ref b270), .val (.ref b275), .val (.ref b280), .val (.ref b287), .val (.int (Int32.ofNat n)), .val (.ref b294), .val (.ref m311), .val (.int (Int32.ofNat (own_w n))), .unset] [(.int (Int32.ofNat (own_w n))), (.int (5 : Int32)), (.ref m311)])
    refine os (fun _ k => XS.iadd X333.here hx rfl (hb hby at_299) rfl k) ?_
    show OGo p e below _ T333 (mkF m 300 #[.val (.int f), .val (.int r), .val (.int xx), .val (.int flag), .val (.ref b270), .val (.ref b275), .val (.ref b280), .val (.ref b287), .val (.int (Int32.ofNat n)), .val (.ref b294), .val (.ref m311), .val (.int (Int32.ofNat (own_w n))), .unset] [(.int ((5 : Int32) + (Int32.ofNat (own_w n)))), (.ref m311)])
    rw [show (5 : Int32) + Int32.ofNat (own_w n) = Int32.ofNat (5 + own_w n) from own_addn 5 _]
    show OGo p e below _ T333 (mkF m 300 #[.val (.int f), .val (.int r), .val (.int xx), .val (.int flag), .val (.ref b270), .val (.ref b275), .val (.ref b280), .val (.ref b287), .val (.int (Int32.ofNat n)), .val (.ref b294), .val (.ref m311), .val (.int (Int32.ofNat (own_w n))), .unset] [(.int (Int32.ofNat (5 + own_w n))), (.ref m311)])
    obtain ⟨v334, T334, L334, X334, hQ334, st334⟩ := vcall X333 hx hZ311 hown311 (own_g hw 207 rfl) (own_g hw 208 rfl) (own_g hw 210 rfl) rfl (own_g hw 210 rfl) (own_g hw 209 rfl) (own_g hw 3 rfl) (own_g hw 211 rfl) (by decide) (W := 0) (rm_charAt l Z a0 hw [] m311 r311 kr311 us (Int32.ofNat (5 + own_w n)) r0.toInt8.toInt32 zc wf n0 T311.heap SS' (q297.keep K311 all0) I311 (own_nn (by omega)) ((own_lt (by omega) (by rw [hl]; omega)).mpr (by rw [hl]; omega)) (by rw [own_cl (by omega)]; exact g5)) e333 (by decide) (by decide) (by decide) (by decide) (g := (mkF m 300 #[.val (.int f), .val (.int r), .val (.int xx), .val (.int flag), .val (.ref b270), .val (.ref b275), .val (.ref b280), .val (.ref b287), .val (.int (Int32.ofNat n)), .val (.ref b294), .val (.ref m311), .val (.int (Int32.ofNat (own_w n))), .unset] [(.int (Int32.ofNat (5 + own_w n))), (.ref m311)])) rfl (by rw [hml]; rfl) I311.1 (argsL := [(.int (Int32.ofNat (5 + own_w n)))]) (rest := []) opd_30 rfl rfl rfl (by show 2 * 0 + _ ≤ _; exact Nat.le_of_eq rfl) (hb hby at_300)
    obtain ⟨rfl, rfl, e334⟩ := hQ334
    rw [List.append_nil] at X334
    refine os st334 ?_
    show OGo p e below _ T334 (mkF m 303 #[.val (.int f), .val (.int r), .val (.int xx), .val (.int flag), .val (.ref b270), .val (.ref b275), .val (.ref b280), .val (.ref b287), .val (.int (Int32.ofNat n)), .val (.ref b294), .val (.ref m311), .val (.int (Int32.ofNat (own_w n))), .unset] [(.int (r0.toInt8.toInt32 &&& 255))])
    refine os (fun _ k => XS.aload X334.here hx rfl (hb hby at_303) rfl rfl k) ?_
    show OGo p e below _ T334 (mkF m 305 #[.val (.int f), .val (.int r), .val (.int xx), .val (.int flag), .val (.ref b270), .val (.ref b275), .val (.ref b280), .val (.ref b287), .val (.int (Int32.ofNat n)), .val (.ref b294), .val (.ref m311), .val (.int (Int32.ofNat (own_w n))), .unset] [(.ref b275), (.int (r0.toInt8.toInt32 &&& 255))])
    refine os (fun _ k => XS.iconst X334.here hx rfl (hb hby at_305) k) ?_
    show OGo p e below _ T334 (mkF m 306 #[.val (.int f), .val (.int r), .val (.int xx), .val (.int flag), .val (.ref b270), .val (.ref b275), .val (.ref b280), .val (.ref b287), .val (.int (Int32.ofNat n)), .val (.ref b294), .val (.ref m311), .val (.int (Int32.ofNat (own_w n))), .unset] [(.int (0 : Int32)), (.ref b275), (.int (r0.toInt8.toInt32 &&& 255))])
    have ne335 : b275 ≠ b294 := (Nat.ne_of_lt (Nat.lt_of_lt_of_le ((((((AE275.wr W276).wr W278).ext E280).keep K286).ext E287).keep K293).lt (Nat.le_of_eq g294.symm)))
    have q336 := ((((q290.keep K293 (ninS ne291 nin0)).ext E294).keep K296 (ninS ne335 nin0)).keep K311 nin0)
    refine os (fun _ k => caloadV X334 hx hZ311 e334 q336 ⟨by decide, (show (0 : Int32) < (2 : Int32) by decide)⟩ rfl (g := (mkF m 306 #[.val (.int f), .val (.int r), .val (.int xx), .val (.int flag), .val (.ref b270), .val (.ref b275), .val (.ref b280), .val (.ref b287), .val (.int (Int32.ofNat n)), .val (.ref b294), .val (.ref m311), .val (.int (Int32.ofNat (own_w n))), .unset] [(.int (0 : Int32)), (.ref b275), (.int (r0.toInt8.toInt32 &&& 255))])) rfl rfl (hb hby at_306) _ k) ?_
    show OGo p e below _ T334 (mkF m 307 #[.val (.int f), .val (.int r), .val (.int xx), .val (.int flag), .val (.ref b270), .val (.ref b275), .val (.ref b280), .val (.ref b287), .val (.int (Int32.ofNat n)), .val (.ref b294), .val (.ref m311), .val (.int (Int32.ofNat (own_w n))), .unset] [(.int r0), (.int (r0.toInt8.toInt32 &&& 255))])
    refine os (fun _ k => XS.icmpNo X334.here hx rfl (hb hby at_307) rfl (teq (own_lo8 hr0)).2 k) ?_
    show OGo p e below _ T334 (mkF m 310 #[.val (.int f), .val (.int r), .val (.int xx), .val (.int flag), .val (.ref b270), .val (.ref b275), .val (.ref b280), .val (.ref b287), .val (.int (Int32.ofNat n)), .val (.ref b294), .val (.ref m311), .val (.int (Int32.ofNat (own_w n))), .unset] [])
    refine os (fun _ k => XS.aload X334.here hx rfl (hb hby at_310) rfl rfl k) ?_
    show OGo p e below _ T334 (mkF m 312 #[.val (.int f), .val (.int r), .val (.int xx), .val (.int flag), .val (.ref b270), .val (.ref b275), .val (.ref b280), .val (.ref b287), .val (.int (Int32.ofNat n)), .val (.ref b294), .val (.ref m311), .val (.int (Int32.ofNat (own_w n))), .unset] [(.ref m311)])
    refine os (fun _ k => XS.bipush X334.here hx rfl (hb hby at_312) k) ?_
    show OGo p e below _ T334 (mkF m 314 #[.val (.int f), .val (.int r), .val (.int xx), .val (.int flag), .val (.ref b270), .val (.ref b275), .val (.ref b280), .val (.ref b287), .val (.int (Int32.ofNat n)), .val (.ref b294), .val (.ref m311), .val (.int (Int32.ofNat (own_w n))), .unset] [(.int (6 : Int32)), (.ref m311)])
    refine os (fun _ k => XS.iload X334.here hx rfl (hb hby at_314) rfl k) ?_
    show OGo p e below _ T334 (mkF m 316 #[.val (.int f), .val (.int r), .val (.int xx), .val (.int flag), .val (.ref b270), .val (.ref b275), .val (.ref b280), .val (.ref b287), .val (.int (Int32.ofNat n)), .val (.ref b294), .val (.ref m311), .val (.int (Int32.ofNat (own_w n))), .unset] [(.int (Int32.ofNat (own_w n))), (.int (6 : Int32)), (.ref m311)])
    refine os (fun _ k => XS.iadd X334.here hx rfl (hb hby at_316) rfl k) ?_
    show OGo p e below _ T334 (mkF m 317 #[.val (.int f), .val (.int r), .val (.int xx), .val (.int flag), .val (.ref b270), .val (.ref b275), .val (.ref b280), .val (.ref b287), .val (.int (Int32.ofNat n)), .val (.ref b294), .val (.ref m311), .val (.int (Int32.ofNat (own_w n))), .unset] [(.int ((6 : Int32) + (Int32.ofNat (own_w n)))), (.ref m311)])
    rw [show (6 : Int32) + Int32.ofNat (own_w n) = Int32.ofNat (6 + own_w n) from own_addn 6 _]
    show OGo p e below _ T334 (mkF m 317 #[.val (.int f), .val (.int r), .val (.int xx), .val (.int flag), .val (.ref b270), .val (.ref b275), .val (.ref b280), .val (.ref b287), .val (.int (Int32.ofNat n)), .val (.ref b294), .val (.ref m311), .val (.int (Int32.ofNat (own_w n))), .unset] [(.int (Int32.ofNat (6 + own_w n))), (.ref m311)])
    obtain ⟨v337, T337, L337, X337, hQ337, st337⟩ := vcall X334 hx hZ311 hown311 (own_g hw 207 rfl) (own_g hw 208 rfl) (own_g hw 210 rfl) rfl (own_g hw 210 rfl) (own_g hw 209 rfl) (own_g hw 3 rfl) (own_g hw 211 rfl) (by decide) (W := 0) (rm_charAt l Z a0 hw [] m311 r311 kr311 us (Int32.ofNat (6 + own_w n)) r1.toInt8.toInt32 zc wf n0 T311.heap SS' (q297.keep K311 all0) I311 (own_nn (by omega)) ((own_lt (by omega) (by rw [hl]; omega)).mpr (by rw [hl]; omega)) (by rw [own_cl (by omega)]; exact g6)) e334 (by decide) (by decide) (by decide) (by decide) (g := (mkF m 317 #[.val (.int f), .val (.int r), .val (.int xx), .val (.int flag), .val (.ref b270), .val (.ref b275), .val (.ref b280), .val (.ref b287), .val (.int (Int32.ofNat n)), .val (.ref b294), .val (.ref m311), .val (.int (Int32.ofNat (own_w n))), .unset] [(.int (Int32.ofNat (6 + own_w n))), (.ref m311)])) rfl (by rw [hml]; rfl) I311.1 (argsL := [(.int (Int32.ofNat (6 + own_w n)))]) (rest := []) opd_30 rfl rfl rfl (by show 2 * 0 + _ ≤ _; exact Nat.le_of_eq rfl) (hb hby at_317)
    obtain ⟨rfl, rfl, e337⟩ := hQ337
    rw [List.append_nil] at X337
    refine os st337 ?_
    show OGo p e below _ T337 (mkF m 320 #[.val (.int f), .val (.int r), .val (.int xx), .val (.int flag), .val (.ref b270), .val (.ref b275), .val (.ref b280), .val (.ref b287), .val (.int (Int32.ofNat n)), .val (.ref b294), .val (.ref m311), .val (.int (Int32.ofNat (own_w n))), .unset] [(.int (r1.toInt8.toInt32 &&& 255))])
    refine os (fun _ k => XS.aload X337.here hx rfl (hb hby at_320) rfl rfl k) ?_
    show OGo p e below _ T337 (mkF m 322 #[.val (.int f), .val (.int r), .val (.int xx), .val (.int flag), .val (.ref b270), .val (.ref b275), .val (.ref b280), .val (.ref b287), .val (.int (Int32.ofNat n)), .val (.ref b294), .val (.ref m311), .val (.int (Int32.ofNat (own_w n))), .unset] [(.ref b275), (.int (r1.toInt8.toInt32 &&& 255))])
    refine os (fun _ k => XS.iconst X337.here hx rfl (hb hby at_322) k) ?_
    show OGo p e below _ T337 (mkF m 323 #[.val (.int f), .val (.int r), .val (.int xx), .val (.int flag), .val (.ref b270), .val (.ref b275), .val (.ref b280), .val (.ref b287), .val (.int (Int32.ofNat n)), .val (.ref b294), .val (.ref m311), .val (.int (Int32.ofNat (own_w n))), .unset] [(.int (1 : Int32)), (.ref b275), (.int (r1.toInt8.toInt32 &&& 255))])
    refine os (fun _ k => caloadV X337 hx hZ311 e337 q336 ⟨by decide, (show (1 : Int32) < (2 : Int32) by decide)⟩ rfl (g := (mkF m 323 #[.val (.int f), .val (.int r), .val (.int xx), .val (.int flag), .val (.ref b270), .val (.ref b275), .val (.ref b280), .val (.ref b287), .val (.int (Int32.ofNat n)), .val (.ref b294), .val (.ref m311), .val (.int (Int32.ofNat (own_w n))), .unset] [(.int (1 : Int32)), (.ref b275), (.int (r1.toInt8.toInt32 &&& 255))])) rfl rfl (hb hby at_323) _ k) ?_
    show OGo p e below _ T337 (mkF m 324 #[.val (.int f), .val (.int r), .val (.int xx), .val (.int flag), .val (.ref b270), .val (.ref b275), .val (.ref b280), .val (.ref b287), .val (.int (Int32.ofNat n)), .val (.ref b294), .val (.ref m311), .val (.int (Int32.ofNat (own_w n))), .unset] [(.int r1), (.int (r1.toInt8.toInt32 &&& 255))])
    refine os (fun _ k => XS.icmpNo X337.here hx rfl (hb hby at_324) rfl (teq (own_lo8 hr1)).2 k) ?_
    show OGo p e below _ T337 (mkF m 327 #[.val (.int f), .val (.int r), .val (.int xx), .val (.int flag), .val (.ref b270), .val (.ref b275), .val (.ref b280), .val (.ref b287), .val (.int (Int32.ofNat n)), .val (.ref b294), .val (.ref m311), .val (.int (Int32.ofNat (own_w n))), .unset] [])
    refine os (fun _ k => XS.iconst X337.here hx rfl (hb hby at_327) k) ?_
    show OGo p e below _ T337 (mkF m 328 #[.val (.int f), .val (.int r), .val (.int xx), .val (.int flag), .val (.ref b270), .val (.ref b275), .val (.ref b280), .val (.ref b287), .val (.int (Int32.ofNat n)), .val (.ref b294), .val (.ref m311), .val (.int (Int32.ofNat (own_w n))), .unset] [(.int (1 : Int32))])
    refine os (fun _ k => XS.goto X337.here hx rfl (pc0 := 328) (pc' := 332) rfl (hb hby at_328) (by decide) (by decide) k) ?_
    show OGo p e below _ T337 (mkF m 332 #[.val (.int f), .val (.int r), .val (.int xx), .val (.int flag), .val (.ref b270), .val (.ref b275), .val (.ref b280), .val (.ref b287), .val (.int (Int32.ofNat n)), .val (.ref b294), .val (.ref m311), .val (.int (Int32.ofNat (own_w n))), .unset] [(.int (1 : Int32))])
    refine os (fun _ k => XS.istore X337.here hx rfl (hb hby at_332) rfl (l' := #[.val (.int f), .val (.int r), .val (.int xx), .val (.int flag), .val (.ref b270), .val (.ref b275), .val (.ref b280), .val (.ref b287), .val (.int (Int32.ofNat n)), .val (.ref b294), .val (.ref m311), .val (.int (Int32.ofNat (own_w n))), .val (.int (1 : Int32))]) rfl k) ?_
    show OGo p e below _ T337 (mkF m 334 #[.val (.int f), .val (.int r), .val (.int xx), .val (.int flag), .val (.ref b270), .val (.ref b275), .val (.ref b280), .val (.ref b287), .val (.int (Int32.ofNat n)), .val (.ref b294), .val (.ref m311), .val (.int (Int32.ofNat (own_w n))), .val (.int (1 : Int32))] [])
    refine os (fun _ k => XS.iload X337.here hx rfl (hb hby at_334) rfl k) ?_
    show OGo p e below _ T337 (mkF m 336 #[.val (.int f), .val (.int r), .val (.int xx), .val (.int flag), .val (.ref b270), .val (.ref b275), .val (.ref b280), .val (.ref b287), .val (.int (Int32.ofNat n)), .val (.ref b294), .val (.ref m311), .val (.int (Int32.ofNat (own_w n))), .val (.int (1 : Int32))] [(.int (1 : Int32))])
    refine os (fun _ k => XS.ifNo X337.here hx rfl (hb hby at_336) rfl ((if0 _ _).trans (feq (by decide : ¬ (1 : Int32) = 0)).1) k) ?_
    show OGo p e below _ T337 (mkF m 339 #[.val (.int f), .val (.int r), .val (.int xx), .val (.int flag), .val (.ref b270), .val (.ref b275), .val (.ref b280), .val (.ref b287), .val (.int (Int32.ofNat n)), .val (.ref b294), .val (.ref m311), .val (.int (Int32.ofNat (own_w n))), .val (.int (1 : Int32))] [])
    refine os (fun _ k => XS.aload X337.here hx rfl (hb hby at_339) rfl rfl k) ?_
    show OGo p e below _ T337 (mkF m 341 #[.val (.int f), .val (.int r), .val (.int xx), .val (.int flag), .val (.ref b270), .val (.ref b275), .val (.ref b280), .val (.ref b287), .val (.int (Int32.ofNat n)), .val (.ref b294), .val (.ref m311), .val (.int (Int32.ofNat (own_w n))), .val (.int (1 : Int32))] [(.ref m311)])
    refine os (fun _ k => XS.iload X337.here hx rfl (hb hby at_341) rfl k) ?_
    show OGo p e below _ T337 (mkF m 343 #[.val (.int f), .val (.int r), .val (.int xx), .val (.int flag), .val (.ref b270), .val (.ref b275), .val (.ref b280), .val (.ref b287), .val (.int (Int32.ofNat n)), .val (.ref b294), .val (.ref m311), .val (.int (Int32.ofNat (own_w n))), .val (.int (1 : Int32))] [(.int (Int32.ofNat n)), (.ref m311)])
    refine os (fun _ k => XS.iload X337.here hx rfl (hb hby at_343) rfl k) ?_
    show OGo p e below _ T337 (mkF m 345 #[.val (.int f), .val (.int r), .val (.int xx), .val (.int flag), .val (.ref b270), .val (.ref b275), .val (.ref b280), .val (.ref b287), .val (.int (Int32.ofNat n)), .val (.ref b294), .val (.ref m311), .val (.int (Int32.ofNat (own_w n))), .val (.int (1 : Int32))] [(.int (Int32.ofNat (own_w n))), (.int (Int32.ofNat n)), (.ref m311)])
    refine os (fun _ k => XS.iconst X337.here hx rfl (hb hby at_345) k) ?_
    show OGo p e below _ T337 (mkF m 346 #[.val (.int f), .val (.int r), .val (.int xx), .val (.int flag), .val (.ref b270), .val (.ref b275), .val (.ref b280), .val (.ref b287), .val (.int (Int32.ofNat n)), .val (.ref b294), .val (.ref m311), .val (.int (Int32.ofNat (own_w n))), .val (.int (1 : Int32))] [(.int (0 : Int32)), (.int (Int32.ofNat (own_w n))), (.int (Int32.ofNat n)), (.ref m311)])
    obtain ⟨IE311, IC311, IF311, IV311⟩ := I311
    obtain ⟨v338, T338, L338, X338, hQ338, st338⟩ := scall X337 hx hZ311 hown311 (own_g hw 254 rfl) (own_g hw 255 rfl) (own_g hw 252 rfl) (own_g hw 256 rfl) (by decide) (W := 0) (rm_dok l Z a0 hw [] m311 r311 kr311 us n 0 zc wf n0 T311.heap SS' (q297.keep K311 all0) ⟨IE311, IC311, IF311, IV311⟩ hn (by decide) hl (gk 0)) e337 (by decide) (by decide) (by decide) (by decide) (g := (mkF m 346 #[.val (.int f), .val (.int r), .val (.int xx), .val (.int flag), .val (.ref b270), .val (.ref b275), .val (.ref b280), .val (.ref b287), .val (.int (Int32.ofNat n)), .val (.ref b294), .val (.ref m311), .val (.int (Int32.ofNat (own_w n))), .val (.int (1 : Int32))] [(.int (0 : Int32)), (.int (Int32.ofNat (own_w n))), (.int (Int32.ofNat n)), (.ref m311)])) rfl (by rw [hml]; rfl) (argsL := [(.ref m311), (.int (Int32.ofNat n)), (.int (Int32.ofNat (own_w n))), (.int (0 : Int32))]) (rest := []) opd_33 rfl rfl rfl (by show 2 * 0 + _ ≤ _; exact Nat.le_of_eq rfl) (hb hby at_346)
    obtain ⟨rfl, N338, K338⟩ := hQ338
    have NN338 := Fr.app NN311 N338
    have KK338 : Keep h0 T338.heap [] := KK311.trans K338 all0
    have H338 := CHv.keep K338 sf0 H311
    have R338 := CHr.trans R311 (CHr.keep K338 sf0 H311)
    refine os st338 ?_
    show OGo p e below _ T338 (mkF m 349 #[.val (.int f), .val (.int r), .val (.int xx), .val (.int flag), .val (.ref b270), .val (.ref b275), .val (.ref b280), .val (.ref b287), .val (.int (Int32.ofNat n)), .val (.ref b294), .val (.ref m311), .val (.int (Int32.ofNat (own_w n))), .val (.int (1 : Int32))] [(.int (1 : Int32))])
    refine os (fun _ k => XS.ifNo X338.here hx rfl (hb hby at_349) rfl ((if0 _ _).trans (feq (by decide : ¬ (1 : Int32) = 0)).1) k) ?_
    show OGo p e below _ T338 (mkF m 352 #[.val (.int f), .val (.int r), .val (.int xx), .val (.int flag), .val (.ref b270), .val (.ref b275), .val (.ref b280), .val (.ref b287), .val (.int (Int32.ofNat n)), .val (.ref b294), .val (.ref m311), .val (.int (Int32.ofNat (own_w n))), .val (.int (1 : Int32))] [])
    refine os (fun _ k => XS.aload X338.here hx rfl (hb hby at_352) rfl rfl k) ?_
    show OGo p e below _ T338 (mkF m 354 #[.val (.int f), .val (.int r), .val (.int xx), .val (.int flag), .val (.ref b270), .val (.ref b275), .val (.ref b280), .val (.ref b287), .val (.int (Int32.ofNat n)), .val (.ref b294), .val (.ref m311), .val (.int (Int32.ofNat (own_w n))), .val (.int (1 : Int32))] [(.ref m311)])
    refine os (fun _ k => XS.iload X338.here hx rfl (hb hby at_354) rfl k) ?_
    show OGo p e below _ T338 (mkF m 356 #[.val (.int f), .val (.int r), .val (.int xx), .val (.int flag), .val (.ref b270), .val (.ref b275), .val (.ref b280), .val (.ref b287), .val (.int (Int32.ofNat n)), .val (.ref b294), .val (.ref m311), .val (.int (Int32.ofNat (own_w n))), .val (.int (1 : Int32))] [(.int (Int32.ofNat n)), (.ref m311)])
    refine os (fun _ k => XS.iload X338.here hx rfl (hb hby at_356) rfl k) ?_
    show OGo p e below _ T338 (mkF m 358 #[.val (.int f), .val (.int r), .val (.int xx), .val (.int flag), .val (.ref b270), .val (.ref b275), .val (.ref b280), .val (.ref b287), .val (.int (Int32.ofNat n)), .val (.ref b294), .val (.ref m311), .val (.int (Int32.ofNat (own_w n))), .val (.int (1 : Int32))] [(.int (Int32.ofNat (own_w n))), (.int (Int32.ofNat n)), (.ref m311)])
    refine os (fun _ k => XS.iconst X338.here hx rfl (hb hby at_358) k) ?_
    show OGo p e below _ T338 (mkF m 359 #[.val (.int f), .val (.int r), .val (.int xx), .val (.int flag), .val (.ref b270), .val (.ref b275), .val (.ref b280), .val (.ref b287), .val (.int (Int32.ofNat n)), .val (.ref b294), .val (.ref m311), .val (.int (Int32.ofNat (own_w n))), .val (.int (1 : Int32))] [(.int (1 : Int32)), (.int (Int32.ofNat (own_w n))), (.int (Int32.ofNat n)), (.ref m311)])
    obtain ⟨v339, T339, L339, X339, hQ339, st339⟩ := scall X338 hx hZ311 hown311 (own_g hw 254 rfl) (own_g hw 255 rfl) (own_g hw 252 rfl) (own_g hw 256 rfl) (by decide) (W := 0) (rm_dok l Z a0 hw [] m311 r311 kr311 us n 1 zc wf n0 T338.heap SS' ((q297.keep K311 all0).keep K338 all0) ⟨(IE311.keep K338), (IC311.keep K338 nin0), (IF311.keep K338 nin0), (IV311.keep K338 nin0)⟩ hn (by decide) hl (gk 1)) rfl (by decide) (by decide) (by decide) (by decide) (g := (mkF m 359 #[.val (.int f), .val (.int r), .val (.int xx), .val (.int flag), .val (.ref b270), .val (.ref b275), .val (.ref b280), .val (.ref b287), .val (.int (Int32.ofNat n)), .val (.ref b294), .val (.ref m311), .val (.int (Int32.ofNat (own_w n))), .val (.int (1 : Int32))] [(.int (1 : Int32)), (.int (Int32.ofNat (own_w n))), (.int (Int32.ofNat n)), (.ref m311)])) rfl (by rw [hml]; rfl) (argsL := [(.ref m311), (.int (Int32.ofNat n)), (.int (Int32.ofNat (own_w n))), (.int (1 : Int32))]) (rest := []) opd_33 rfl rfl rfl (by show 2 * 0 + _ ≤ _; exact Nat.le_of_eq rfl) (hb hby at_359)
    obtain ⟨rfl, N339, K339⟩ := hQ339
    have NN339 := Fr.app NN338 N339
    have KK339 : Keep h0 T339.heap [] := KK338.trans K339 all0
    have H339 := CHv.keep K339 sf0 H338
    have R339 := CHr.trans R338 (CHr.keep K339 sf0 H338)
    refine os st339 ?_
    show OGo p e below _ T339 (mkF m 362 #[.val (.int f), .val (.int r), .val (.int xx), .val (.int flag), .val (.ref b270), .val (.ref b275), .val (.ref b280), .val (.ref b287), .val (.int (Int32.ofNat n)), .val (.ref b294), .val (.ref m311), .val (.int (Int32.ofNat (own_w n))), .val (.int (1 : Int32))] [(.int (1 : Int32))])
    refine os (fun _ k => XS.ifNo X339.here hx rfl (hb hby at_362) rfl ((if0 _ _).trans (feq (by decide : ¬ (1 : Int32) = 0)).1) k) ?_
    show OGo p e below _ T339 (mkF m 365 #[.val (.int f), .val (.int r), .val (.int xx), .val (.int flag), .val (.ref b270), .val (.ref b275), .val (.ref b280), .val (.ref b287), .val (.int (Int32.ofNat n)), .val (.ref b294), .val (.ref m311), .val (.int (Int32.ofNat (own_w n))), .val (.int (1 : Int32))] [])
    refine os (fun _ k => XS.aload X339.here hx rfl (hb hby at_365) rfl rfl k) ?_
    show OGo p e below _ T339 (mkF m 367 #[.val (.int f), .val (.int r), .val (.int xx), .val (.int flag), .val (.ref b270), .val (.ref b275), .val (.ref b280), .val (.ref b287), .val (.int (Int32.ofNat n)), .val (.ref b294), .val (.ref m311), .val (.int (Int32.ofNat (own_w n))), .val (.int (1 : Int32))] [(.ref m311)])
    refine os (fun _ k => XS.iload X339.here hx rfl (hb hby at_367) rfl k) ?_
    show OGo p e below _ T339 (mkF m 369 #[.val (.int f), .val (.int r), .val (.int xx), .val (.int flag), .val (.ref b270), .val (.ref b275), .val (.ref b280), .val (.ref b287), .val (.int (Int32.ofNat n)), .val (.ref b294), .val (.ref m311), .val (.int (Int32.ofNat (own_w n))), .val (.int (1 : Int32))] [(.int (Int32.ofNat n)), (.ref m311)])
    refine os (fun _ k => XS.iload X339.here hx rfl (hb hby at_369) rfl k) ?_
    show OGo p e below _ T339 (mkF m 371 #[.val (.int f), .val (.int r), .val (.int xx), .val (.int flag), .val (.ref b270), .val (.ref b275), .val (.ref b280), .val (.ref b287), .val (.int (Int32.ofNat n)), .val (.ref b294), .val (.ref m311), .val (.int (Int32.ofNat (own_w n))), .val (.int (1 : Int32))] [(.int (Int32.ofNat (own_w n))), (.int (Int32.ofNat n)), (.ref m311)])
    refine os (fun _ k => XS.iconst X339.here hx rfl (hb hby at_371) k) ?_
    show OGo p e below _ T339 (mkF m 372 #[.val (.int f), .val (.int r), .val (.int xx), .val (.int flag), .val (.ref b270), .val (.ref b275), .val (.ref b280), .val (.ref b287), .val (.int (Int32.ofNat n)), .val (.ref b294), .val (.ref m311), .val (.int (Int32.ofNat (own_w n))), .val (.int (1 : Int32))] [(.int (2 : Int32)), (.int (Int32.ofNat (own_w n))), (.int (Int32.ofNat n)), (.ref m311)])
    have q340 := (((q297.keep K311 all0).keep K338 all0).keep K339 all0)
    obtain ⟨v341, T341, L341, X341, hQ341, st341⟩ := scall X339 hx hZ311 hown311 (own_g hw 254 rfl) (own_g hw 255 rfl) (own_g hw 252 rfl) (own_g hw 256 rfl) (by decide) (W := 0) (rm_dok l Z a0 hw [] m311 r311 kr311 us n 2 zc wf n0 T339.heap SS' q340 ⟨((IE311.keep K338).keep K339), ((IC311.keep K338 nin0).keep K339 nin0), ((IF311.keep K338 nin0).keep K339 nin0), ((IV311.keep K338 nin0).keep K339 nin0)⟩ hn (by decide) hl (gk 2)) rfl (by decide) (by decide) (by decide) (by decide) (g := (mkF m 372 #[.val (.int f), .val (.int r), .val (.int xx), .val (.int flag), .val (.ref b270), .val (.ref b275), .val (.ref b280), .val (.ref b287), .val (.int (Int32.ofNat n)), .val (.ref b294), .val (.ref m311), .val (.int (Int32.ofNat (own_w n))), .val (.int (1 : Int32))] [(.int (2 : Int32)), (.int (Int32.ofNat (own_w n))), (.int (Int32.ofNat n)), (.ref m311)])) rfl (by rw [hml]; rfl) (argsL := [(.ref m311), (.int (Int32.ofNat n)), (.int (Int32.ofNat (own_w n))), (.int (2 : Int32))]) (rest := []) opd_33 rfl rfl rfl (by show 2 * 0 + _ ≤ _; exact Nat.le_of_eq rfl) (hb hby at_372)
    obtain ⟨rfl, N341, K341⟩ := hQ341
    have NN341 := Fr.app NN339 N341
    have KK341 : Keep h0 T341.heap [] := KK339.trans K341 all0
    have H341 := CHv.keep K341 sf0 H339
    have R341 := CHr.trans R339 (CHr.keep K341 sf0 H339)
    refine os st341 ?_
    show OGo p e below _ T341 (mkF m 375 #[.val (.int f), .val (.int r), .val (.int xx), .val (.int flag), .val (.ref b270), .val (.ref b275), .val (.ref b280), .val (.ref b287), .val (.int (Int32.ofNat n)), .val (.ref b294), .val (.ref m311), .val (.int (Int32.ofNat (own_w n))), .val (.int (1 : Int32))] [(.int (1 : Int32))])
    refine os (fun _ k => XS.ifNo X341.here hx rfl (hb hby at_375) rfl ((if0 _ _).trans (feq (by decide : ¬ (1 : Int32) = 0)).1) k) ?_
    show OGo p e below _ T341 (mkF m 378 #[.val (.int f), .val (.int r), .val (.int xx), .val (.int flag), .val (.ref b270), .val (.ref b275), .val (.ref b280), .val (.ref b287), .val (.int (Int32.ofNat n)), .val (.ref b294), .val (.ref m311), .val (.int (Int32.ofNat (own_w n))), .val (.int (1 : Int32))] [])
    refine os (fun _ k => XS.aload X341.here hx rfl (hb hby at_378) rfl rfl k) ?_
    show OGo p e below _ T341 (mkF m 380 #[.val (.int f), .val (.int r), .val (.int xx), .val (.int flag), .val (.ref b270), .val (.ref b275), .val (.ref b280), .val (.ref b287), .val (.int (Int32.ofNat n)), .val (.ref b294), .val (.ref m311), .val (.int (Int32.ofNat (own_w n))), .val (.int (1 : Int32))] [(.ref m311)])
    refine os (fun _ k => XS.iload X341.here hx rfl (hb hby at_380) rfl k) ?_
    show OGo p e below _ T341 (mkF m 382 #[.val (.int f), .val (.int r), .val (.int xx), .val (.int flag), .val (.ref b270), .val (.ref b275), .val (.ref b280), .val (.ref b287), .val (.int (Int32.ofNat n)), .val (.ref b294), .val (.ref m311), .val (.int (Int32.ofNat (own_w n))), .val (.int (1 : Int32))] [(.int (Int32.ofNat n)), (.ref m311)])
    refine os (fun _ k => XS.iload X341.here hx rfl (hb hby at_382) rfl k) ?_
    show OGo p e below _ T341 (mkF m 384 #[.val (.int f), .val (.int r), .val (.int xx), .val (.int flag), .val (.ref b270), .val (.ref b275), .val (.ref b280), .val (.ref b287), .val (.int (Int32.ofNat n)), .val (.ref b294), .val (.ref m311), .val (.int (Int32.ofNat (own_w n))), .val (.int (1 : Int32))] [(.int (Int32.ofNat (own_w n))), (.int (Int32.ofNat n)), (.ref m311)])
    refine os (fun _ k => XS.iconst X341.here hx rfl (hb hby at_384) k) ?_
    show OGo p e below _ T341 (mkF m 385 #[.val (.int f), .val (.int r), .val (.int xx), .val (.int flag), .val (.ref b270), .val (.ref b275), .val (.ref b280), .val (.ref b287), .val (.int (Int32.ofNat n)), .val (.ref b294), .val (.ref m311), .val (.int (Int32.ofNat (own_w n))), .val (.int (1 : Int32))] [(.int (3 : Int32)), (.int (Int32.ofNat (own_w n))), (.int (Int32.ofNat n)), (.ref m311)])
    have q342 := (((IE311.keep K338).keep K339).keep K341)
    have q343 := (((IC311.keep K338 nin0).keep K339 nin0).keep K341 nin0)
    have q344 := (((IF311.keep K338 nin0).keep K339 nin0).keep K341 nin0)
    have q345 := (((IV311.keep K338 nin0).keep K339 nin0).keep K341 nin0)
    obtain ⟨v346, T346, L346, X346, hQ346, st346⟩ := scall X341 hx hZ311 hown311 (own_g hw 254 rfl) (own_g hw 255 rfl) (own_g hw 252 rfl) (own_g hw 256 rfl) (by decide) (W := 0) (rm_dok l Z a0 hw [] m311 r311 kr311 us n 3 zc wf n0 T341.heap SS' (q340.keep K341 all0) ⟨q342, q343, q344, q345⟩ hn (by decide) hl (gk 3)) rfl (by decide) (by decide) (by decide) (by decide) (g := (mkF m 385 #[.val (.int f), .val (.int r), .val (.int xx), .val (.int flag), .val (.ref b270), .val (.ref b275), .val (.ref b280), .val (.ref b287), .val (.int (Int32.ofNat n)), .val (.ref b294), .val (.ref m311), .val (.int (Int32.ofNat (own_w n))), .val (.int (1 : Int32))] [(.int (3 : Int32)), (.int (Int32.ofNat (own_w n))), (.int (Int32.ofNat n)), (.ref m311)])) rfl (by rw [hml]; rfl) (argsL := [(.ref m311), (.int (Int32.ofNat n)), (.int (Int32.ofNat (own_w n))), (.int (3 : Int32))]) (rest := []) opd_33 rfl rfl rfl (by show 2 * 0 + _ ≤ _; exact Nat.le_of_eq rfl) (hb hby at_385)
    obtain ⟨rfl, N346, K346⟩ := hQ346
    have NN346 := Fr.app NN341 N346
    have KK346 : Keep h0 T346.heap [] := KK341.trans K346 all0
    have H346 := CHv.keep K346 sf0 H341
    have R346 := CHr.trans R341 (CHr.keep K346 sf0 H341)
    refine os st346 ?_
    show OGo p e below _ T346 (mkF m 388 #[.val (.int f), .val (.int r), .val (.int xx), .val (.int flag), .val (.ref b270), .val (.ref b275), .val (.ref b280), .val (.ref b287), .val (.int (Int32.ofNat n)), .val (.ref b294), .val (.ref m311), .val (.int (Int32.ofNat (own_w n))), .val (.int (1 : Int32))] [(.int (1 : Int32))])
    refine os (fun _ k => XS.ifNo X346.here hx rfl (hb hby at_388) rfl ((if0 _ _).trans (feq (by decide : ¬ (1 : Int32) = 0)).1) k) ?_
    show OGo p e below _ T346 (mkF m 391 #[.val (.int f), .val (.int r), .val (.int xx), .val (.int flag), .val (.ref b270), .val (.ref b275), .val (.ref b280), .val (.ref b287), .val (.int (Int32.ofNat n)), .val (.ref b294), .val (.ref m311), .val (.int (Int32.ofNat (own_w n))), .val (.int (1 : Int32))] [])
    refine os (fun _ k => XS.aload X346.here hx rfl (hb hby at_391) rfl rfl k) ?_
    show OGo p e below _ T346 (mkF m 393 #[.val (.int f), .val (.int r), .val (.int xx), .val (.int flag), .val (.ref b270), .val (.ref b275), .val (.ref b280), .val (.ref b287), .val (.int (Int32.ofNat n)), .val (.ref b294), .val (.ref m311), .val (.int (Int32.ofNat (own_w n))), .val (.int (1 : Int32))] [(.ref m311)])
    refine os (fun _ k => XS.iload X346.here hx rfl (hb hby at_393) rfl k) ?_
    show OGo p e below _ T346 (mkF m 395 #[.val (.int f), .val (.int r), .val (.int xx), .val (.int flag), .val (.ref b270), .val (.ref b275), .val (.ref b280), .val (.ref b287), .val (.int (Int32.ofNat n)), .val (.ref b294), .val (.ref m311), .val (.int (Int32.ofNat (own_w n))), .val (.int (1 : Int32))] [(.int (Int32.ofNat n)), (.ref m311)])
    refine os (fun _ k => XS.iload X346.here hx rfl (hb hby at_395) rfl k) ?_
    show OGo p e below _ T346 (mkF m 397 #[.val (.int f), .val (.int r), .val (.int xx), .val (.int flag), .val (.ref b270), .val (.ref b275), .val (.ref b280), .val (.ref b287), .val (.int (Int32.ofNat n)), .val (.ref b294), .val (.ref m311), .val (.int (Int32.ofNat (own_w n))), .val (.int (1 : Int32))] [(.int (Int32.ofNat (own_w n))), (.int (Int32.ofNat n)), (.ref m311)])
    refine os (fun _ k => XS.iconst X346.here hx rfl (hb hby at_397) k) ?_
    show OGo p e below _ T346 (mkF m 398 #[.val (.int f), .val (.int r), .val (.int xx), .val (.int flag), .val (.ref b270), .val (.ref b275), .val (.ref b280), .val (.ref b287), .val (.int (Int32.ofNat n)), .val (.ref b294), .val (.ref m311), .val (.int (Int32.ofNat (own_w n))), .val (.int (1 : Int32))] [(.int (4 : Int32)), (.int (Int32.ofNat (own_w n))), (.int (Int32.ofNat n)), (.ref m311)])
    obtain ⟨v347, T347, L347, X347, hQ347, st347⟩ := scall X346 hx hZ311 hown311 (own_g hw 254 rfl) (own_g hw 255 rfl) (own_g hw 252 rfl) (own_g hw 256 rfl) (by decide) (W := 0) (rm_dok l Z a0 hw [] m311 r311 kr311 us n 4 zc wf n0 T346.heap SS' ((q340.keep K341 all0).keep K346 all0) ⟨(q342.keep K346), (q343.keep K346 nin0), (q344.keep K346 nin0), (q345.keep K346 nin0)⟩ hn (by decide) hl (gk 4)) rfl (by decide) (by decide) (by decide) (by decide) (g := (mkF m 398 #[.val (.int f), .val (.int r), .val (.int xx), .val (.int flag), .val (.ref b270), .val (.ref b275), .val (.ref b280), .val (.ref b287), .val (.int (Int32.ofNat n)), .val (.ref b294), .val (.ref m311), .val (.int (Int32.ofNat (own_w n))), .val (.int (1 : Int32))] [(.int (4 : Int32)), (.int (Int32.ofNat (own_w n))), (.int (Int32.ofNat n)), (.ref m311)])) rfl (by rw [hml]; rfl) (argsL := [(.ref m311), (.int (Int32.ofNat n)), (.int (Int32.ofNat (own_w n))), (.int (4 : Int32))]) (rest := []) opd_33 rfl rfl rfl (by show 2 * 0 + _ ≤ _; exact Nat.le_of_eq rfl) (hb hby at_398)
    obtain ⟨rfl, N347, K347⟩ := hQ347
    have NN347 := Fr.app NN346 N347
    have KK347 : Keep h0 T347.heap [] := KK346.trans K347 all0
    have H347 := CHv.keep K347 sf0 H346
    have R347 := CHr.trans R346 (CHr.keep K347 sf0 H346)
    refine os st347 ?_
    show OGo p e below _ T347 (mkF m 401 #[.val (.int f), .val (.int r), .val (.int xx), .val (.int flag), .val (.ref b270), .val (.ref b275), .val (.ref b280), .val (.ref b287), .val (.int (Int32.ofNat n)), .val (.ref b294), .val (.ref m311), .val (.int (Int32.ofNat (own_w n))), .val (.int (1 : Int32))] [(.int (1 : Int32))])
    refine os (fun _ k => XS.ifNo X347.here hx rfl (hb hby at_401) rfl ((if0 _ _).trans (feq (by decide : ¬ (1 : Int32) = 0)).1) k) ?_
    show OGo p e below _ T347 (mkF m 404 #[.val (.int f), .val (.int r), .val (.int xx), .val (.int flag), .val (.ref b270), .val (.ref b275), .val (.ref b280), .val (.ref b287), .val (.int (Int32.ofNat n)), .val (.ref b294), .val (.ref m311), .val (.int (Int32.ofNat (own_w n))), .val (.int (1 : Int32))] [])
    refine os (fun _ k => XS.aload X347.here hx rfl (hb hby at_404) rfl rfl k) ?_
    show OGo p e below _ T347 (mkF m 406 #[.val (.int f), .val (.int r), .val (.int xx), .val (.int flag), .val (.ref b270), .val (.ref b275), .val (.ref b280), .val (.ref b287), .val (.int (Int32.ofNat n)), .val (.ref b294), .val (.ref m311), .val (.int (Int32.ofNat (own_w n))), .val (.int (1 : Int32))] [(.ref m311)])
    refine os (fun _ k => XS.iload X347.here hx rfl (hb hby at_406) rfl k) ?_
    show OGo p e below _ T347 (mkF m 408 #[.val (.int f), .val (.int r), .val (.int xx), .val (.int flag), .val (.ref b270), .val (.ref b275), .val (.ref b280), .val (.ref b287), .val (.int (Int32.ofNat n)), .val (.ref b294), .val (.ref m311), .val (.int (Int32.ofNat (own_w n))), .val (.int (1 : Int32))] [(.int (Int32.ofNat n)), (.ref m311)])
    refine os (fun _ k => XS.iload X347.here hx rfl (hb hby at_408) rfl k) ?_
    show OGo p e below _ T347 (mkF m 410 #[.val (.int f), .val (.int r), .val (.int xx), .val (.int flag), .val (.ref b270), .val (.ref b275), .val (.ref b280), .val (.ref b287), .val (.int (Int32.ofNat n)), .val (.ref b294), .val (.ref m311), .val (.int (Int32.ofNat (own_w n))), .val (.int (1 : Int32))] [(.int (Int32.ofNat (own_w n))), (.int (Int32.ofNat n)), (.ref m311)])
    refine os (fun _ k => XS.iconst X347.here hx rfl (hb hby at_410) k) ?_
    show OGo p e below _ T347 (mkF m 411 #[.val (.int f), .val (.int r), .val (.int xx), .val (.int flag), .val (.ref b270), .val (.ref b275), .val (.ref b280), .val (.ref b287), .val (.int (Int32.ofNat n)), .val (.ref b294), .val (.ref m311), .val (.int (Int32.ofNat (own_w n))), .val (.int (1 : Int32))] [(.int (5 : Int32)), (.int (Int32.ofNat (own_w n))), (.int (Int32.ofNat n)), (.ref m311)])
    have q348 := (((q340.keep K341 all0).keep K346 all0).keep K347 all0)
    obtain ⟨v349, T349, L349, X349, hQ349, st349⟩ := scall X347 hx hZ311 hown311 (own_g hw 254 rfl) (own_g hw 255 rfl) (own_g hw 252 rfl) (own_g hw 256 rfl) (by decide) (W := 0) (rm_dok l Z a0 hw [] m311 r311 kr311 us n 5 zc wf n0 T347.heap SS' q348 ⟨((q342.keep K346).keep K347), ((q343.keep K346 nin0).keep K347 nin0), ((q344.keep K346 nin0).keep K347 nin0), ((q345.keep K346 nin0).keep K347 nin0)⟩ hn (by decide) hl (gk 5)) rfl (by decide) (by decide) (by decide) (by decide) (g := (mkF m 411 #[.val (.int f), .val (.int r), .val (.int xx), .val (.int flag), .val (.ref b270), .val (.ref b275), .val (.ref b280), .val (.ref b287), .val (.int (Int32.ofNat n)), .val (.ref b294), .val (.ref m311), .val (.int (Int32.ofNat (own_w n))), .val (.int (1 : Int32))] [(.int (5 : Int32)), (.int (Int32.ofNat (own_w n))), (.int (Int32.ofNat n)), (.ref m311)])) rfl (by rw [hml]; rfl) (argsL := [(.ref m311), (.int (Int32.ofNat n)), (.int (Int32.ofNat (own_w n))), (.int (5 : Int32))]) (rest := []) opd_33 rfl rfl rfl (by show 2 * 0 + _ ≤ _; exact Nat.le_of_eq rfl) (hb hby at_411)
    obtain ⟨rfl, N349, K349⟩ := hQ349
    have NN349 := Fr.app NN347 N349
    have KK349 : Keep h0 T349.heap [] := KK347.trans K349 all0
    have H349 := CHv.keep K349 sf0 H347
    have R349 := CHr.trans R347 (CHr.keep K349 sf0 H347)
    refine os st349 ?_
    show OGo p e below _ T349 (mkF m 414 #[.val (.int f), .val (.int r), .val (.int xx), .val (.int flag), .val (.ref b270), .val (.ref b275), .val (.ref b280), .val (.ref b287), .val (.int (Int32.ofNat n)), .val (.ref b294), .val (.ref m311), .val (.int (Int32.ofNat (own_w n))), .val (.int (1 : Int32))] [(.int (1 : Int32))])
    refine os (fun _ k => XS.ifNo X349.here hx rfl (hb hby at_414) rfl ((if0 _ _).trans (feq (by decide : ¬ (1 : Int32) = 0)).1) k) ?_
    show OGo p e below _ T349 (mkF m 417 #[.val (.int f), .val (.int r), .val (.int xx), .val (.int flag), .val (.ref b270), .val (.ref b275), .val (.ref b280), .val (.ref b287), .val (.int (Int32.ofNat n)), .val (.ref b294), .val (.ref m311), .val (.int (Int32.ofNat (own_w n))), .val (.int (1 : Int32))] [])
    refine os (fun _ k => XS.aload X349.here hx rfl (hb hby at_417) rfl rfl k) ?_
    show OGo p e below _ T349 (mkF m 419 #[.val (.int f), .val (.int r), .val (.int xx), .val (.int flag), .val (.ref b270), .val (.ref b275), .val (.ref b280), .val (.ref b287), .val (.int (Int32.ofNat n)), .val (.ref b294), .val (.ref m311), .val (.int (Int32.ofNat (own_w n))), .val (.int (1 : Int32))] [(.ref m311)])
    refine os (fun _ k => XS.iload X349.here hx rfl (hb hby at_419) rfl k) ?_
    show OGo p e below _ T349 (mkF m 421 #[.val (.int f), .val (.int r), .val (.int xx), .val (.int flag), .val (.ref b270), .val (.ref b275), .val (.ref b280), .val (.ref b287), .val (.int (Int32.ofNat n)), .val (.ref b294), .val (.ref m311), .val (.int (Int32.ofNat (own_w n))), .val (.int (1 : Int32))] [(.int (Int32.ofNat n)), (.ref m311)])
    refine os (fun _ k => XS.iload X349.here hx rfl (hb hby at_421) rfl k) ?_
    show OGo p e below _ T349 (mkF m 423 #[.val (.int f), .val (.int r), .val (.int xx), .val (.int flag), .val (.ref b270), .val (.ref b275), .val (.ref b280), .val (.ref b287), .val (.int (Int32.ofNat n)), .val (.ref b294), .val (.ref m311), .val (.int (Int32.ofNat (own_w n))), .val (.int (1 : Int32))] [(.int (Int32.ofNat (own_w n))), (.int (Int32.ofNat n)), (.ref m311)])
    refine os (fun _ k => XS.bipush X349.here hx rfl (hb hby at_423) k) ?_
    show OGo p e below _ T349 (mkF m 425 #[.val (.int f), .val (.int r), .val (.int xx), .val (.int flag), .val (.ref b270), .val (.ref b275), .val (.ref b280), .val (.ref b287), .val (.int (Int32.ofNat n)), .val (.ref b294), .val (.ref m311), .val (.int (Int32.ofNat (own_w n))), .val (.int (1 : Int32))] [(.int (6 : Int32)), (.int (Int32.ofNat (own_w n))), (.int (Int32.ofNat n)), (.ref m311)])
    have q350 := (((q343.keep K346 nin0).keep K347 nin0).keep K349 nin0)
    have q351 := (((q344.keep K346 nin0).keep K347 nin0).keep K349 nin0)
    have q352 := (((q345.keep K346 nin0).keep K347 nin0).keep K349 nin0)
    obtain ⟨v353, T353, L353, X353, hQ353, st353⟩ := scall X349 hx hZ311 hown311 (own_g hw 254 rfl) (own_g hw 255 rfl) (own_g hw 252 rfl) (own_g hw 256 rfl) (by decide) (W := 0) (rm_dok l Z a0 hw [] m311 r311 kr311 us n 6 zc wf n0 T349.heap SS' (q348.keep K349 all0) ⟨(((q342.keep K346).keep K347).keep K349), q350, q351, q352⟩ hn (by decide) hl (gk 6)) rfl (by decide) (by decide) (by decide) (by decide) (g := (mkF m 425 #[.val (.int f), .val (.int r), .val (.int xx), .val (.int flag), .val (.ref b270), .val (.ref b275), .val (.ref b280), .val (.ref b287), .val (.int (Int32.ofNat n)), .val (.ref b294), .val (.ref m311), .val (.int (Int32.ofNat (own_w n))), .val (.int (1 : Int32))] [(.int (6 : Int32)), (.int (Int32.ofNat (own_w n))), (.int (Int32.ofNat n)), (.ref m311)])) rfl (by rw [hml]; rfl) (argsL := [(.ref m311), (.int (Int32.ofNat n)), (.int (Int32.ofNat (own_w n))), (.int (6 : Int32))]) (rest := []) opd_33 rfl rfl rfl (by show 2 * 0 + _ ≤ _; exact Nat.le_of_eq rfl) (hb hby at_425)
    obtain ⟨rfl, N353, K353⟩ := hQ353
    have NN353 := Fr.app NN349 N353
    have KK353 : Keep h0 T353.heap [] := KK349.trans K353 all0
    have H353 := CHv.keep K353 sf0 H349
    have R353 := CHr.trans R349 (CHr.keep K353 sf0 H349)
    refine os st353 ?_
    show OGo p e below _ T353 (mkF m 428 #[.val (.int f), .val (.int r), .val (.int xx), .val (.int flag), .val (.ref b270), .val (.ref b275), .val (.ref b280), .val (.ref b287), .val (.int (Int32.ofNat n)), .val (.ref b294), .val (.ref m311), .val (.int (Int32.ofNat (own_w n))), .val (.int (1 : Int32))] [(.int (1 : Int32))])
    refine os (fun _ k => XS.ifNo X353.here hx rfl (hb hby at_428) rfl ((if0 _ _).trans (feq (by decide : ¬ (1 : Int32) = 0)).1) k) ?_
    show OGo p e below _ T353 (mkF m 431 #[.val (.int f), .val (.int r), .val (.int xx), .val (.int flag), .val (.ref b270), .val (.ref b275), .val (.ref b280), .val (.ref b287), .val (.int (Int32.ofNat n)), .val (.ref b294), .val (.ref m311), .val (.int (Int32.ofNat (own_w n))), .val (.int (1 : Int32))] [])
    refine os (fun _ k => XS.aload X353.here hx rfl (hb hby at_431) rfl rfl k) ?_
    show OGo p e below _ T353 (mkF m 433 #[.val (.int f), .val (.int r), .val (.int xx), .val (.int flag), .val (.ref b270), .val (.ref b275), .val (.ref b280), .val (.ref b287), .val (.int (Int32.ofNat n)), .val (.ref b294), .val (.ref m311), .val (.int (Int32.ofNat (own_w n))), .val (.int (1 : Int32))] [(.ref m311)])
    refine os (fun _ k => XS.iload X353.here hx rfl (hb hby at_433) rfl k) ?_
    show OGo p e below _ T353 (mkF m 435 #[.val (.int f), .val (.int r), .val (.int xx), .val (.int flag), .val (.ref b270), .val (.ref b275), .val (.ref b280), .val (.ref b287), .val (.int (Int32.ofNat n)), .val (.ref b294), .val (.ref m311), .val (.int (Int32.ofNat (own_w n))), .val (.int (1 : Int32))] [(.int (Int32.ofNat n)), (.ref m311)])
    refine os (fun _ k => XS.iload X353.here hx rfl (hb hby at_435) rfl k) ?_
    show OGo p e below _ T353 (mkF m 437 #[.val (.int f), .val (.int r), .val (.int xx), .val (.int flag), .val (.ref b270), .val (.ref b275), .val (.ref b280), .val (.ref b287), .val (.int (Int32.ofNat n)), .val (.ref b294), .val (.ref m311), .val (.int (Int32.ofNat (own_w n))), .val (.int (1 : Int32))] [(.int (Int32.ofNat (own_w n))), (.int (Int32.ofNat n)), (.ref m311)])
    refine os (fun _ k => XS.bipush X353.here hx rfl (hb hby at_437) k) ?_
    show OGo p e below _ T353 (mkF m 439 #[.val (.int f), .val (.int r), .val (.int xx), .val (.int flag), .val (.ref b270), .val (.ref b275), .val (.ref b280), .val (.ref b287), .val (.int (Int32.ofNat n)), .val (.ref b294), .val (.ref m311), .val (.int (Int32.ofNat (own_w n))), .val (.int (1 : Int32))] [(.int (7 : Int32)), (.int (Int32.ofNat (own_w n))), (.int (Int32.ofNat n)), (.ref m311)])
    have q354 := ((((q342.keep K346).keep K347).keep K349).keep K353)
    obtain ⟨v355, T355, L355, X355, hQ355, st355⟩ := scall X353 hx hZ311 hown311 (own_g hw 254 rfl) (own_g hw 255 rfl) (own_g hw 252 rfl) (own_g hw 256 rfl) (by decide) (W := 0) (rm_dok l Z a0 hw [] m311 r311 kr311 us n 7 zc wf n0 T353.heap SS' ((q348.keep K349 all0).keep K353 all0) ⟨q354, (q350.keep K353 nin0), (q351.keep K353 nin0), (q352.keep K353 nin0)⟩ hn (by decide) hl (gk 7)) rfl (by decide) (by decide) (by decide) (by decide) (g := (mkF m 439 #[.val (.int f), .val (.int r), .val (.int xx), .val (.int flag), .val (.ref b270), .val (.ref b275), .val (.ref b280), .val (.ref b287), .val (.int (Int32.ofNat n)), .val (.ref b294), .val (.ref m311), .val (.int (Int32.ofNat (own_w n))), .val (.int (1 : Int32))] [(.int (7 : Int32)), (.int (Int32.ofNat (own_w n))), (.int (Int32.ofNat n)), (.ref m311)])) rfl (by rw [hml]; rfl) (argsL := [(.ref m311), (.int (Int32.ofNat n)), (.int (Int32.ofNat (own_w n))), (.int (7 : Int32))]) (rest := []) opd_33 rfl rfl rfl (by show 2 * 0 + _ ≤ _; exact Nat.le_of_eq rfl) (hb hby at_439)
    obtain ⟨rfl, N355, K355⟩ := hQ355
    have NN355 := Fr.app NN353 N355
    have KK355 : Keep h0 T355.heap [] := KK353.trans K355 all0
    have H355 := CHv.keep K355 sf0 H353
    have R355 := CHr.trans R353 (CHr.keep K355 sf0 H353)
    refine os st355 ?_
    show OGo p e below _ T355 (mkF m 442 #[.val (.int f), .val (.int r), .val (.int xx), .val (.int flag), .val (.ref b270), .val (.ref b275), .val (.ref b280), .val (.ref b287), .val (.int (Int32.ofNat n)), .val (.ref b294), .val (.ref m311), .val (.int (Int32.ofNat (own_w n))), .val (.int (1 : Int32))] [(.int (1 : Int32))])
    refine os (fun _ k => XS.ifNo X355.here hx rfl (hb hby at_442) rfl ((if0 _ _).trans (feq (by decide : ¬ (1 : Int32) = 0)).1) k) ?_
    show OGo p e below _ T355 (mkF m 445 #[.val (.int f), .val (.int r), .val (.int xx), .val (.int flag), .val (.ref b270), .val (.ref b275), .val (.ref b280), .val (.ref b287), .val (.int (Int32.ofNat n)), .val (.ref b294), .val (.ref m311), .val (.int (Int32.ofNat (own_w n))), .val (.int (1 : Int32))] [])
    refine os (fun _ k => XS.aload X355.here hx rfl (hb hby at_445) rfl rfl k) ?_
    show OGo p e below _ T355 (mkF m 447 #[.val (.int f), .val (.int r), .val (.int xx), .val (.int flag), .val (.ref b270), .val (.ref b275), .val (.ref b280), .val (.ref b287), .val (.int (Int32.ofNat n)), .val (.ref b294), .val (.ref m311), .val (.int (Int32.ofNat (own_w n))), .val (.int (1 : Int32))] [(.ref m311)])
    refine os (fun _ k => XS.iload X355.here hx rfl (hb hby at_447) rfl k) ?_
    show OGo p e below _ T355 (mkF m 449 #[.val (.int f), .val (.int r), .val (.int xx), .val (.int flag), .val (.ref b270), .val (.ref b275), .val (.ref b280), .val (.ref b287), .val (.int (Int32.ofNat n)), .val (.ref b294), .val (.ref m311), .val (.int (Int32.ofNat (own_w n))), .val (.int (1 : Int32))] [(.int (Int32.ofNat n)), (.ref m311)])
    refine os (fun _ k => XS.iload X355.here hx rfl (hb hby at_449) rfl k) ?_
    show OGo p e below _ T355 (mkF m 451 #[.val (.int f), .val (.int r), .val (.int xx), .val (.int flag), .val (.ref b270), .val (.ref b275), .val (.ref b280), .val (.ref b287), .val (.int (Int32.ofNat n)), .val (.ref b294), .val (.ref m311), .val (.int (Int32.ofNat (own_w n))), .val (.int (1 : Int32))] [(.int (Int32.ofNat (own_w n))), (.int (Int32.ofNat n)), (.ref m311)])
    refine os (fun _ k => XS.bipush X355.here hx rfl (hb hby at_451) k) ?_
    show OGo p e below _ T355 (mkF m 453 #[.val (.int f), .val (.int r), .val (.int xx), .val (.int flag), .val (.ref b270), .val (.ref b275), .val (.ref b280), .val (.ref b287), .val (.int (Int32.ofNat n)), .val (.ref b294), .val (.ref m311), .val (.int (Int32.ofNat (own_w n))), .val (.int (1 : Int32))] [(.int (8 : Int32)), (.int (Int32.ofNat (own_w n))), (.int (Int32.ofNat n)), (.ref m311)])
    have q356 := (((q348.keep K349 all0).keep K353 all0).keep K355 all0)
    obtain ⟨v357, T357, L357, X357, hQ357, st357⟩ := scall X355 hx hZ311 hown311 (own_g hw 254 rfl) (own_g hw 255 rfl) (own_g hw 252 rfl) (own_g hw 256 rfl) (by decide) (W := 0) (rm_dok l Z a0 hw [] m311 r311 kr311 us n 8 zc wf n0 T355.heap SS' q356 ⟨(q354.keep K355), ((q350.keep K353 nin0).keep K355 nin0), ((q351.keep K353 nin0).keep K355 nin0), ((q352.keep K353 nin0).keep K355 nin0)⟩ hn (by decide) hl (gk 8)) rfl (by decide) (by decide) (by decide) (by decide) (g := (mkF m 453 #[.val (.int f), .val (.int r), .val (.int xx), .val (.int flag), .val (.ref b270), .val (.ref b275), .val (.ref b280), .val (.ref b287), .val (.int (Int32.ofNat n)), .val (.ref b294), .val (.ref m311), .val (.int (Int32.ofNat (own_w n))), .val (.int (1 : Int32))] [(.int (8 : Int32)), (.int (Int32.ofNat (own_w n))), (.int (Int32.ofNat n)), (.ref m311)])) rfl (by rw [hml]; rfl) (argsL := [(.ref m311), (.int (Int32.ofNat n)), (.int (Int32.ofNat (own_w n))), (.int (8 : Int32))]) (rest := []) opd_33 rfl rfl rfl (by show 2 * 0 + _ ≤ _; exact Nat.le_of_eq rfl) (hb hby at_453)
    obtain ⟨rfl, N357, K357⟩ := hQ357
    have NN357 := Fr.app NN355 N357
    have KK357 : Keep h0 T357.heap [] := KK355.trans K357 all0
    have H357 := CHv.keep K357 sf0 H355
    have R357 := CHr.trans R355 (CHr.keep K357 sf0 H355)
    refine os st357 ?_
    show OGo p e below _ T357 (mkF m 456 #[.val (.int f), .val (.int r), .val (.int xx), .val (.int flag), .val (.ref b270), .val (.ref b275), .val (.ref b280), .val (.ref b287), .val (.int (Int32.ofNat n)), .val (.ref b294), .val (.ref m311), .val (.int (Int32.ofNat (own_w n))), .val (.int (1 : Int32))] [(.int (1 : Int32))])
    refine os (fun _ k => XS.ifNo X357.here hx rfl (hb hby at_456) rfl ((if0 _ _).trans (feq (by decide : ¬ (1 : Int32) = 0)).1) k) ?_
    show OGo p e below _ T357 (mkF m 459 #[.val (.int f), .val (.int r), .val (.int xx), .val (.int flag), .val (.ref b270), .val (.ref b275), .val (.ref b280), .val (.ref b287), .val (.int (Int32.ofNat n)), .val (.ref b294), .val (.ref m311), .val (.int (Int32.ofNat (own_w n))), .val (.int (1 : Int32))] [])
    refine os (fun _ k => XS.aload X357.here hx rfl (hb hby at_459) rfl rfl k) ?_
    show OGo p e below _ T357 (mkF m 461 #[.val (.int f), .val (.int r), .val (.int xx), .val (.int flag), .val (.ref b270), .val (.ref b275), .val (.ref b280), .val (.ref b287), .val (.int (Int32.ofNat n)), .val (.ref b294), .val (.ref m311), .val (.int (Int32.ofNat (own_w n))), .val (.int (1 : Int32))] [(.ref m311)])
    refine os (fun _ k => XS.iload X357.here hx rfl (hb hby at_461) rfl k) ?_
    show OGo p e below _ T357 (mkF m 463 #[.val (.int f), .val (.int r), .val (.int xx), .val (.int flag), .val (.ref b270), .val (.ref b275), .val (.ref b280), .val (.ref b287), .val (.int (Int32.ofNat n)), .val (.ref b294), .val (.ref m311), .val (.int (Int32.ofNat (own_w n))), .val (.int (1 : Int32))] [(.int (Int32.ofNat n)), (.ref m311)])
    refine os (fun _ k => XS.iload X357.here hx rfl (hb hby at_463) rfl k) ?_
    show OGo p e below _ T357 (mkF m 465 #[.val (.int f), .val (.int r), .val (.int xx), .val (.int flag), .val (.ref b270), .val (.ref b275), .val (.ref b280), .val (.ref b287), .val (.int (Int32.ofNat n)), .val (.ref b294), .val (.ref m311), .val (.int (Int32.ofNat (own_w n))), .val (.int (1 : Int32))] [(.int (Int32.ofNat (own_w n))), (.int (Int32.ofNat n)), (.ref m311)])
    refine os (fun _ k => XS.bipush X357.here hx rfl (hb hby at_465) k) ?_
    show OGo p e below _ T357 (mkF m 467 #[.val (.int f), .val (.int r), .val (.int xx), .val (.int flag), .val (.ref b270), .val (.ref b275), .val (.ref b280), .val (.ref b287), .val (.int (Int32.ofNat n)), .val (.ref b294), .val (.ref m311), .val (.int (Int32.ofNat (own_w n))), .val (.int (1 : Int32))] [(.int (9 : Int32)), (.int (Int32.ofNat (own_w n))), (.int (Int32.ofNat n)), (.ref m311)])
    have q358 := (((q350.keep K353 nin0).keep K355 nin0).keep K357 nin0)
    have q359 := (((q351.keep K353 nin0).keep K355 nin0).keep K357 nin0)
    have q360 := (((q352.keep K353 nin0).keep K355 nin0).keep K357 nin0)
    obtain ⟨v361, T361, L361, X361, hQ361, st361⟩ := scall X357 hx hZ311 hown311 (own_g hw 254 rfl) (own_g hw 255 rfl) (own_g hw 252 rfl) (own_g hw 256 rfl) (by decide) (W := 0) (rm_dok l Z a0 hw [] m311 r311 kr311 us n 9 zc wf n0 T357.heap SS' (q356.keep K357 all0) ⟨((q354.keep K355).keep K357), q358, q359, q360⟩ hn (by decide) hl (gk 9)) rfl (by decide) (by decide) (by decide) (by decide) (g := (mkF m 467 #[.val (.int f), .val (.int r), .val (.int xx), .val (.int flag), .val (.ref b270), .val (.ref b275), .val (.ref b280), .val (.ref b287), .val (.int (Int32.ofNat n)), .val (.ref b294), .val (.ref m311), .val (.int (Int32.ofNat (own_w n))), .val (.int (1 : Int32))] [(.int (9 : Int32)), (.int (Int32.ofNat (own_w n))), (.int (Int32.ofNat n)), (.ref m311)])) rfl (by rw [hml]; rfl) (argsL := [(.ref m311), (.int (Int32.ofNat n)), (.int (Int32.ofNat (own_w n))), (.int (9 : Int32))]) (rest := []) opd_33 rfl rfl rfl (by show 2 * 0 + _ ≤ _; exact Nat.le_of_eq rfl) (hb hby at_467)
    obtain ⟨rfl, N361, K361⟩ := hQ361
    have NN361 := Fr.app NN357 N361
    have KK361 : Keep h0 T361.heap [] := KK357.trans K361 all0
    have H361 := CHv.keep K361 sf0 H357
    have R361 := CHr.trans R357 (CHr.keep K361 sf0 H357)
    refine os st361 ?_
    show OGo p e below _ T361 (mkF m 470 #[.val (.int f), .val (.int r), .val (.int xx), .val (.int flag), .val (.ref b270), .val (.ref b275), .val (.ref b280), .val (.ref b287), .val (.int (Int32.ofNat n)), .val (.ref b294), .val (.ref m311), .val (.int (Int32.ofNat (own_w n))), .val (.int (1 : Int32))] [(.int (1 : Int32))])
    refine os (fun _ k => XS.ifNo X361.here hx rfl (hb hby at_470) rfl ((if0 _ _).trans (feq (by decide : ¬ (1 : Int32) = 0)).1) k) ?_
    show OGo p e below _ T361 (mkF m 473 #[.val (.int f), .val (.int r), .val (.int xx), .val (.int flag), .val (.ref b270), .val (.ref b275), .val (.ref b280), .val (.ref b287), .val (.int (Int32.ofNat n)), .val (.ref b294), .val (.ref m311), .val (.int (Int32.ofNat (own_w n))), .val (.int (1 : Int32))] [])
    refine os (fun _ k => XS.iconst X361.here hx rfl (hb hby at_473) k) ?_
    show OGo p e below _ T361 (mkF m 474 #[.val (.int f), .val (.int r), .val (.int xx), .val (.int flag), .val (.ref b270), .val (.ref b275), .val (.ref b280), .val (.ref b287), .val (.int (Int32.ofNat n)), .val (.ref b294), .val (.ref m311), .val (.int (Int32.ofNat (own_w n))), .val (.int (1 : Int32))] [(.int (1 : Int32))])
    refine os (fun _ k => XS.goto X361.here hx rfl (pc0 := 474) (pc' := 478) rfl (hb hby at_474) (by decide) (by decide) k) ?_
    show OGo p e below _ T361 (mkF m 478 #[.val (.int f), .val (.int r), .val (.int xx), .val (.int flag), .val (.ref b270), .val (.ref b275), .val (.ref b280), .val (.ref b287), .val (.int (Int32.ofNat n)), .val (.ref b294), .val (.ref m311), .val (.int (Int32.ofNat (own_w n))), .val (.int (1 : Int32))] [(.int (1 : Int32))])
    refine os (fun _ k => XS.istore X361.here hx rfl (hb hby at_478) rfl (l' := #[.val (.int f), .val (.int r), .val (.int xx), .val (.int flag), .val (.ref b270), .val (.ref b275), .val (.ref b280), .val (.ref b287), .val (.int (Int32.ofNat n)), .val (.ref b294), .val (.ref m311), .val (.int (Int32.ofNat (own_w n))), .val (.int (1 : Int32))]) rfl k) ?_
    show OGo p e below _ T361 (mkF m 480 #[.val (.int f), .val (.int r), .val (.int xx), .val (.int flag), .val (.ref b270), .val (.ref b275), .val (.ref b280), .val (.ref b287), .val (.int (Int32.ofNat n)), .val (.ref b294), .val (.ref m311), .val (.int (Int32.ofNat (own_w n))), .val (.int (1 : Int32))] [])
    refine os (fun _ k => XS.iload X361.here hx rfl (hb hby at_480) rfl k) ?_
    show OGo p e below _ T361 (mkF m 482 #[.val (.int f), .val (.int r), .val (.int xx), .val (.int flag), .val (.ref b270), .val (.ref b275), .val (.ref b280), .val (.ref b287), .val (.int (Int32.ofNat n)), .val (.ref b294), .val (.ref m311), .val (.int (Int32.ofNat (own_w n))), .val (.int (1 : Int32))] [(.int (1 : Int32))])
    exact OGo.retH X361 hx hZ311 (own_hEL hw) hs0 rfl hS311 (Nat.le_trans (Nat.le_trans (Nat.le_trans (Nat.le_trans (Nat.le_trans (Nat.le_trans (Nat.le_trans (Nat.le_trans (Nat.le_trans (Nat.le_trans hk311 K338.1) K339.1) K341.1) K346.1) K347.1) K349.1) K353.1) K355.1) K357.1) K361.1) H361 R361 (t := .boolean) hret hlk rfl (Or.inl ⟨rfl, by simp, _, rfl⟩) (hb hby at_482) (by decide) (by decide) ⟨rfl, NN361⟩
  by_cases qf : (flag &&& (1 : Int32)) = 0
  case neg =>
    refine os (fun _ k => XS.ifNo X293.here hx rfl (hb hby at_77) rfl ((if0 _ _).trans (feq qf).1) k) ?_
    show OGo p e below _ T293 (mkF m 80 #[.val (.int f), .val (.int r), .val (.int xx), .val (.int flag), .val (.ref b270), .val (.ref b275), .val (.ref b280), .val (.ref b287), .unset, .unset, .unset, .unset, .unset] [])
    refine os (fun _ k => XS.iconst X293.here hx rfl (hb hby at_80) k) ?_
    show OGo p e below _ T293 (mkF m 81 #[.val (.int f), .val (.int r), .val (.int xx), .val (.int flag), .val (.ref b270), .val (.ref b275), .val (.ref b280), .val (.ref b287), .unset, .unset, .unset, .unset, .unset] [(.int (0 : Int32))])
    refine os (fun _ k => XS.goto X293.here hx rfl (pc0 := 81) (pc' := 88) rfl (hb hby at_81) (by decide) (by decide) k) ?_
    show OGo p e below _ T293 (mkF m 88 #[.val (.int f), .val (.int r), .val (.int xx), .val (.int flag), .val (.ref b270), .val (.ref b275), .val (.ref b280), .val (.ref b287), .unset, .unset, .unset, .unset, .unset] [(.int (0 : Int32))])
    exact K88 0 (by decide)
  refine os (fun _ k => XS.ifYes X293.here hx rfl (pc0 := 77) (pc' := 84) rfl (hb hby at_77) rfl ((if0 _ _).trans (teq qf).1) (by decide) (by decide) k) ?_
  show OGo p e below _ T293 (mkF m 84 #[.val (.int f), .val (.int r), .val (.int xx), .val (.int flag), .val (.ref b270), .val (.ref b275), .val (.ref b280), .val (.ref b287), .unset, .unset, .unset, .unset, .unset] [])
  refine os (fun _ k => XS.iloadN X293.here hx rfl (hb hby at_84) rfl k) ?_
  show OGo p e below _ T293 (mkF m 85 #[.val (.int f), .val (.int r), .val (.int xx), .val (.int flag), .val (.ref b270), .val (.ref b275), .val (.ref b280), .val (.ref b287), .unset, .unset, .unset, .unset, .unset] [(.int xx)])
  refine os (fun _ k => Jvm.Stand.ldcI X293 hx hown (mvT hZ (own_g hw 229 rfl)) rfl (hb hby at_85) k) ?_
  show OGo p e below _ T293 (mkF m 87 #[.val (.int f), .val (.int r), .val (.int xx), .val (.int flag), .val (.ref b270), .val (.ref b275), .val (.ref b280), .val (.ref b287), .unset, .unset, .unset, .unset, .unset] [(.int (2147483647 : Int32)), (.int xx)])
  refine os (fun _ k => XS.iand X293.here hx rfl (hb hby at_87) rfl k) ?_
  show OGo p e below _ T293 (mkF m 88 #[.val (.int f), .val (.int r), .val (.int xx), .val (.int flag), .val (.ref b270), .val (.ref b275), .val (.ref b280), .val (.ref b287), .unset, .unset, .unset, .unset, .unset] [(.int (xx &&& (2147483647 : Int32)))])
  obtain ⟨n, hn, en⟩ := own_maskn xx
  rw [en]
  show OGo p e below _ T293 (mkF m 88 #[.val (.int f), .val (.int r), .val (.int xx), .val (.int flag), .val (.ref b270), .val (.ref b275), .val (.ref b280), .val (.ref b287), .unset, .unset, .unset, .unset, .unset] [(.int (Int32.ofNat n))])
  exact K88 n hn
set_option maxRecDepth 65536 in
set_option maxHeartbeats 40000000 in
theorem comes_1 {Post : Tables → Env → Array Value → State → Outcome → State → Prop} (hpost : ∀ tb e args s v u, (limb_1_1.after args s (.returned v) u = true ∧ limb_1_2.after args s (.returned v) u = true ∧ True) → ReturnedEndW s (.returned v) u (Jvm.fieldLocs frame_1_writes args s ++ Jvm.arrayLocs frame_1_arrays args s ++ Jvm.staticLocs frame_1_statics s) 72 9216 → Post tb e args s (.returned v) u) :
    ArmFor flags0 classFile x code maxLocals ret World_1 tables_1 room_1 Calls_1 rest_1 Pre_1 Post := by
  intro l hfl _ _ p e ha hc hk s m args below hf hA hF happ hP
  obtain ⟨hcalls, hrest, hpre⟩ := hP
  obtain ⟨-, -, -, hnamed, -, -, -, hat⟩ := (Spec.applies_iff hf).mp happ
  obtain ⟨hg, hn⟩ := and_e (Cond.before_iff.mp (show (Jvm.Cond.and given_1 narrow_1).before args s = true from hpre))
  obtain ⟨g1, g2⟩ := and_e hg
  obtain ⟨g3, g4⟩ := and_e g2
  obtain ⟨g5, g6⟩ := and_e g4
  obtain ⟨g7, g8⟩ := and_e g6
  obtain ⟨w0, w1, w2, w3, rfl⟩ : ∃ w0 w1 w2 w3 : Value, args = #[w0, w1, w2, w3] := by
    have hs : args.size = 4 := by simpa [Cond.value, given_1] using g1
    obtain ⟨L⟩ := args
    match L, hs with
    | [w0, w1, w2, w3], _ => exact ⟨w0, w1, w2, w3, rfl⟩
  have hw := fun d (hd : d ∈ tables_1) => atoms_spec (ws := Jvm.Cond.code x code maxLocals ret :: tables_1) hat d (List.mem_cons_of_mem _ hd)
  obtain ⟨i0, ei0⟩ := is_v g3
  obtain rfl : w0 = (.int i0) := Option.some.inj ei0
  obtain ⟨i1, ei1⟩ := is_v g5
  obtain rfl : w1 = (.int i1) := Option.some.inj ei1
  obtain ⟨i2, ei2⟩ := is_v g7
  obtain rfl : w2 = (.int i2) := Option.some.inj ei2
  obtain ⟨i3, ei3⟩ := is_v g8
  obtain rfl : w3 = (.int i3) := Option.some.inj ei3
  obtain ⟨hsets, hown0⟩ := atoms_of _ (rest_1_c_eq ▸ (show rest_1_c.before _ s = true from hrest))
  have n3 := not_v (Cond.before_iff.mp (hsets _ (List.mem_of_getElem? (i := 2) rfl)))
  obtain ⟨zc, e6⟩ := is_v (Cond.before_iff.mp (hsets _ (List.mem_of_getElem? (i := 1) rfl)))
  have S8 : Sta s s.heap "java/lang/String" "COMPACT_STRINGS" "Z" (.int zc) := Sta.start e6 (Or.inl (hsets _ (List.mem_of_getElem? (i := 0) rfl)))
  obtain ⟨wf, e10, r11⟩ := isR_v (Cond.before_iff.mp (hsets _ (List.mem_of_getElem? (i := 8) rfl)))
  have S12 : Sta s s.heap "jdk/internal/util/Preconditions" "SIOOBE_FORMATTER" "Ljava/util/function/BiFunction;" wf := Sta.start e10 (Or.inl (hsets _ (List.mem_of_getElem? (i := 7) rfl)))
  have c13 : ¬ (zc = (0 : Int32)) := gotF (Cond.eq_ints e6 (Term.int_eval (0))) n3
  have SS : own_SS s zc wf := ⟨c13, S8, r11, S12⟩
  have H0 : CHv s own_EL s.vm s.heap := CHv.start (own_hEL hw) (fun p hp => hcalls.2.2.1 p hp) (hsets _ (List.mem_of_getElem? (i := 2) rfl)) (own_g hw 19 rfl) (own_g hw 2 rfl)
  obtain ⟨wu0, eu0, ru0⟩ := isR_v (Cond.before_iff.mp (hsets _ (List.mem_of_getElem? (i := 16) rfl)))
  obtain ⟨u0, hvu0⟩ : ∃ u : RefV, u.v = wu0 := ⟨⟨wu0, ru0⟩, rfl⟩
  have S20 : Sta s s.heap "java/lang/Throwable" "UNASSIGNED_STACK" "[Ljava/lang/StackTraceElement;" u0.v := by rw [hvu0]; exact Sta.start eu0 (Or.inl (hsets _ (List.mem_of_getElem? (i := 15) rfl)))
  obtain ⟨wu1, eu1, ru1⟩ := isR_v (Cond.before_iff.mp (hsets _ (List.mem_of_getElem? (i := 21) rfl)))
  obtain ⟨u1, hvu1⟩ : ∃ u : RefV, u.v = wu1 := ⟨⟨wu1, ru1⟩, rfl⟩
  have S21 : Sta s s.heap "java/lang/Throwable" "SUPPRESSED_SENTINEL" "Ljava/util/List;" u1.v := by rw [hvu1]; exact Sta.start eu1 (Or.inl (hsets _ (List.mem_of_getElem? (i := 20) rfl)))
  have TS : own_TS s u0 u1 := ⟨S20, S21⟩
  have hlt : l.stackTraces = true := by show (!l.flags.contains noTraceFlag) = true; rw [hfl]; decide +kernel
  have hTK := own_mk hcalls.2.1
  have hBl := own_fk hf hcalls.1
  obtain ⟨d1, kd1, ed1, V21⟩ := own_tblS (k := 100) (val := fun i => (48 : Int32) + i.toInt32 % 10) (by decide) (hsets _ (List.mem_of_getElem? (i := 32) rfl)) (hsets _ (List.mem_of_getElem? (i := 33) rfl)) (hsets _ (List.mem_of_getElem? (i := 34) rfl)) (own_g hw 19 rfl) (fun i _ => rfl) (by decide +kernel)
  have S31 : Sta s s.heap "java/lang/Integer" "DigitOnes" "[B" (.ref d1) := Sta.start ed1 (Or.inl (hsets _ (List.mem_of_getElem? (i := 31) rfl)))
  rw [own_oneE] at V21
  obtain ⟨d2, kd2, ed2, V22⟩ := own_tblS (k := 100) (val := fun i => (48 : Int32) + i.toInt32 / 10) (by decide) (hsets _ (List.mem_of_getElem? (i := 37) rfl)) (hsets _ (List.mem_of_getElem? (i := 38) rfl)) (hsets _ (List.mem_of_getElem? (i := 39) rfl)) (own_g hw 19 rfl) (fun i _ => rfl) (by decide +kernel)
  have S32 : Sta s s.heap "java/lang/Integer" "DigitTens" "[B" (.ref d2) := Sta.start ed2 (Or.inl (hsets _ (List.mem_of_getElem? (i := 36) rfl)))
  rw [own_tenE] at V22
  have SI : own_SI s d1 d2 kd1 kd2 := ⟨S31, V21, S32, V22⟩
  obtain ⟨n, o, h1, h2, h3, _, L, rfl, ⟨rfl, N⟩, hC, hq⟩ := rm_law l s _ hw tables_1 i0 i1 i2 i3 zc wf s.heap.size u0 u1 d1 d2 kd1 kd2 s.heap SS (Old.start s) TS hlt SI p e ha hc hk s m _ below hf ((Spec.applies_iff_loose hf).mp happ).1 ⟨rfl, State.Warmed39.refl s, rfl, H0⟩ ⟨hTK, hBl⟩
  refine ⟨n, _, h1, h2, h3, hpost _ _ _ _ _ _ ⟨Cond.after_iff.mpr rfl, Cond.after_iff.mpr (eq_i res_at (Term.int_eval (1)) rfl), trivial⟩ ⟨hq.1, hq.2.1, hq.2.2.1, (hq.2.2.2.sift fun y hy => Or.inr (N y hy)).mono (by decide) (by decide)⟩⟩
theorem main_1_1 : Claimed_1_1 := comes_1 fun _ _ _ _ _ _ h hF => ⟨h.1, hF⟩
theorem main_1_2 : Claimed_1_2 := comes_1 fun _ _ _ _ _ _ h hF => ⟨h.2.1, hF⟩
end Jvm.Pilot.@@N@@
namespace Jvm.Pilot.@@N@@
open Jvm Jvm.ClassFile Sem Op Lib Jvm.Free Jvm.Stand Jvm.Pilot.@@N@@.Jvm.D
/-! MADE BY PROGRAM (witnessworld.py) out of the Statement's table words and the real class files: 45 classes; the members and pool entries that the words name. The judged class is class 1, her method 1. -/
namespace start1
open Jvm.ClassFile
def u (s : String) : CpInfo := .utf8 (stringToUtf16 s)
/-- a pool by its gaps: so many unusable entries, then the entry; so many at the end -/
def gap : Nat → List CpInfo → List CpInfo
  | 0, r => r
  | n + 1, r => .unusable :: gap n r
def poolList (es : List (Nat × CpInfo)) (last : Nat) : List CpInfo := es.foldr (fun e r => gap e.1 (e.2 :: r)) (gap last [])
def pool (es : List (Nat × CpInfo)) (last : Nat) : Array CpInfo := ⟨poolList es last⟩
def fileOf (pool : Array CpInfo) (this : Nat) (attrs : Array Attribute := #[]) (ms : Array MethodInfo := #[]) (fl : Nat := 33) (sup : Nat := 0) (ifs : Array Nat := #[]) (fds : Array FieldInfo := #[]) : ClassFile where
  minorVersion := 0
  majorVersion := 65
  constantPool := pool
  accessFlags := fl
  thisClass := this
  superClass := sup
  interfaces := ifs
  fields := fds
  methods := ms
  attributes := attrs
def plain (name : String) (sup : Option ClassId) : Class where
  name := name
  kind := .ordinary
  loader := none
  accessFlags := 33
  super := sup
  interfaces := #[]
  cf := none
  fields := #[]
  methods := #[]
  instanceTypes := #[]
  staticTypes := #[]
  resolved := #[]
  callSites := []
  init := .initialized
  statics := none
  mirror := none

def pool0 : Array CpInfo := pool [(5, u "<init>"), (0, u "()V"), (1, .class_ 10), (1, u "java/lang/Object"), (85, u "clone"), (0, u "()Ljava/lang/Object;")] 26

def k0c0 : Code := { maxStack := 0, maxLocals := 1, code := object_method_1_code, exceptionTable := #[], attributes := #[] }
def k0m0 : Method := { name := "<init>", desc := "()V", sig := { parameters := [], returnType := none }, accessFlags := 1, code := some k0c0 }
def k0m1 : Method := { name := "clone", desc := "()Ljava/lang/Object;", sig := { parameters := [], returnType := some (.object "java/lang/Object") }, accessFlags := 260, code := none }
/-- java/lang/Object -/
def k0 : Class := { plain "java/lang/Object" none with
  accessFlags := 33
  interfaces := #[]
  cf := some (fileOf pool0 8 #[] #[{ accessFlags := 1, nameIndex := 5, descriptorIndex := 6, attributes := #[] }, { accessFlags := 260, nameIndex := 96, descriptorIndex := 97, attributes := #[] }] 33 0 #[] #[])
  fields := #[]
  methods := #[k0m0, k0m1]
  instanceTypes := #[]
  staticTypes := #[]
  resolved := Array.replicate 124 none
  statics := none }

def pool1 : Array CpInfo := pool [(2, .class_ 4), (1, u "java/lang/Object"), (0, u "<init>"), (0, u "()V"), (0, .class_ 8), (0, u "java/lang/String"), (0, .methodref 7 10), (0, .nameAndType 5 11), (0, u "([C)V"), (0, .class_ 13), (0, u "com/example/slackline/slackline/instance/InputException"), (0, .integer 2147483647), (0, .methodref 12 16), (0, .nameAndType 5 17), (0, u "(ILjava/lang/String;)V"), (0, .methodref 12 19), (0, .nameAndType 20 21), (0, u "describe"), (0, u "(Ljava/lang/String;)Ljava/lang/String;"), (0, .methodref 7 23), (0, .nameAndType 24 25), (0, u "length"), (0, u "()I"), (0, .methodref 7 27), (0, .nameAndType 28 29), (0, u "charAt"), (0, u "(I)C"), (0, .methodref 31 32), (0, .class_ 33), (0, .nameAndType 34 35), (0, u "com/example/slackline/slackline/instance/InputExceptionDescribePinLaw"), (0, u "digits"), (0, u "(I)I"), (0, .methodref 31 37), (0, .nameAndType 38 39), (0, u "digitOk"), (0, u "(Ljava/lang/String;III)Z"), (0, .integer 100000), (0, .integer 1000000), (0, .integer 10000000), (0, .integer 100000000), (0, .integer 1000000000), (0, .long 10), (1, .long 100), (1, .long 1000), (1, .long 10000), (1, .long 100000), (1, .long 1000000), (1, .long 10000000), (1, .long 100000000), (1, .long 1000000000), (1, .methodref 31 64), (0, .nameAndType 65 66), (0, u "pow10"), (0, u "(I)J"), (2, u "law"), (0, u "(IIII)Z")] 5

def k1m0 : Method := { name := "<init>", desc := "()V", sig := { parameters := [], returnType := none }, accessFlags := 2, code := none }
def k1c1 : Code := { maxStack := 5, maxLocals := 13, code := code, exceptionTable := #[], attributes := #[] }
def k1m1 : Method := { name := "law", desc := "(IIII)Z", sig := { parameters := [.int, .int, .int, .int], returnType := some .boolean }, accessFlags := 9, code := some k1c1 }
def k1c2 : Code := { maxStack := 2, maxLocals := 1, code := method_3_code, exceptionTable := #[], attributes := #[] }
def k1m2 : Method := { name := "digits", desc := "(I)I", sig := { parameters := [.int], returnType := some .int }, accessFlags := 10, code := some k1c2 }
def k1c3 : Code := { maxStack := 5, maxLocals := 2, code := method_4_code, exceptionTable := #[], attributes := #[] }
def k1m3 : Method := { name := "pow10", desc := "(I)J", sig := { parameters := [.int], returnType := some .long }, accessFlags := 10, code := some k1c3 }
def k1c4 : Code := { maxStack := 5, maxLocals := 7, code := method_5_code, exceptionTable := #[], attributes := #[] }
def k1m4 : Method := { name := "digitOk", desc := "(Ljava/lang/String;III)Z", sig := { parameters := [(.object "java/lang/String"), .int, .int, .int], returnType := some .boolean }, accessFlags := 10, code := some k1c4 }
/-- com/example/slackline/slackline/instance/InputExceptionDescribePinLaw -/
def k1 : Class := { plain "com/example/slackline/slackline/instance/InputExceptionDescribePinLaw" (some 0) with
  accessFlags := 49
  interfaces := #[]
  cf := some (fileOf pool1 31 #[] #[{ accessFlags := 2, nameIndex := 5, descriptorIndex := 6, attributes := #[] }, { accessFlags := 9, nameIndex := 69, descriptorIndex := 70, attributes := #[] }, { accessFlags := 10, nameIndex := 34, descriptorIndex := 35, attributes := #[] }, { accessFlags := 10, nameIndex := 65, descriptorIndex := 66, attributes := #[] }, { accessFlags := 10, nameIndex := 38, descriptorIndex := 39, attributes := #[] }] 49 2 #[] #[])
  fields := #[]
  methods := #[k1m0, k1m1, k1m2, k1m3, k1m4]
  instanceTypes := #[]
  staticTypes := #[]
  resolved := Array.replicate 76 none
  statics := none }

def pool2 : Array CpInfo := pool [(1, .class_ 2), (0, u "java/io/Serializable"), (0, .class_ 4), (0, u "java/lang/Object")] 2

/-- java/io/Serializable -/
def k2 : Class := { plain "java/io/Serializable" (some 0) with
  accessFlags := 1537
  interfaces := #[]
  cf := some (fileOf pool2 1 #[] #[] 1537 3 #[] #[])
  fields := #[]
  methods := #[]
  instanceTypes := #[]
  staticTypes := #[]
  resolved := Array.replicate 7 none
  statics := none }

def pool3 : Array CpInfo := pool [(1, .class_ 2), (0, u "java/lang/Comparable"), (0, .class_ 4), (0, u "java/lang/Object")] 7

/-- java/lang/Comparable -/
def k3 : Class := { plain "java/lang/Comparable" (some 0) with
  accessFlags := 1537
  interfaces := #[]
  cf := some (fileOf pool3 1 #[] #[] 1537 3 #[] #[])
  fields := #[]
  methods := #[]
  instanceTypes := #[]
  staticTypes := #[]
  resolved := Array.replicate 12 none
  statics := none }

def pool4 : Array CpInfo := pool [(2, .class_ 4), (1, u "java/lang/CharSequence"), (42, .class_ 48), (0, u "java/lang/CharSequence$1CodePointIterator"), (10, .class_ 60), (0, u "java/lang/CharSequence$1CharIterator"), (5, .class_ 67), (0, u "java/lang/Object")] 63

/-- java/lang/CharSequence -/
def k4 : Class := { plain "java/lang/CharSequence" (some 0) with
  accessFlags := 1537
  interfaces := #[]
  cf := some (fileOf pool4 2 #[.nestMembers #[47, 59]] #[] 1537 66 #[] #[])
  fields := #[]
  methods := #[]
  instanceTypes := #[]
  staticTypes := #[]
  resolved := Array.replicate 131 none
  statics := none }

def pool5 : Array CpInfo := pool [(1, .class_ 2), (0, u "java/lang/constant/Constable"), (0, .class_ 4), (0, u "java/lang/Object")] 6

/-- java/lang/constant/Constable -/
def k5 : Class := { plain "java/lang/constant/Constable" (some 0) with
  accessFlags := 1537
  interfaces := #[]
  cf := some (fileOf pool5 1 #[] #[] 1537 3 #[] #[])
  fields := #[]
  methods := #[]
  instanceTypes := #[]
  staticTypes := #[]
  resolved := Array.replicate 11 none
  statics := none }

def pool6 : Array CpInfo := pool [(1, .class_ 2), (0, u "java/lang/constant/ConstantDesc"), (0, .class_ 4), (0, u "java/lang/Object")] 32

/-- java/lang/constant/ConstantDesc -/
def k6 : Class := { plain "java/lang/constant/ConstantDesc" (some 0) with
  accessFlags := 1537
  interfaces := #[]
  cf := some (fileOf pool6 1 #[] #[] 1537 3 #[] #[])
  fields := #[]
  methods := #[]
  instanceTypes := #[]
  staticTypes := #[]
  resolved := Array.replicate 37 none
  statics := none }

def pool7 : Array CpInfo := pool [(1, .methodref 2 3), (0, .class_ 4), (0, .nameAndType 5 6), (0, u "java/lang/Object"), (0, u "<init>"), (0, u "()V"), (2, .fieldref 10 11), (0, .class_ 12), (0, .nameAndType 13 14), (0, u "java/lang/String"), (0, u "value"), (0, u "[B"), (0, .fieldref 10 16), (0, .nameAndType 17 18), (0, u "coder"), (0, u "B"), (2, u "hash"), (0, u "I"), (2, u "hashIsZero"), (0, u "Z"), (0, .methodref 10 28), (0, .nameAndType 5 29), (0, u "([CIILjava/lang/Void;)V"), (8, .fieldref 10 39), (0, .nameAndType 40 26), (0, u "COMPACT_STRINGS"), (1, .class_ 44), (1, u "java/lang/StringUTF16"), (0, u "compress"), (1, .methodref 42 48), (0, .nameAndType 49 50), (0, u "coderFromArrayLen"), (0, u "([BI)B"), (3, .methodref 55 56), (0, .class_ 57), (0, .nameAndType 58 59), (0, u "java/util/Arrays"), (0, u "copyOfRange"), (0, u "([BII)[B"), (47, .class_ 109), (1, u "java/lang/StringLatin1"), (32, u "()Z"), (34, .methodref 42 178), (0, .nameAndType 45 179), (0, u "([CII)[B"), (13, .class_ 195), (1, u "java/lang/System"), (16, .methodref 193 213), (0, .nameAndType 214 215), (0, u "arraycopy"), (0, u "(Ljava/lang/Object;ILjava/lang/Object;II)V"), (118, u "()I"), (0, .methodref 10 336), (0, .nameAndType 17 337), (0, u "()B"), (2, u "()[B"), (22, u "([BI)C"), (27, u "(II)V"), (35, u "(I)C"), (61, .methodref 10 490), (0, .nameAndType 5 491), (0, u "(Ljava/lang/AbstractStringBuilder;Ljava/lang/Void;)V"), (0, .methodref 10 493), (0, .nameAndType 494 142), (0, u "isLatin1"), (0, .methodref 107 496), (0, .nameAndType 497 363), (0, u "charAt"), (3, u "checkIndex"), (4, .nameAndType 507 334), (0, u "length"), (24, u "getBytes"), (16, .methodref 550 506), (0, .class_ 551), (0, u "java/lang/AbstractStringBuilder"), (0, .methodref 550 553), (0, .nameAndType 554 340), (0, u "getValue"), (20, .class_ 576), (0, u "java/lang/CharSequence"), (22, u "CASE_INSENSITIVE_ORDER"), (0, u "Ljava/util/Comparator;"), (220, u "([BIB)V"), (188, u "([C)V"), (36, .methodref 550 493), (5, .fieldref 1054 1055), (0, .class_ 1056), (0, .nameAndType 1057 1058), (0, u "jdk/internal/util/Preconditions"), (0, u "SIOOBE_FORMATTER"), (0, u "Ljava/util/function/BiFunction;"), (0, .methodref 1054 1060), (0, .nameAndType 501 1061), (0, u "(IILjava/util/function/BiFunction;)I"), (39, u "serialPersistentFields"), (0, u "[Ljava/io/ObjectStreamField;"), (0, .class_ 1104), (0, u "java/lang/String$CaseInsensitiveComparator"), (1, .class_ 1107), (0, u "java/io/Serializable"), (0, .class_ 1109), (0, u "java/lang/Comparable"), (0, .class_ 1111), (0, u "java/lang/constant/Constable"), (0, .class_ 1113), (0, u "java/lang/constant/ConstantDesc"), (2, u "serialVersionUID"), (0, u "J"), (3, u "REPL"), (0, u "C"), (2, u "LATIN1"), (1, u "UTF16"), (105, u "(Ljava/lang/StringBuilder;)V")] 217

def k7m0 : Method := { name := "<init>", desc := "()V", sig := { parameters := [], returnType := none }, accessFlags := 1, code := none }
def k7c1 : Code := { maxStack := 5, maxLocals := 2, code := jdk_42_method_3_code, exceptionTable := #[], attributes := #[] }
def k7m1 : Method := { name := "<init>", desc := "([C)V", sig := { parameters := [(.array .char)], returnType := none }, accessFlags := 1, code := some k7c1 }
def k7c2 : Code := { maxStack := 3, maxLocals := 2, code := jdk_42_method_53_code, exceptionTable := #[], attributes := #[] }
def k7m2 : Method := { name := "<init>", desc := "(Ljava/lang/StringBuilder;)V", sig := { parameters := [(.object "java/lang/StringBuilder")], returnType := none }, accessFlags := 1, code := some k7c2 }
def k7c3 : Code := { maxStack := 2, maxLocals := 1, code := jdk_42_method_54_code, exceptionTable := #[], attributes := #[] }
def k7m3 : Method := { name := "length", desc := "()I", sig := { parameters := [], returnType := some .int }, accessFlags := 1, code := some k7c3 }
def k7c4 : Code := { maxStack := 2, maxLocals := 2, code := jdk_42_method_56_code, exceptionTable := #[], attributes := #[] }
def k7m4 : Method := { name := "charAt", desc := "(I)C", sig := { parameters := [.int], returnType := some .char }, accessFlags := 1, code := some k7c4 }
def k7c5 : Code := { maxStack := 5, maxLocals := 4, code := jdk_42_method_147_code, exceptionTable := #[], attributes := #[] }
def k7m5 : Method := { name := "getBytes", desc := "([BIB)V", sig := { parameters := [(.array .byte), .int, .byte], returnType := none }, accessFlags := 0, code := some k7c5 }
def k7c6 : Code := { maxStack := 4, maxLocals := 6, code := jdk_42_method_149_code, exceptionTable := #[], attributes := #[] }
def k7m6 : Method := { name := "<init>", desc := "([CIILjava/lang/Void;)V", sig := { parameters := [(.array .char), .int, .int, (.object "java/lang/Void")], returnType := none }, accessFlags := 2, code := some k7c6 }
def k7c7 : Code := { maxStack := 5, maxLocals := 5, code := jdk_42_method_150_code, exceptionTable := #[], attributes := #[] }
def k7m7 : Method := { name := "<init>", desc := "(Ljava/lang/AbstractStringBuilder;Ljava/lang/Void;)V", sig := { parameters := [(.object "java/lang/AbstractStringBuilder"), (.object "java/lang/Void")], returnType := none }, accessFlags := 0, code := some k7c7 }
def k7c8 : Code := { maxStack := 1, maxLocals := 1, code := jdk_42_method_152_code, exceptionTable := #[], attributes := #[] }
def k7m8 : Method := { name := "coder", desc := "()B", sig := { parameters := [], returnType := some .byte }, accessFlags := 0, code := some k7c8 }
def k7c9 : Code := { maxStack := 1, maxLocals := 1, code := jdk_42_method_154_code, exceptionTable := #[], attributes := #[] }
def k7m9 : Method := { name := "isLatin1", desc := "()Z", sig := { parameters := [], returnType := some .boolean }, accessFlags := 0, code := some k7c9 }
def k7c10 : Code := { maxStack := 3, maxLocals := 2, code := jdk_42_method_155_code, exceptionTable := #[], attributes := #[] }
def k7m10 : Method := { name := "checkIndex", desc := "(II)V", sig := { parameters := [.int, .int], returnType := none }, accessFlags := 8, code := some k7c10 }
/-- java/lang/String -/
def k7 : Class := { plain "java/lang/String" (some 0) with
  accessFlags := 49
  interfaces := #[2, 3, 4, 5, 6]
  cf := some (fileOf pool7 10 #[.nestMembers #[1103]] #[{ accessFlags := 1, nameIndex := 5, descriptorIndex := 6, attributes := #[] }, { accessFlags := 1, nameIndex := 5, descriptorIndex := 1010, attributes := #[] }, { accessFlags := 1, nameIndex := 5, descriptorIndex := 1233, attributes := #[] }, { accessFlags := 1, nameIndex := 507, descriptorIndex := 334, attributes := #[] }, { accessFlags := 1, nameIndex := 497, descriptorIndex := 427, attributes := #[] }, { accessFlags := 0, nameIndex := 532, descriptorIndex := 821, attributes := #[] }, { accessFlags := 2, nameIndex := 5, descriptorIndex := 29, attributes := #[] }, { accessFlags := 0, nameIndex := 5, descriptorIndex := 491, attributes := #[] }, { accessFlags := 0, nameIndex := 17, descriptorIndex := 337, attributes := #[] }, { accessFlags := 0, nameIndex := 494, descriptorIndex := 142, attributes := #[] }, { accessFlags := 8, nameIndex := 501, descriptorIndex := 391, attributes := #[] }] 49 2 #[1106, 1108, 575, 1110, 1112] #[{ accessFlags := 18, nameIndex := 13, descriptorIndex := 14, attributes := #[] }, { accessFlags := 18, nameIndex := 17, descriptorIndex := 18, attributes := #[] }, { accessFlags := 2, nameIndex := 21, descriptorIndex := 22, attributes := #[] }, { accessFlags := 2, nameIndex := 25, descriptorIndex := 26, attributes := #[] }, { accessFlags := 26, nameIndex := 1116, descriptorIndex := 1117, attributes := #[] }, { accessFlags := 24, nameIndex := 40, descriptorIndex := 26, attributes := #[] }, { accessFlags := 26, nameIndex := 1101, descriptorIndex := 1102, attributes := #[] }, { accessFlags := 26, nameIndex := 1121, descriptorIndex := 1122, attributes := #[] }, { accessFlags := 25, nameIndex := 599, descriptorIndex := 600, attributes := #[] }, { accessFlags := 24, nameIndex := 1125, descriptorIndex := 18, attributes := #[] }, { accessFlags := 24, nameIndex := 1127, descriptorIndex := 18, attributes := #[] }])
  fields := #[{ name := "value", type := (.array .byte), accessFlags := 18, slot := 0, constantValue := 0 }, { name := "coder", type := .byte, accessFlags := 18, slot := 1, constantValue := 0 }, { name := "hash", type := .int, accessFlags := 2, slot := 2, constantValue := 0 }, { name := "hashIsZero", type := .boolean, accessFlags := 2, slot := 3, constantValue := 0 }, { name := "serialVersionUID", type := .long, accessFlags := 26, slot := 0, constantValue := 0 }, { name := "COMPACT_STRINGS", type := .boolean, accessFlags := 24, slot := 1, constantValue := 0 }, { name := "serialPersistentFields", type := (.array (.object "java/io/ObjectStreamField")), accessFlags := 26, slot := 2, constantValue := 0 }, { name := "REPL", type := .char, accessFlags := 26, slot := 3, constantValue := 0 }, { name := "CASE_INSENSITIVE_ORDER", type := (.object "java/util/Comparator"), accessFlags := 25, slot := 4, constantValue := 0 }, { name := "LATIN1", type := .byte, accessFlags := 24, slot := 5, constantValue := 0 }, { name := "UTF16", type := .byte, accessFlags := 24, slot := 6, constantValue := 0 }]
  methods := #[k7m0, k7m1, k7m2, k7m3, k7m4, k7m5, k7m6, k7m7, k7m8, k7m9, k7m10]
  instanceTypes := #[(.array .byte), .byte, .int, .boolean]
  staticTypes := #[.long, .boolean, (.array (.object "java/io/ObjectStreamField")), .char, (.object "java/util/Comparator"), .byte, .byte]
  resolved := Array.replicate 1451 none
  statics := some 0 }

def pool8 : Array CpInfo := pool [(6, .class_ 8), (1, u "java/lang/Object"), (0, u "<init>"), (0, u "()V"), (1, .class_ 14), (1, u "java/lang/StringUTF16"), (31, u "$assertionsDisabled"), (0, u "Z"), (13, u "HI_BYTE_SHIFT"), (0, u "I"), (2, u "LO_BYTE_SHIFT"), (49, .methodref 12 116), (0, .nameAndType 117 118), (0, u "compress"), (0, u "([CI[BII)I"), (3, u "([CII)[B"), (138, u "coderFromArrayLen"), (0, u "([BI)B"), (106, .class_ 371), (1, u "java/lang/StringUTF16$LinesSpliterator"), (58, u "MAX_LENGTH"), (196, .class_ 628), (0, u "java/lang/StringUTF16$CodePointsSpliterator"), (0, .class_ 630), (0, u "java/lang/StringUTF16$CharsSpliterator")] 4

def k8m0 : Method := { name := "<init>", desc := "()V", sig := { parameters := [], returnType := none }, accessFlags := 0, code := none }
def k8c1 : Code := { maxStack := 2, maxLocals := 2, code := jdk_52_method_15_code, exceptionTable := #[], attributes := #[] }
def k8m1 : Method := { name := "coderFromArrayLen", desc := "([BI)B", sig := { parameters := [(.array .byte), .int], returnType := some .byte }, accessFlags := 8, code := some k8c1 }
def k8c2 : Code := { maxStack := 5, maxLocals := 6, code := jdk_52_method_16_code, exceptionTable := #[], attributes := #[] }
def k8m2 : Method := { name := "compress", desc := "([CII)[B", sig := { parameters := [(.array .char), .int, .int], returnType := some (.array .byte) }, accessFlags := 9, code := some k8c2 }
def k8c3 : Code := { maxStack := 3, maxLocals := 7, code := jdk_52_method_21_code, exceptionTable := #[], attributes := #[] }
def k8m3 : Method := { name := "compress", desc := "([CI[BII)I", sig := { parameters := [(.array .char), .int, (.array .byte), .int, .int], returnType := some .int }, accessFlags := 9, code := some k8c3 }
/-- java/lang/StringUTF16 -/
def k8 : Class := { plain "java/lang/StringUTF16" (some 0) with
  accessFlags := 48
  interfaces := #[]
  cf := some (fileOf pool8 12 #[.nestMembers #[627, 629, 369]] #[{ accessFlags := 0, nameIndex := 9, descriptorIndex := 10, attributes := #[] }, { accessFlags := 8, nameIndex := 261, descriptorIndex := 262, attributes := #[] }, { accessFlags := 9, nameIndex := 117, descriptorIndex := 122, attributes := #[] }, { accessFlags := 9, nameIndex := 117, descriptorIndex := 118, attributes := #[] }] 48 6 #[] #[{ accessFlags := 26, nameIndex := 61, descriptorIndex := 62, attributes := #[] }, { accessFlags := 26, nameIndex := 65, descriptorIndex := 62, attributes := #[] }, { accessFlags := 24, nameIndex := 430, descriptorIndex := 62, attributes := #[] }, { accessFlags := 4120, nameIndex := 46, descriptorIndex := 47, attributes := #[] }])
  fields := #[{ name := "HI_BYTE_SHIFT", type := .int, accessFlags := 26, slot := 0, constantValue := 0 }, { name := "LO_BYTE_SHIFT", type := .int, accessFlags := 26, slot := 1, constantValue := 0 }, { name := "MAX_LENGTH", type := .int, accessFlags := 24, slot := 2, constantValue := 0 }, { name := "$assertionsDisabled", type := .boolean, accessFlags := 4120, slot := 3, constantValue := 0 }]
  methods := #[k8m0, k8m1, k8m2, k8m3]
  instanceTypes := #[]
  staticTypes := #[.int, .int, .int, .boolean]
  resolved := Array.replicate 635 none
  statics := none }

def pool9 : Array CpInfo := pool [(1, .methodref 2 3), (0, .class_ 4), (0, .nameAndType 5 6), (0, u "java/lang/Object"), (0, u "<init>"), (0, u "()V"), (0, .fieldref 8 9), (0, .class_ 10), (0, .nameAndType 11 12), (0, u "java/lang/Throwable"), (0, u "cause"), (0, u "Ljava/lang/Throwable;"), (0, .fieldref 8 14), (0, .nameAndType 15 16), (0, u "UNASSIGNED_STACK"), (0, u "[Ljava/lang/StackTraceElement;"), (0, .fieldref 8 18), (0, .nameAndType 19 16), (0, u "stackTrace"), (0, .fieldref 8 21), (0, .nameAndType 22 23), (0, u "SUPPRESSED_SENTINEL"), (0, u "Ljava/util/List;"), (0, .fieldref 8 25), (0, .nameAndType 26 23), (0, u "suppressedExceptions"), (0, .methodref 8 28), (0, .nameAndType 29 30), (0, u "fillInStackTrace"), (0, u "()Ljava/lang/Throwable;"), (0, .fieldref 8 32), (0, .nameAndType 33 34), (0, u "detailMessage"), (0, u "Ljava/lang/String;"), (58, .class_ 94), (0, u "java/lang/Throwable$WrappedPrintStream"), (6, .class_ 103), (1, u "java/lang/Throwable$PrintStreamOrWriter"), (61, u "$assertionsDisabled"), (0, u "Z"), (26, .class_ 194), (0, u "java/lang/Throwable$WrappedPrintWriter"), (3, .fieldref 8 199), (0, .nameAndType 200 201), (0, u "backtrace"), (0, u "Ljava/lang/Object;"), (0, .methodref 8 203), (0, .nameAndType 29 204), (0, u "(I)Ljava/lang/Throwable;"), (6, u "depth"), (0, u "I"), (10, u "(Ljava/lang/String;)V"), (45, .class_ 271), (1, u "java/lang/Throwable$SentinelHolder"), (32, u "EMPTY_THROWABLE_ARRAY"), (0, u "[Ljava/lang/Throwable;"), (12, .class_ 319), (0, u "java/io/Serializable"), (0, u "serialVersionUID"), (0, u "J"), (5, u "NULL_CAUSE_MESSAGE"), (0, u "SELF_SUPPRESSION_MESSAGE"), (0, u "CAUSE_CAPTION"), (0, u "SUPPRESSED_CAPTION")] 73

def k9c0 : Code := { maxStack := 2, maxLocals := 1, code := jdk_78_method_1_code, exceptionTable := #[], attributes := #[] }
def k9m0 : Method := { name := "<init>", desc := "()V", sig := { parameters := [], returnType := none }, accessFlags := 1, code := some k9c0 }
def k9c1 : Code := { maxStack := 2, maxLocals := 2, code := jdk_78_method_2_code, exceptionTable := #[], attributes := #[] }
def k9m1 : Method := { name := "<init>", desc := "(Ljava/lang/String;)V", sig := { parameters := [(.object "java/lang/String")], returnType := none }, accessFlags := 1, code := some k9c1 }
def k9c2 : Code := { maxStack := 2, maxLocals := 1, code := ⟨#[0x2a, 0xb4, 0x00, 0x11, 0xc7, 0x00, 0x0a, 0x2a, 0xb4, 0x00, 0xc6, 0xc6, 0x00, 0x10, 0x2a, 0x03, 0xb6, 0x00, 0xca, 0x57, 0x2a, 0xb2, 0x00, 0x0d, 0xb5, 0x00, 0x11, 0x2a, 0xb0]⟩, exceptionTable := #[], attributes := #[] }
def k9m2 : Method := { name := "fillInStackTrace", desc := "()Ljava/lang/Throwable;", sig := { parameters := [], returnType := some (.object "java/lang/Throwable") }, accessFlags := 33, code := some k9c2 }
def k9m3 : Method := { name := "fillInStackTrace", desc := "(I)Ljava/lang/Throwable;", sig := { parameters := [.int], returnType := some (.object "java/lang/Throwable") }, accessFlags := 258, code := none }
/-- java/lang/Throwable -/
def k9 : Class := { plain "java/lang/Throwable" (some 0) with
  accessFlags := 33
  interfaces := #[2]
  cf := some (fileOf pool9 8 #[.nestMembers #[193, 93, 101, 269]] #[{ accessFlags := 1, nameIndex := 5, descriptorIndex := 6, attributes := #[] }, { accessFlags := 1, nameIndex := 5, descriptorIndex := 223, attributes := #[] }, { accessFlags := 33, nameIndex := 29, descriptorIndex := 30, attributes := #[] }, { accessFlags := 258, nameIndex := 29, descriptorIndex := 204, attributes := #[] }] 33 2 #[318] #[{ accessFlags := 26, nameIndex := 320, descriptorIndex := 321, attributes := #[] }, { accessFlags := 130, nameIndex := 200, descriptorIndex := 201, attributes := #[] }, { accessFlags := 2, nameIndex := 33, descriptorIndex := 34, attributes := #[] }, { accessFlags := 26, nameIndex := 15, descriptorIndex := 16, attributes := #[] }, { accessFlags := 2, nameIndex := 11, descriptorIndex := 12, attributes := #[] }, { accessFlags := 2, nameIndex := 19, descriptorIndex := 16, attributes := #[] }, { accessFlags := 130, nameIndex := 211, descriptorIndex := 212, attributes := #[] }, { accessFlags := 26, nameIndex := 22, descriptorIndex := 23, attributes := #[] }, { accessFlags := 2, nameIndex := 26, descriptorIndex := 23, attributes := #[] }, { accessFlags := 26, nameIndex := 327, descriptorIndex := 34, attributes := #[] }, { accessFlags := 26, nameIndex := 328, descriptorIndex := 34, attributes := #[] }, { accessFlags := 26, nameIndex := 329, descriptorIndex := 34, attributes := #[] }, { accessFlags := 26, nameIndex := 330, descriptorIndex := 34, attributes := #[] }, { accessFlags := 26, nameIndex := 304, descriptorIndex := 305, attributes := #[] }, { accessFlags := 4120, nameIndex := 165, descriptorIndex := 166, attributes := #[] }])
  fields := #[{ name := "serialVersionUID", type := .long, accessFlags := 26, slot := 0, constantValue := 0 }, { name := "backtrace", type := (.object "java/lang/Object"), accessFlags := 130, slot := 0, constantValue := 0 }, { name := "detailMessage", type := (.object "java/lang/String"), accessFlags := 2, slot := 1, constantValue := 0 }, { name := "UNASSIGNED_STACK", type := (.array (.object "java/lang/StackTraceElement")), accessFlags := 26, slot := 1, constantValue := 0 }, { name := "cause", type := (.object "java/lang/Throwable"), accessFlags := 2, slot := 2, constantValue := 0 }, { name := "stackTrace", type := (.array (.object "java/lang/StackTraceElement")), accessFlags := 2, slot := 3, constantValue := 0 }, { name := "depth", type := .int, accessFlags := 130, slot := 4, constantValue := 0 }, { name := "SUPPRESSED_SENTINEL", type := (.object "java/util/List"), accessFlags := 26, slot := 2, constantValue := 0 }, { name := "suppressedExceptions", type := (.object "java/util/List"), accessFlags := 2, slot := 5, constantValue := 0 }, { name := "NULL_CAUSE_MESSAGE", type := (.object "java/lang/String"), accessFlags := 26, slot := 3, constantValue := 0 }, { name := "SELF_SUPPRESSION_MESSAGE", type := (.object "java/lang/String"), accessFlags := 26, slot := 4, constantValue := 0 }, { name := "CAUSE_CAPTION", type := (.object "java/lang/String"), accessFlags := 26, slot := 5, constantValue := 0 }, { name := "SUPPRESSED_CAPTION", type := (.object "java/lang/String"), accessFlags := 26, slot := 6, constantValue := 0 }, { name := "EMPTY_THROWABLE_ARRAY", type := (.array (.object "java/lang/Throwable")), accessFlags := 26, slot := 7, constantValue := 0 }, { name := "$assertionsDisabled", type := .boolean, accessFlags := 4120, slot := 8, constantValue := 0 }]
  methods := #[k9m0, k9m1, k9m2, k9m3]
  instanceTypes := #[(.object "java/lang/Object"), (.object "java/lang/String"), (.object "java/lang/Throwable"), (.array (.object "java/lang/StackTraceElement")), .int, (.object "java/util/List")]
  staticTypes := #[.long, (.array (.object "java/lang/StackTraceElement")), (.object "java/util/List"), (.object "java/lang/String"), (.object "java/lang/String"), (.object "java/lang/String"), (.object "java/lang/String"), (.array (.object "java/lang/Throwable")), .boolean]
  resolved := Array.replicate 404 none
  statics := some 1 }

def pool10 : Array CpInfo := pool [(2, .class_ 4), (1, u "java/lang/Throwable"), (0, u "<init>"), (0, u "()V"), (0, .methodref 2 8), (0, .nameAndType 5 9), (0, u "(Ljava/lang/String;)V"), (9, .class_ 20), (0, u "java/lang/Exception"), (0, u "serialVersionUID"), (0, u "J")] 17

def k10m0 : Method := { name := "<init>", desc := "()V", sig := { parameters := [], returnType := none }, accessFlags := 1, code := none }
def k10c1 : Code := { maxStack := 2, maxLocals := 2, code := jdk_59_method_2_code, exceptionTable := #[], attributes := #[] }
def k10m1 : Method := { name := "<init>", desc := "(Ljava/lang/String;)V", sig := { parameters := [(.object "java/lang/String")], returnType := none }, accessFlags := 1, code := some k10c1 }
/-- java/lang/Exception -/
def k10 : Class := { plain "java/lang/Exception" (some 9) with
  accessFlags := 33
  interfaces := #[]
  cf := some (fileOf pool10 19 #[] #[{ accessFlags := 1, nameIndex := 5, descriptorIndex := 6, attributes := #[] }, { accessFlags := 1, nameIndex := 5, descriptorIndex := 9, attributes := #[] }] 33 2 #[] #[{ accessFlags := 24, nameIndex := 21, descriptorIndex := 22, attributes := #[] }])
  fields := #[{ name := "serialVersionUID", type := .long, accessFlags := 24, slot := 0, constantValue := 0 }]
  methods := #[k10m0, k10m1]
  instanceTypes := #[(.object "java/lang/Object"), (.object "java/lang/String"), (.object "java/lang/Throwable"), (.array (.object "java/lang/StackTraceElement")), .int, (.object "java/util/List")]
  staticTypes := #[.long]
  resolved := Array.replicate 40 none
  statics := none }

def pool11 : Array CpInfo := pool [(1, .class_ 2), (0, u "java/lang/StringBuilder"), (0, .methodref 1 4), (0, .nameAndType 5 6), (0, u "<init>"), (0, u "()V"), (0, .string 8), (0, u "line "), (0, .methodref 1 10), (0, .nameAndType 11 12), (0, u "append"), (0, u "(Ljava/lang/String;)Ljava/lang/StringBuilder;"), (0, .methodref 1 14), (0, .nameAndType 11 15), (0, u "(I)Ljava/lang/StringBuilder;"), (0, .string 17), (0, u ": "), (0, .methodref 1 19), (0, .nameAndType 20 21), (0, u "toString"), (0, u "()Ljava/lang/String;"), (0, .methodref 23 24), (0, .class_ 25), (0, .nameAndType 5 26), (0, u "java/lang/Exception"), (0, u "(Ljava/lang/String;)V"), (0, .fieldref 28 29), (0, .class_ 30), (0, .nameAndType 31 32), (0, u "com/example/slackline/slackline/instance/InputException"), (0, u "line"), (0, u "I"), (0, .fieldref 28 34), (0, .nameAndType 35 36), (0, u "reason"), (0, u "Ljava/lang/String;"), (0, .string 38), (0, u ":"), (0, u "serialVersionUID"), (0, u "J"), (3, u "NO_LINE"), (1, u "(ILjava/lang/String;)V"), (5, u "describe"), (0, u "(Ljava/lang/String;)Ljava/lang/String;")] 2

def k11c0 : Code := { maxStack := 3, maxLocals := 3, code := prog_19_method_1_code, exceptionTable := #[], attributes := #[] }
def k11m0 : Method := { name := "<init>", desc := "(ILjava/lang/String;)V", sig := { parameters := [.int, (.object "java/lang/String")], returnType := none }, accessFlags := 1, code := some k11c0 }
def k11c1 : Code := { maxStack := 2, maxLocals := 2, code := prog_19_method_2_code, exceptionTable := #[], attributes := #[] }
def k11m1 : Method := { name := "describe", desc := "(Ljava/lang/String;)Ljava/lang/String;", sig := { parameters := [(.object "java/lang/String")], returnType := some (.object "java/lang/String") }, accessFlags := 1, code := some k11c1 }
/-- com/example/slackline/slackline/instance/InputException -/
def k11 : Class := { plain "com/example/slackline/slackline/instance/InputException" (some 10) with
  accessFlags := 49
  interfaces := #[]
  cf := some (fileOf pool11 28 #[] #[{ accessFlags := 1, nameIndex := 5, descriptorIndex := 46, attributes := #[] }, { accessFlags := 1, nameIndex := 52, descriptorIndex := 53, attributes := #[] }] 49 23 #[] #[{ accessFlags := 26, nameIndex := 39, descriptorIndex := 40, attributes := #[] }, { accessFlags := 25, nameIndex := 44, descriptorIndex := 32, attributes := #[] }, { accessFlags := 18, nameIndex := 31, descriptorIndex := 32, attributes := #[] }, { accessFlags := 18, nameIndex := 35, descriptorIndex := 36, attributes := #[] }])
  fields := #[{ name := "serialVersionUID", type := .long, accessFlags := 26, slot := 0, constantValue := 0 }, { name := "NO_LINE", type := .int, accessFlags := 25, slot := 1, constantValue := 0 }, { name := "line", type := .int, accessFlags := 18, slot := 6, constantValue := 0 }, { name := "reason", type := (.object "java/lang/String"), accessFlags := 18, slot := 7, constantValue := 0 }]
  methods := #[k11m0, k11m1]
  instanceTypes := #[(.object "java/lang/Object"), (.object "java/lang/String"), (.object "java/lang/Throwable"), (.array (.object "java/lang/StackTraceElement")), .int, (.object "java/util/List"), .int, (.object "java/lang/String")]
  staticTypes := #[.long, .int]
  resolved := Array.replicate 56 none
  statics := none }

def pool12 : Array CpInfo := pool [(1, .class_ 2), (0, u "java/lang/Appendable"), (0, .class_ 4), (0, u "java/lang/Object")] 9

/-- java/lang/Appendable -/
def k12 : Class := { plain "java/lang/Appendable" (some 0) with
  accessFlags := 1537
  interfaces := #[]
  cf := some (fileOf pool12 1 #[] #[] 1537 3 #[] #[])
  fields := #[]
  methods := #[]
  instanceTypes := #[]
  staticTypes := #[]
  resolved := Array.replicate 14 none
  statics := none }

def pool13 : Array CpInfo := pool [(1, .class_ 2), (0, u "java/lang/String"), (0, .methodref 4 5), (0, .class_ 6), (0, .nameAndType 7 8), (0, u "java/lang/Object"), (0, u "<init>"), (0, u "()V"), (1, .class_ 12), (1, u "java/lang/AbstractStringBuilder"), (0, u "EMPTYVALUE"), (0, u "[B"), (0, .fieldref 10 16), (0, .nameAndType 17 14), (0, u "value"), (0, .fieldref 1 19), (0, .nameAndType 20 21), (0, u "COMPACT_STRINGS"), (0, u "Z"), (0, .fieldref 10 23), (0, .nameAndType 24 25), (0, u "coder"), (0, u "B"), (6, .methodref 1 33), (0, .nameAndType 34 35), (0, u "length"), (0, u "()I"), (0, .class_ 37), (0, u "java/lang/Integer"), (1, .integer 2147483647), (0, .methodref 1 41), (0, .nameAndType 24 42), (0, u "()B"), (2, u "append"), (0, u "(Ljava/lang/String;)Ljava/lang/AbstractStringBuilder;"), (1, .class_ 49), (0, u "java/lang/CharSequence"), (19, u "(Ljava/lang/String;)V"), (5, u "maybeLatin1"), (3, .fieldref 10 80), (0, .nameAndType 81 82), (0, u "count"), (0, u "I"), (0, .methodref 10 84), (0, .nameAndType 85 86), (0, u "isLatin1"), (0, u "()Z"), (13, .methodref 10 101), (0, .nameAndType 102 103), (0, u "ensureCapacityInternal"), (0, u "(I)V"), (0, .methodref 10 105), (0, .nameAndType 106 107), (0, u "newCapacity"), (0, u "(I)I"), (0, .methodref 109 110), (0, .class_ 111), (0, .nameAndType 112 113), (0, u "java/util/Arrays"), (0, u "copyOf"), (0, u "([BI)[B"), (0, .methodref 115 116), (0, .class_ 117), (0, .nameAndType 118 119), (0, u "jdk/internal/util/ArraysSupport"), (0, u "newLength"), (0, u "(III)I"), (68, u "getChars"), (19, .methodref 10 209), (0, .nameAndType 210 211), (0, u "putStringAt"), (0, u "(ILjava/lang/String;)V"), (5, u "inflateIfNeededFor"), (2, .nameAndType 221 222), (0, u "getBytes"), (0, u "([BIB)V"), (22, .methodref 36 246), (0, .nameAndType 247 107), (0, u "stringSize"), (0, .methodref 36 249), (0, .nameAndType 188 250), (0, u "(II[B)I"), (146, .methodref 10 398), (0, .nameAndType 217 69), (0, .methodref 1 220), (3, u "()[B"), (40, .class_ 445), (0, u "java/lang/Appendable"), (65, u "(I)Ljava/lang/AbstractStringBuilder;"), (40, u "getValue")] 56

def k13m0 : Method := { name := "<init>", desc := "()V", sig := { parameters := [], returnType := none }, accessFlags := 0, code := none }
def k13c1 : Code := { maxStack := 2, maxLocals := 2, code := jdk_68_method_2_code, exceptionTable := #[], attributes := #[] }
def k13m1 : Method := { name := "<init>", desc := "(I)V", sig := { parameters := [.int], returnType := none }, accessFlags := 0, code := some k13c1 }
def k13c2 : Code := { maxStack := 1, maxLocals := 1, code := jdk_68_method_6_code, exceptionTable := #[], attributes := #[] }
def k13m2 : Method := { name := "length", desc := "()I", sig := { parameters := [], returnType := some .int }, accessFlags := 1, code := some k13c2 }
def k13c3 : Code := { maxStack := 4, maxLocals := 3, code := jdk_68_method_9_code, exceptionTable := #[], attributes := #[] }
def k13m3 : Method := { name := "ensureCapacityInternal", desc := "(I)V", sig := { parameters := [.int], returnType := none }, accessFlags := 2, code := some k13c3 }
def k13c4 : Code := { maxStack := 5, maxLocals := 6, code := jdk_68_method_10_code, exceptionTable := #[], attributes := #[] }
def k13m4 : Method := { name := "newCapacity", desc := "(I)I", sig := { parameters := [.int], returnType := some .int }, accessFlags := 2, code := some k13c4 }
def k13c5 : Code := { maxStack := 3, maxLocals := 3, code := jdk_68_method_22_code, exceptionTable := #[], attributes := #[] }
def k13m5 : Method := { name := "append", desc := "(Ljava/lang/String;)Ljava/lang/AbstractStringBuilder;", sig := { parameters := [(.object "java/lang/String")], returnType := some (.object "java/lang/AbstractStringBuilder") }, accessFlags := 1, code := some k13c5 }
def k13c6 : Code := { maxStack := 4, maxLocals := 4, code := jdk_68_method_32_code, exceptionTable := #[], attributes := #[] }
def k13m6 : Method := { name := "append", desc := "(I)Ljava/lang/AbstractStringBuilder;", sig := { parameters := [.int], returnType := some (.object "java/lang/AbstractStringBuilder") }, accessFlags := 1, code := some k13c6 }
def k13c7 : Code := { maxStack := 1, maxLocals := 1, code := jdk_68_method_64_code, exceptionTable := #[], attributes := #[] }
def k13m7 : Method := { name := "getValue", desc := "()[B", sig := { parameters := [], returnType := some (.array .byte) }, accessFlags := 16, code := some k13c7 }
def k13c8 : Code := { maxStack := 1, maxLocals := 1, code := jdk_68_method_68_code, exceptionTable := #[], attributes := #[] }
def k13m8 : Method := { name := "isLatin1", desc := "()Z", sig := { parameters := [], returnType := some .boolean }, accessFlags := 16, code := some k13c8 }
def k13c9 : Code := { maxStack := 2, maxLocals := 2, code := jdk_68_method_71_code, exceptionTable := #[], attributes := #[] }
def k13m9 : Method := { name := "inflateIfNeededFor", desc := "(Ljava/lang/String;)V", sig := { parameters := [(.object "java/lang/String")], returnType := none }, accessFlags := 2, code := some k13c9 }
def k13c10 : Code := { maxStack := 4, maxLocals := 3, code := jdk_68_method_73_code, exceptionTable := #[], attributes := #[] }
def k13m10 : Method := { name := "putStringAt", desc := "(ILjava/lang/String;)V", sig := { parameters := [.int, (.object "java/lang/String")], returnType := none }, accessFlags := 2, code := some k13c10 }
/-- java/lang/AbstractStringBuilder -/
def k13 : Class := { plain "java/lang/AbstractStringBuilder" (some 0) with
  accessFlags := 1056
  interfaces := #[12, 4]
  cf := some (fileOf pool13 10 #[] #[{ accessFlags := 0, nameIndex := 7, descriptorIndex := 8, attributes := #[] }, { accessFlags := 0, nameIndex := 7, descriptorIndex := 103, attributes := #[] }, { accessFlags := 1, nameIndex := 34, descriptorIndex := 35, attributes := #[] }, { accessFlags := 2, nameIndex := 102, descriptorIndex := 103, attributes := #[] }, { accessFlags := 2, nameIndex := 106, descriptorIndex := 107, attributes := #[] }, { accessFlags := 1, nameIndex := 45, descriptorIndex := 46, attributes := #[] }, { accessFlags := 1, nameIndex := 45, descriptorIndex := 511, attributes := #[] }, { accessFlags := 16, nameIndex := 552, descriptorIndex := 403, attributes := #[] }, { accessFlags := 16, nameIndex := 85, descriptorIndex := 86, attributes := #[] }, { accessFlags := 2, nameIndex := 217, descriptorIndex := 69, attributes := #[] }, { accessFlags := 2, nameIndex := 210, descriptorIndex := 211, attributes := #[] }] 1056 4 #[444, 48] #[{ accessFlags := 0, nameIndex := 17, descriptorIndex := 14, attributes := #[] }, { accessFlags := 0, nameIndex := 24, descriptorIndex := 25, attributes := #[] }, { accessFlags := 0, nameIndex := 75, descriptorIndex := 21, attributes := #[] }, { accessFlags := 0, nameIndex := 81, descriptorIndex := 82, attributes := #[] }, { accessFlags := 26, nameIndex := 13, descriptorIndex := 14, attributes := #[] }])
  fields := #[{ name := "value", type := (.array .byte), accessFlags := 0, slot := 0, constantValue := 0 }, { name := "coder", type := .byte, accessFlags := 0, slot := 1, constantValue := 0 }, { name := "maybeLatin1", type := .boolean, accessFlags := 0, slot := 2, constantValue := 0 }, { name := "count", type := .int, accessFlags := 0, slot := 3, constantValue := 0 }, { name := "EMPTYVALUE", type := (.array .byte), accessFlags := 26, slot := 0, constantValue := 0 }]
  methods := #[k13m0, k13m1, k13m2, k13m3, k13m4, k13m5, k13m6, k13m7, k13m8, k13m9, k13m10]
  instanceTypes := #[(.array .byte), .byte, .boolean, .int]
  staticTypes := #[(.array .byte)]
  resolved := Array.replicate 609 none
  statics := none }

def pool14 : Array CpInfo := pool [(1, .methodref 2 3), (0, .class_ 4), (0, .nameAndType 5 6), (0, u "java/lang/AbstractStringBuilder"), (0, u "<init>"), (0, u "(I)V"), (11, .class_ 20), (1, u "java/lang/String"), (3, .class_ 26), (1, u "java/lang/StringBuilder"), (0, u "append"), (0, u "(Ljava/lang/String;)Ljava/lang/StringBuilder;"), (0, .methodref 2 30), (0, .nameAndType 27 31), (0, u "(Ljava/lang/String;)Ljava/lang/AbstractStringBuilder;"), (21, .methodref 2 54), (0, .nameAndType 27 55), (0, u "(I)Ljava/lang/AbstractStringBuilder;"), (81, .methodref 18 138), (0, .nameAndType 5 139), (0, u "(Ljava/lang/StringBuilder;)V"), (5, u "()V"), (10, u "()I"), (111, u "(I)Ljava/lang/StringBuilder;"), (74, .methodref 2 344), (0, .nameAndType 345 156), (0, u "length"), (3, .class_ 350), (0, u "java/lang/Appendable"), (0, .class_ 352), (0, u "java/io/Serializable"), (0, .class_ 354), (0, u "java/lang/Comparable"), (0, .class_ 356), (0, u "java/lang/CharSequence"), (0, u "serialVersionUID"), (0, u "J"), (40, u "toString"), (0, u "()Ljava/lang/String;")] 21

def k14c0 : Code := { maxStack := 2, maxLocals := 1, code := jdk_67_method_1_code, exceptionTable := #[], attributes := #[] }
def k14m0 : Method := { name := "<init>", desc := "()V", sig := { parameters := [], returnType := none }, accessFlags := 1, code := some k14c0 }
def k14c1 : Code := { maxStack := 2, maxLocals := 2, code := jdk_67_method_7_code, exceptionTable := #[], attributes := #[] }
def k14m1 : Method := { name := "append", desc := "(Ljava/lang/String;)Ljava/lang/StringBuilder;", sig := { parameters := [(.object "java/lang/String")], returnType := some (.object "java/lang/StringBuilder") }, accessFlags := 1, code := some k14c1 }
def k14c2 : Code := { maxStack := 2, maxLocals := 2, code := jdk_67_method_15_code, exceptionTable := #[], attributes := #[] }
def k14m2 : Method := { name := "append", desc := "(I)Ljava/lang/StringBuilder;", sig := { parameters := [.int], returnType := some (.object "java/lang/StringBuilder") }, accessFlags := 1, code := some k14c2 }
def k14c3 : Code := { maxStack := 3, maxLocals := 1, code := jdk_67_method_42_code, exceptionTable := #[], attributes := #[] }
def k14m3 : Method := { name := "toString", desc := "()Ljava/lang/String;", sig := { parameters := [], returnType := some (.object "java/lang/String") }, accessFlags := 1, code := some k14c3 }
def k14c4 : Code := { maxStack := 1, maxLocals := 1, code := jdk_67_method_93_code, exceptionTable := #[], attributes := #[] }
def k14m4 : Method := { name := "length", desc := "()I", sig := { parameters := [], returnType := some .int }, accessFlags := 4161, code := some k14c4 }
/-- java/lang/StringBuilder -/
def k14 : Class := { plain "java/lang/StringBuilder" (some 13) with
  accessFlags := 49
  interfaces := #[12, 2, 3, 4]
  cf := some (fileOf pool14 24 #[] #[{ accessFlags := 1, nameIndex := 5, descriptorIndex := 145, attributes := #[] }, { accessFlags := 1, nameIndex := 27, descriptorIndex := 28, attributes := #[] }, { accessFlags := 1, nameIndex := 27, descriptorIndex := 268, attributes := #[] }, { accessFlags := 1, nameIndex := 399, descriptorIndex := 400, attributes := #[] }, { accessFlags := 4161, nameIndex := 345, descriptorIndex := 156, attributes := #[] }] 49 2 #[349, 351, 353, 355] #[{ accessFlags := 24, nameIndex := 357, descriptorIndex := 358, attributes := #[] }])
  fields := #[{ name := "serialVersionUID", type := .long, accessFlags := 24, slot := 0, constantValue := 0 }]
  methods := #[k14m0, k14m1, k14m2, k14m3, k14m4]
  instanceTypes := #[(.array .byte), .byte, .boolean, .int]
  staticTypes := #[.long]
  resolved := Array.replicate 422 none
  statics := none }

def pool15 : Array CpInfo := pool [(2, .class_ 4), (1, u "java/lang/Object"), (0, u "<init>"), (0, u "()V"), (1, .class_ 10), (1, u "java/lang/System"), (0, u "allowSecurityManager"), (0, u "I"), (16, u "cons"), (0, u "Ljava/io/Console;"), (77, .class_ 110), (1, u "java/lang/System$CallersHolder"), (43, u "initialErrStream"), (0, u "Ljava/io/PrintStream;"), (19, u "security"), (0, u "Ljava/lang/SecurityManager;"), (31, .class_ 209), (0, u "java/lang/System$1"), (7, u "props"), (0, u "Ljava/util/Properties;"), (2, u "lineSeparator"), (0, u "Ljava/lang/String;"), (96, .class_ 321), (1, u "java/lang/System$LoggerFinder"), (5, .class_ 328), (0, u "java/lang/System$Logger"), (67, u "err"), (2, u "out"), (91, u "notSupportedJnuEncoding"), (15, u "in"), (17, u "initialIn"), (0, u "Ljava/io/InputStream;"), (35, u "bootLayer"), (0, u "Ljava/lang/ModuleLayer;"), (99, .class_ 664), (0, u "java/lang/System$2"), (9, u "NEVER"), (2, u "MAYBE"), (49, u "arraycopy"), (0, u "(Ljava/lang/Object;ILjava/lang/Object;II)V"), (72, .class_ 802), (0, u "java/lang/System$Logger$Level")] 31

def k15m0 : Method := { name := "<init>", desc := "()V", sig := { parameters := [], returnType := none }, accessFlags := 2, code := none }
def k15m1 : Method := { name := "arraycopy", desc := "(Ljava/lang/Object;ILjava/lang/Object;II)V", sig := { parameters := [(.object "java/lang/Object"), .int, (.object "java/lang/Object"), .int, .int], returnType := none }, accessFlags := 265, code := none }
/-- java/lang/System -/
def k15 : Class := { plain "java/lang/System" (some 0) with
  accessFlags := 49
  interfaces := #[]
  cf := some (fileOf pool15 8 #[.nestMembers #[319, 327, 801, 108, 663, 208]] #[{ accessFlags := 2, nameIndex := 5, descriptorIndex := 6, attributes := #[] }, { accessFlags := 265, nameIndex := 727, descriptorIndex := 728, attributes := #[] }] 49 2 #[] #[{ accessFlags := 25, nameIndex := 507, descriptorIndex := 526, attributes := #[] }, { accessFlags := 25, nameIndex := 399, descriptorIndex := 155, attributes := #[] }, { accessFlags := 25, nameIndex := 396, descriptorIndex := 155, attributes := #[] }, { accessFlags := 10, nameIndex := 525, descriptorIndex := 526, attributes := #[] }, { accessFlags := 26, nameIndex := 674, descriptorIndex := 12, attributes := #[] }, { accessFlags := 26, nameIndex := 677, descriptorIndex := 12, attributes := #[] }, { accessFlags := 10, nameIndex := 11, descriptorIndex := 12, attributes := #[] }, { accessFlags := 74, nameIndex := 175, descriptorIndex := 176, attributes := #[] }, { accessFlags := 10, nameIndex := 491, descriptorIndex := 222, attributes := #[] }, { accessFlags := 74, nameIndex := 29, descriptorIndex := 30, attributes := #[] }, { accessFlags := 74, nameIndex := 154, descriptorIndex := 155, attributes := #[] }, { accessFlags := 10, nameIndex := 217, descriptorIndex := 218, attributes := #[] }, { accessFlags := 10, nameIndex := 221, descriptorIndex := 222, attributes := #[] }, { accessFlags := 8, nameIndex := 562, descriptorIndex := 563, attributes := #[] }])
  fields := #[{ name := "in", type := (.object "java/io/InputStream"), accessFlags := 25, slot := 0, constantValue := 0 }, { name := "out", type := (.object "java/io/PrintStream"), accessFlags := 25, slot := 1, constantValue := 0 }, { name := "err", type := (.object "java/io/PrintStream"), accessFlags := 25, slot := 2, constantValue := 0 }, { name := "initialIn", type := (.object "java/io/InputStream"), accessFlags := 10, slot := 3, constantValue := 0 }, { name := "NEVER", type := .int, accessFlags := 26, slot := 4, constantValue := 0 }, { name := "MAYBE", type := .int, accessFlags := 26, slot := 5, constantValue := 0 }, { name := "allowSecurityManager", type := .int, accessFlags := 10, slot := 6, constantValue := 0 }, { name := "security", type := (.object "java/lang/SecurityManager"), accessFlags := 74, slot := 7, constantValue := 0 }, { name := "notSupportedJnuEncoding", type := (.object "java/lang/String"), accessFlags := 10, slot := 8, constantValue := 0 }, { name := "cons", type := (.object "java/io/Console"), accessFlags := 74, slot := 9, constantValue := 0 }, { name := "initialErrStream", type := (.object "java/io/PrintStream"), accessFlags := 74, slot := 10, constantValue := 0 }, { name := "props", type := (.object "java/util/Properties"), accessFlags := 10, slot := 11, constantValue := 0 }, { name := "lineSeparator", type := (.object "java/lang/String"), accessFlags := 10, slot := 12, constantValue := 0 }, { name := "bootLayer", type := (.object "java/lang/ModuleLayer"), accessFlags := 8, slot := 13, constantValue := 0 }]
  methods := #[k15m0, k15m1]
  instanceTypes := #[]
  staticTypes := #[(.object "java/io/InputStream"), (.object "java/io/PrintStream"), (.object "java/io/PrintStream"), (.object "java/io/InputStream"), .int, .int, .int, (.object "java/lang/SecurityManager"), (.object "java/lang/String"), (.object "java/io/Console"), (.object "java/io/PrintStream"), (.object "java/util/Properties"), (.object "java/lang/String"), (.object "java/lang/ModuleLayer")]
  resolved := Array.replicate 834 none
  statics := none }

def pool16 : Array CpInfo := pool [(2, .class_ 4), (1, u "java/lang/Object"), (0, u "<init>"), (0, u "()V"), (7, .class_ 16), (1, u "java/util/Arrays"), (57, .class_ 76), (1, u "java/util/Arrays$NaturalOrder"), (32, u "()Ljava/lang/Object;"), (3, .class_ 115), (1, u "java/util/Arrays$LegacyMergeSort"), (1, u "Z"), (10, .nameAndType 129 109), (0, u "clone"), (9, u "copyOfRange"), (10, .methodref 151 152), (0, .class_ 153), (0, .nameAndType 154 155), (0, u "java/lang/System"), (0, u "arraycopy"), (0, u "(Ljava/lang/Object;ILjava/lang/Object;II)V"), (146, u "copyOf"), (1, .methodref 305 306), (0, .class_ 307), (0, .nameAndType 308 309), (0, u "java/lang/Math"), (0, u "min"), (0, u "(II)I"), (0, .methodref 311 128), (0, .class_ 312), (0, u "[B"), (26, .methodref 14 340), (0, .nameAndType 341 342), (0, u "copyOfRangeByte"), (0, u "([BII)[B"), (0, .methodref 14 344), (0, .nameAndType 345 346), (0, u "checkLength"), (0, u "(II)V"), (28, .class_ 376), (0, u "java/util/Arrays$ArrayList"), (68, u "$assertionsDisabled"), (269, u "MIN_ARRAY_SORT_GRAN"), (0, u "I"), (2, u "INSERTIONSORT_THRESHOLD"), (149, u "([BI)[B"), (105, .class_ 976), (0, u "java/util/Arrays$ArrayItr")] 52

def k16m0 : Method := { name := "<init>", desc := "()V", sig := { parameters := [], returnType := none }, accessFlags := 2, code := none }
def k16c1 : Code := { maxStack := 6, maxLocals := 3, code := jdk_65_method_121_code, exceptionTable := #[], attributes := #[] }
def k16m1 : Method := { name := "copyOf", desc := "([BI)[B", sig := { parameters := [(.array .byte), .int], returnType := some (.array .byte) }, accessFlags := 9, code := some k16c1 }
def k16c2 : Code := { maxStack := 4, maxLocals := 2, code := jdk_65_method_131_code, exceptionTable := #[], attributes := #[] }
def k16m2 : Method := { name := "checkLength", desc := "(II)V", sig := { parameters := [.int, .int], returnType := none }, accessFlags := 10, code := some k16c2 }
def k16c3 : Code := { maxStack := 3, maxLocals := 3, code := jdk_65_method_132_code, exceptionTable := #[], attributes := #[] }
def k16m3 : Method := { name := "copyOfRange", desc := "([BII)[B", sig := { parameters := [(.array .byte), .int, .int], returnType := some (.array .byte) }, accessFlags := 9, code := some k16c3 }
def k16c4 : Code := { maxStack := 6, maxLocals := 5, code := jdk_65_method_133_code, exceptionTable := #[], attributes := #[] }
def k16m4 : Method := { name := "copyOfRangeByte", desc := "([BII)[B", sig := { parameters := [(.array .byte), .int, .int], returnType := some (.array .byte) }, accessFlags := 10, code := some k16c4 }
/-- java/util/Arrays -/
def k16 : Class := { plain "java/util/Arrays" (some 0) with
  accessFlags := 49
  interfaces := #[]
  cf := some (fileOf pool16 14 #[.nestMembers #[975, 375, 113, 74]] #[{ accessFlags := 2, nameIndex := 5, descriptorIndex := 6, attributes := #[] }, { accessFlags := 9, nameIndex := 302, descriptorIndex := 869, attributes := #[] }, { accessFlags := 10, nameIndex := 345, descriptorIndex := 346, attributes := #[] }, { accessFlags := 9, nameIndex := 139, descriptorIndex := 342, attributes := #[] }, { accessFlags := 10, nameIndex := 341, descriptorIndex := 342, attributes := #[] }] 49 2 #[] #[{ accessFlags := 26, nameIndex := 715, descriptorIndex := 716, attributes := #[] }, { accessFlags := 26, nameIndex := 719, descriptorIndex := 716, attributes := #[] }, { accessFlags := 4120, nameIndex := 445, descriptorIndex := 117, attributes := #[] }])
  fields := #[{ name := "MIN_ARRAY_SORT_GRAN", type := .int, accessFlags := 26, slot := 0, constantValue := 0 }, { name := "INSERTIONSORT_THRESHOLD", type := .int, accessFlags := 26, slot := 1, constantValue := 0 }, { name := "$assertionsDisabled", type := .boolean, accessFlags := 4120, slot := 2, constantValue := 0 }]
  methods := #[k16m0, k16m1, k16m2, k16m3, k16m4]
  instanceTypes := #[]
  staticTypes := #[.int, .int, .boolean]
  resolved := Array.replicate 1029 none
  statics := none }

def pool17 : Array CpInfo := pool [(1, .class_ 2), (0, u "java/lang/Math"), (1, .class_ 6), (1, u "java/lang/Object"), (0, u "<init>"), (0, u "()V"), (89, .class_ 100), (1, u "java/lang/Math$RandomNumberGeneratorHolder"), (71, u "negativeZeroFloatBits"), (0, u "J"), (2, u "negativeZeroDoubleBits"), (21, u "max"), (2, u "min"), (43, u "$assertionsDisabled"), (0, u "Z"), (88, u "(II)I"), (2, u "twoToTheDoubleScaleDown"), (0, u "D"), (4, u "twoToTheDoubleScaleUp"), (9, u "E"), (3, u "PI"), (2, u "TAU"), (2, u "DEGREES_TO_RADIANS"), (0, u "RADIANS_TO_DEGREES")] 94

def k17m0 : Method := { name := "<init>", desc := "()V", sig := { parameters := [], returnType := none }, accessFlags := 2, code := none }
def k17c1 : Code := { maxStack := 2, maxLocals := 2, code := jdk_29_method_65_code, exceptionTable := #[], attributes := #[] }
def k17m1 : Method := { name := "max", desc := "(II)I", sig := { parameters := [.int, .int], returnType := some .int }, accessFlags := 9, code := some k17c1 }
def k17c2 : Code := { maxStack := 2, maxLocals := 2, code := jdk_29_method_69_code, exceptionTable := #[], attributes := #[] }
def k17m2 : Method := { name := "min", desc := "(II)I", sig := { parameters := [.int, .int], returnType := some .int }, accessFlags := 9, code := some k17c2 }
/-- java/lang/Math -/
def k17 : Class := { plain "java/lang/Math" (some 0) with
  accessFlags := 49
  interfaces := #[]
  cf := some (fileOf pool17 1 #[.nestMembers #[98]] #[{ accessFlags := 2, nameIndex := 7, descriptorIndex := 8, attributes := #[] }, { accessFlags := 9, nameIndex := 198, descriptorIndex := 335, attributes := #[] }, { accessFlags := 9, nameIndex := 201, descriptorIndex := 335, attributes := #[] }] 49 4 #[] #[{ accessFlags := 25, nameIndex := 354, descriptorIndex := 339, attributes := #[] }, { accessFlags := 25, nameIndex := 358, descriptorIndex := 339, attributes := #[] }, { accessFlags := 25, nameIndex := 361, descriptorIndex := 339, attributes := #[] }, { accessFlags := 26, nameIndex := 364, descriptorIndex := 339, attributes := #[] }, { accessFlags := 26, nameIndex := 365, descriptorIndex := 339, attributes := #[] }, { accessFlags := 26, nameIndex := 172, descriptorIndex := 173, attributes := #[] }, { accessFlags := 26, nameIndex := 176, descriptorIndex := 173, attributes := #[] }, { accessFlags := 8, nameIndex := 344, descriptorIndex := 339, attributes := #[] }, { accessFlags := 8, nameIndex := 338, descriptorIndex := 339, attributes := #[] }, { accessFlags := 4120, nameIndex := 245, descriptorIndex := 246, attributes := #[] }])
  fields := #[{ name := "E", type := .double, accessFlags := 25, slot := 0, constantValue := 0 }, { name := "PI", type := .double, accessFlags := 25, slot := 1, constantValue := 0 }, { name := "TAU", type := .double, accessFlags := 25, slot := 2, constantValue := 0 }, { name := "DEGREES_TO_RADIANS", type := .double, accessFlags := 26, slot := 3, constantValue := 0 }, { name := "RADIANS_TO_DEGREES", type := .double, accessFlags := 26, slot := 4, constantValue := 0 }, { name := "negativeZeroFloatBits", type := .long, accessFlags := 26, slot := 5, constantValue := 0 }, { name := "negativeZeroDoubleBits", type := .long, accessFlags := 26, slot := 6, constantValue := 0 }, { name := "twoToTheDoubleScaleUp", type := .double, accessFlags := 8, slot := 7, constantValue := 0 }, { name := "twoToTheDoubleScaleDown", type := .double, accessFlags := 8, slot := 8, constantValue := 0 }, { name := "$assertionsDisabled", type := .boolean, accessFlags := 4120, slot := 9, constantValue := 0 }]
  methods := #[k17m0, k17m1, k17m2]
  instanceTypes := #[]
  staticTypes := #[.double, .double, .double, .double, .double, .long, .long, .double, .double, .boolean]
  resolved := Array.replicate 460 none
  statics := none }

def pool18 : Array CpInfo := pool [(1, .class_ 2), (0, u "java/lang/String"), (1, .class_ 6), (1, u "java/lang/Object"), (0, u "<init>"), (0, u "()V"), (0, .methodref 1 10), (0, .nameAndType 11 12), (0, u "checkIndex"), (0, u "(II)V"), (1, .class_ 16), (1, u "java/lang/StringLatin1"), (36, u "([BI)C"), (67, u "$assertionsDisabled"), (0, u "Z"), (98, .class_ 223), (1, u "java/lang/StringLatin1$LinesSpliterator"), (28, u "charAt"), (137, .class_ 391), (0, u "java/lang/StringLatin1$CharsSpliterator")] 3

def k18m0 : Method := { name := "<init>", desc := "()V", sig := { parameters := [], returnType := none }, accessFlags := 0, code := none }
def k18c1 : Code := { maxStack := 2, maxLocals := 2, code := jdk_43_method_2_code, exceptionTable := #[], attributes := #[] }
def k18m1 : Method := { name := "charAt", desc := "([BI)C", sig := { parameters := [(.array .byte), .int], returnType := some .char }, accessFlags := 9, code := some k18c1 }
/-- java/lang/StringLatin1 -/
def k18 : Class := { plain "java/lang/StringLatin1" (some 0) with
  accessFlags := 48
  interfaces := #[]
  cf := some (fileOf pool18 14 #[.nestMembers #[390, 221]] #[{ accessFlags := 0, nameIndex := 7, descriptorIndex := 8, attributes := #[] }, { accessFlags := 9, nameIndex := 252, descriptorIndex := 53, attributes := #[] }] 48 4 #[] #[{ accessFlags := 4120, nameIndex := 121, descriptorIndex := 122, attributes := #[] }])
  fields := #[{ name := "$assertionsDisabled", type := .boolean, accessFlags := 4120, slot := 0, constantValue := 0 }]
  methods := #[k18m0, k18m1]
  instanceTypes := #[]
  staticTypes := #[.boolean]
  resolved := Array.replicate 395 none
  statics := none }

def pool19 : Array CpInfo := pool [(2, .class_ 4), (1, u "java/lang/Object"), (0, u "<init>"), (0, u "()V"), (17, .class_ 26), (1, u "jdk/internal/util/Preconditions"), (6, u "checkIndex"), (21, .class_ 56), (0, u "jdk/internal/util/Preconditions$4"), (57, .class_ 115), (0, u "jdk/internal/util/Preconditions$1"), (7, u "SIOOBE_FORMATTER"), (0, u "Ljava/util/function/BiFunction;"), (0, .class_ 126), (0, u "jdk/internal/util/Preconditions$2"), (3, u "AIOOBE_FORMATTER"), (0, .class_ 132), (0, u "jdk/internal/util/Preconditions$3"), (3, u "IOOBE_FORMATTER"), (41, u "(IILjava/util/function/BiFunction;)I")] 15

def k19m0 : Method := { name := "<init>", desc := "()V", sig := { parameters := [], returnType := none }, accessFlags := 1, code := none }
def k19c1 : Code := { maxStack := 3, maxLocals := 3, code := jdk_41_method_11_code, exceptionTable := #[], attributes := #[] }
def k19m1 : Method := { name := "checkIndex", desc := "(IILjava/util/function/BiFunction;)I", sig := { parameters := [.int, .int, (.object "java/util/function/BiFunction")], returnType := some .int }, accessFlags := 9, code := some k19c1 }
/-- jdk/internal/util/Preconditions -/
def k19 : Class := { plain "jdk/internal/util/Preconditions" (some 0) with
  accessFlags := 33
  interfaces := #[]
  cf := some (fileOf pool19 24 #[.nestMembers #[55, 131, 125, 114]] #[{ accessFlags := 1, nameIndex := 5, descriptorIndex := 6, attributes := #[] }, { accessFlags := 9, nameIndex := 33, descriptorIndex := 178, attributes := #[] }] 33 2 #[] #[{ accessFlags := 25, nameIndex := 123, descriptorIndex := 124, attributes := #[] }, { accessFlags := 25, nameIndex := 130, descriptorIndex := 124, attributes := #[] }, { accessFlags := 25, nameIndex := 136, descriptorIndex := 124, attributes := #[] }])
  fields := #[{ name := "SIOOBE_FORMATTER", type := (.object "java/util/function/BiFunction"), accessFlags := 25, slot := 0, constantValue := 0 }, { name := "AIOOBE_FORMATTER", type := (.object "java/util/function/BiFunction"), accessFlags := 25, slot := 1, constantValue := 0 }, { name := "IOOBE_FORMATTER", type := (.object "java/util/function/BiFunction"), accessFlags := 25, slot := 2, constantValue := 0 }]
  methods := #[k19m0, k19m1]
  instanceTypes := #[]
  staticTypes := #[(.object "java/util/function/BiFunction"), (.object "java/util/function/BiFunction"), (.object "java/util/function/BiFunction")]
  resolved := Array.replicate 194 none
  statics := some 2 }

def pool20 : Array CpInfo := pool [(2, .class_ 4), (1, u "java/lang/Object"), (0, u "<init>"), (0, u "()V"), (1, .class_ 10), (1, u "java/lang/Number"), (2, .class_ 14), (0, u "java/io/Serializable"), (0, u "serialVersionUID"), (0, u "J")] 20

def k20m0 : Method := { name := "<init>", desc := "()V", sig := { parameters := [], returnType := none }, accessFlags := 1, code := none }
/-- java/lang/Number -/
def k20 : Class := { plain "java/lang/Number" (some 0) with
  accessFlags := 1057
  interfaces := #[2]
  cf := some (fileOf pool20 8 #[] #[{ accessFlags := 1, nameIndex := 5, descriptorIndex := 6, attributes := #[] }] 1057 2 #[13] #[{ accessFlags := 26, nameIndex := 15, descriptorIndex := 16, attributes := #[] }])
  fields := #[{ name := "serialVersionUID", type := .long, accessFlags := 26, slot := 0, constantValue := 0 }]
  methods := #[k20m0]
  instanceTypes := #[]
  staticTypes := #[.long]
  resolved := Array.replicate 37 none
  statics := none }

def pool21 : Array CpInfo := pool [(1, .class_ 2), (0, u "java/lang/Integer"), (16, u "digits"), (0, u "[C"), (33, u "(I)I"), (19, u "stringSize"), (2, u "getChars"), (0, u "(II[B)I"), (4, .fieldref 1 84), (0, .nameAndType 85 86), (0, u "DigitOnes"), (0, u "[B"), (0, .fieldref 1 88), (0, .nameAndType 89 86), (0, u "DigitTens"), (99, .class_ 190), (0, u "java/lang/Integer$IntegerCache"), (3, u "I"), (8, .class_ 204), (0, u "java/lang/Number"), (2, u "value"), (94, u "TYPE"), (0, u "Ljava/lang/Class;"), (0, .class_ 305), (0, u "java/lang/Comparable"), (0, .class_ 307), (0, u "java/lang/constant/Constable"), (0, .class_ 309), (0, u "java/lang/constant/ConstantDesc"), (0, u "MIN_VALUE"), (1, u "MAX_VALUE"), (3, u "SIZE"), (1, u "BYTES"), (1, u "serialVersionUID"), (0, u "J")] 131

def k21c0 : Code := { maxStack := 4, maxLocals := 7, code := jdk_33_method_12_code, exceptionTable := #[], attributes := #[] }
def k21m0 : Method := { name := "getChars", desc := "(II[B)I", sig := { parameters := [.int, .int, (.array .byte)], returnType := some .int }, accessFlags := 8, code := some k21c0 }
def k21c1 : Code := { maxStack := 2, maxLocals := 4, code := jdk_33_method_13_code, exceptionTable := #[], attributes := #[] }
def k21m1 : Method := { name := "stringSize", desc := "(I)I", sig := { parameters := [.int], returnType := some .int }, accessFlags := 8, code := some k21c1 }
/-- java/lang/Integer -/
def k21 : Class := { plain "java/lang/Integer" (some 20) with
  accessFlags := 49
  interfaces := #[3, 5, 6]
  cf := some (fileOf pool21 1 #[.nestMembers #[189]] #[{ accessFlags := 8, nameIndex := 77, descriptorIndex := 78, attributes := #[] }, { accessFlags := 8, nameIndex := 74, descriptorIndex := 54, attributes := #[] }] 49 203 #[304, 306, 308] #[{ accessFlags := 25, nameIndex := 310, descriptorIndex := 194, attributes := #[] }, { accessFlags := 25, nameIndex := 312, descriptorIndex := 194, attributes := #[] }, { accessFlags := 25, nameIndex := 302, descriptorIndex := 303, attributes := #[] }, { accessFlags := 24, nameIndex := 19, descriptorIndex := 20, attributes := #[] }, { accessFlags := 24, nameIndex := 89, descriptorIndex := 86, attributes := #[] }, { accessFlags := 24, nameIndex := 85, descriptorIndex := 86, attributes := #[] }, { accessFlags := 18, nameIndex := 207, descriptorIndex := 194, attributes := #[] }, { accessFlags := 25, nameIndex := 316, descriptorIndex := 194, attributes := #[] }, { accessFlags := 25, nameIndex := 318, descriptorIndex := 194, attributes := #[] }, { accessFlags := 26, nameIndex := 320, descriptorIndex := 321, attributes := #[] }])
  fields := #[{ name := "MIN_VALUE", type := .int, accessFlags := 25, slot := 0, constantValue := 0 }, { name := "MAX_VALUE", type := .int, accessFlags := 25, slot := 1, constantValue := 0 }, { name := "TYPE", type := (.object "java/lang/Class"), accessFlags := 25, slot := 2, constantValue := 0 }, { name := "digits", type := (.array .char), accessFlags := 24, slot := 3, constantValue := 0 }, { name := "DigitTens", type := (.array .byte), accessFlags := 24, slot := 4, constantValue := 0 }, { name := "DigitOnes", type := (.array .byte), accessFlags := 24, slot := 5, constantValue := 0 }, { name := "value", type := .int, accessFlags := 18, slot := 0, constantValue := 0 }, { name := "SIZE", type := .int, accessFlags := 25, slot := 6, constantValue := 0 }, { name := "BYTES", type := .int, accessFlags := 25, slot := 7, constantValue := 0 }, { name := "serialVersionUID", type := .long, accessFlags := 26, slot := 8, constantValue := 0 }]
  methods := #[k21m0, k21m1]
  instanceTypes := #[.int]
  staticTypes := #[.int, .int, (.object "java/lang/Class"), (.array .char), (.array .byte), (.array .byte), .int, .int, .long]
  resolved := Array.replicate 453 none
  statics := some 3 }

def pool22 : Array CpInfo := pool [(9, u "<init>"), (6, .class_ 18), (1, u "java/lang/Object"), (0, u "()V"), (1, .class_ 23), (1, u "jdk/internal/util/ArraysSupport"), (0, u "LOG2_ARRAY_LONG_INDEX_SCALE"), (0, u "I"), (2, u "U"), (0, u "Ljdk/internal/misc/Unsafe;"), (8, u "BIG_ENDIAN"), (0, u "Z"), (8, u "LOG2_BYTE_BIT_SIZE"), (4, u "LOG2_ARRAY_INT_INDEX_SCALE"), (54, u "JLA"), (0, u "Ljdk/internal/access/JavaLangAccess;"), (11, u "LOG2_ARRAY_BOOLEAN_INDEX_SCALE"), (9, u "LOG2_ARRAY_BYTE_INDEX_SCALE"), (5, u "LOG2_ARRAY_CHAR_INDEX_SCALE"), (5, u "LOG2_ARRAY_SHORT_INDEX_SCALE"), (18, u "LOG2_ARRAY_FLOAT_INDEX_SCALE"), (24, u "LOG2_ARRAY_DOUBLE_INDEX_SCALE"), (6, .methodref 195 196), (0, .class_ 197), (0, .nameAndType 198 199), (0, u "java/lang/Math"), (0, u "max"), (0, u "(II)I"), (0, .integer 2147483639), (76, u "T_BOOLEAN"), (2, u "T_CHAR"), (1, u "T_FLOAT"), (1, u "T_DOUBLE"), (1, u "T_BYTE"), (1, u "T_SHORT"), (1, u "T_INT"), (1, u "T_LONG"), (1, u "SOFT_MAX_ARRAY_LENGTH"), (56, u "newLength"), (0, u "(III)I")] 25

def k22m0 : Method := { name := "<init>", desc := "()V", sig := { parameters := [], returnType := none }, accessFlags := 2, code := none }
def k22c1 : Code := { maxStack := 3, maxLocals := 4, code := jdk_48_method_27_code, exceptionTable := #[], attributes := #[] }
def k22m1 : Method := { name := "newLength", desc := "(III)I", sig := { parameters := [.int, .int, .int], returnType := some .int }, accessFlags := 9, code := some k22c1 }
/-- jdk/internal/util/ArraysSupport -/
def k22 : Class := { plain "jdk/internal/util/ArraysSupport" (some 0) with
  accessFlags := 33
  interfaces := #[]
  cf := some (fileOf pool22 21 #[] #[{ accessFlags := 2, nameIndex := 9, descriptorIndex := 19, attributes := #[] }, { accessFlags := 9, nameIndex := 351, descriptorIndex := 352, attributes := #[] }] 33 16 #[] #[{ accessFlags := 24, nameIndex := 28, descriptorIndex := 29, attributes := #[] }, { accessFlags := 26, nameIndex := 38, descriptorIndex := 39, attributes := #[] }, { accessFlags := 25, nameIndex := 121, descriptorIndex := 25, attributes := #[] }, { accessFlags := 25, nameIndex := 131, descriptorIndex := 25, attributes := #[] }, { accessFlags := 25, nameIndex := 137, descriptorIndex := 25, attributes := #[] }, { accessFlags := 25, nameIndex := 143, descriptorIndex := 25, attributes := #[] }, { accessFlags := 25, nameIndex := 53, descriptorIndex := 25, attributes := #[] }, { accessFlags := 25, nameIndex := 24, descriptorIndex := 25, attributes := #[] }, { accessFlags := 25, nameIndex := 162, descriptorIndex := 25, attributes := #[] }, { accessFlags := 25, nameIndex := 187, descriptorIndex := 25, attributes := #[] }, { accessFlags := 26, nameIndex := 48, descriptorIndex := 25, attributes := #[] }, { accessFlags := 25, nameIndex := 277, descriptorIndex := 25, attributes := #[] }, { accessFlags := 25, nameIndex := 280, descriptorIndex := 25, attributes := #[] }, { accessFlags := 25, nameIndex := 282, descriptorIndex := 25, attributes := #[] }, { accessFlags := 25, nameIndex := 284, descriptorIndex := 25, attributes := #[] }, { accessFlags := 25, nameIndex := 286, descriptorIndex := 25, attributes := #[] }, { accessFlags := 25, nameIndex := 288, descriptorIndex := 25, attributes := #[] }, { accessFlags := 25, nameIndex := 290, descriptorIndex := 25, attributes := #[] }, { accessFlags := 25, nameIndex := 292, descriptorIndex := 25, attributes := #[] }, { accessFlags := 26, nameIndex := 108, descriptorIndex := 109, attributes := #[] }, { accessFlags := 25, nameIndex := 294, descriptorIndex := 25, attributes := #[] }])
  fields := #[{ name := "U", type := (.object "jdk/internal/misc/Unsafe"), accessFlags := 24, slot := 0, constantValue := 0 }, { name := "BIG_ENDIAN", type := .boolean, accessFlags := 26, slot := 1, constantValue := 0 }, { name := "LOG2_ARRAY_BOOLEAN_INDEX_SCALE", type := .int, accessFlags := 25, slot := 2, constantValue := 0 }, { name := "LOG2_ARRAY_BYTE_INDEX_SCALE", type := .int, accessFlags := 25, slot := 3, constantValue := 0 }, { name := "LOG2_ARRAY_CHAR_INDEX_SCALE", type := .int, accessFlags := 25, slot := 4, constantValue := 0 }, { name := "LOG2_ARRAY_SHORT_INDEX_SCALE", type := .int, accessFlags := 25, slot := 5, constantValue := 0 }, { name := "LOG2_ARRAY_INT_INDEX_SCALE", type := .int, accessFlags := 25, slot := 6, constantValue := 0 }, { name := "LOG2_ARRAY_LONG_INDEX_SCALE", type := .int, accessFlags := 25, slot := 7, constantValue := 0 }, { name := "LOG2_ARRAY_FLOAT_INDEX_SCALE", type := .int, accessFlags := 25, slot := 8, constantValue := 0 }, { name := "LOG2_ARRAY_DOUBLE_INDEX_SCALE", type := .int, accessFlags := 25, slot := 9, constantValue := 0 }, { name := "LOG2_BYTE_BIT_SIZE", type := .int, accessFlags := 26, slot := 10, constantValue := 0 }, { name := "T_BOOLEAN", type := .int, accessFlags := 25, slot := 11, constantValue := 0 }, { name := "T_CHAR", type := .int, accessFlags := 25, slot := 12, constantValue := 0 }, { name := "T_FLOAT", type := .int, accessFlags := 25, slot := 13, constantValue := 0 }, { name := "T_DOUBLE", type := .int, accessFlags := 25, slot := 14, constantValue := 0 }, { name := "T_BYTE", type := .int, accessFlags := 25, slot := 15, constantValue := 0 }, { name := "T_SHORT", type := .int, accessFlags := 25, slot := 16, constantValue := 0 }, { name := "T_INT", type := .int, accessFlags := 25, slot := 17, constantValue := 0 }, { name := "T_LONG", type := .int, accessFlags := 25, slot := 18, constantValue := 0 }, { name := "JLA", type := (.object "jdk/internal/access/JavaLangAccess"), accessFlags := 26, slot := 19, constantValue := 0 }, { name := "SOFT_MAX_ARRAY_LENGTH", type := .int, accessFlags := 25, slot := 20, constantValue := 0 }]
  methods := #[k22m0, k22m1]
  instanceTypes := #[]
  staticTypes := #[(.object "jdk/internal/misc/Unsafe"), .boolean, .int, .int, .int, .int, .int, .int, .int, .int, .int, .int, .int, .int, .int, .int, .int, .int, .int, (.object "jdk/internal/access/JavaLangAccess"), .int]
  resolved := Array.replicate 378 none
  statics := none }

def pool23 : Array CpInfo := pool [(1, .class_ 2), (0, u "java/lang/Cloneable"), (0, .class_ 4), (0, u "java/lang/Object")] 2

/-- java/lang/Cloneable -/
def k23 : Class := { plain "java/lang/Cloneable" (some 0) with
  accessFlags := 1537
  interfaces := #[]
  cf := some (fileOf pool23 1 #[] #[] 1537 3 #[] #[])
  fields := #[]
  methods := #[]
  instanceTypes := #[]
  staticTypes := #[]
  resolved := Array.replicate 7 none
  statics := none }

def pool24 : Array CpInfo := pool [(2, .class_ 4), (1, u "java/lang/Object"), (0, u "<init>"), (0, u "()V"), (12, .class_ 20), (0, u "java/util/Collections"), (63, u "r"), (0, u "Ljava/util/Random;"), (80, .class_ 167), (0, u "java/util/Collections$UnmodifiableCollection"), (6, .class_ 175), (0, u "java/util/Collections$UnmodifiableSequencedCollection"), (6, .class_ 183), (0, u "java/util/Collections$UnmodifiableSet"), (6, .class_ 191), (0, u "java/util/Collections$UnmodifiableSequencedSet"), (6, .class_ 199), (0, u "java/util/Collections$UnmodifiableSortedSet"), (6, .class_ 207), (0, u "java/util/Collections$UnmodifiableNavigableSet"), (4, .class_ 213), (0, u "java/util/Collections$UnmodifiableList"), (1, .class_ 216), (0, u "java/util/Collections$UnmodifiableRandomAccessList"), (6, .class_ 224), (0, u "java/util/Collections$UnmodifiableMap"), (6, .class_ 232), (0, u "java/util/Collections$UnmodifiableSequencedMap"), (4, .class_ 238), (0, u "java/util/Collections$UnmodifiableSortedMap"), (6, .class_ 246), (0, u "java/util/Collections$UnmodifiableNavigableMap"), (3, .class_ 251), (0, u "java/util/Collections$SynchronizedCollection"), (4, .class_ 257), (0, u "java/util/Collections$SynchronizedSet"), (4, .class_ 263), (0, u "java/util/Collections$SynchronizedSortedSet"), (1, .class_ 266), (0, u "java/util/Collections$SynchronizedNavigableSet"), (1, .class_ 269), (0, u "java/util/Collections$SynchronizedRandomAccessList"), (1, .class_ 272), (0, u "java/util/Collections$SynchronizedList"), (5, .class_ 279), (0, u "java/util/Collections$SynchronizedMap"), (1, .class_ 282), (0, u "java/util/Collections$SynchronizedSortedMap"), (1, .class_ 285), (0, u "java/util/Collections$SynchronizedNavigableMap"), (1, .class_ 288), (0, u "java/util/Collections$CheckedCollection"), (11, .class_ 301), (0, u "java/util/Collections$CheckedQueue"), (3, .class_ 306), (0, u "java/util/Collections$CheckedSet"), (3, .class_ 311), (0, u "java/util/Collections$CheckedSortedSet"), (3, .class_ 316), (0, u "java/util/Collections$CheckedNavigableSet"), (3, .class_ 321), (0, u "java/util/Collections$CheckedRandomAccessList"), (3, .class_ 326), (0, u "java/util/Collections$CheckedList"), (1, .class_ 329), (0, u "java/util/Collections$CheckedMap"), (3, .class_ 334), (0, u "java/util/Collections$CheckedSortedMap"), (3, .class_ 339), (0, u "java/util/Collections$CheckedNavigableMap"), (4, .class_ 346), (1, u "java/util/Collections$EmptyIterator"), (3, .class_ 352), (1, u "java/util/Collections$EmptyListIterator"), (2, .class_ 357), (1, u "java/util/Collections$EmptyEnumeration"), (4, u "EMPTY_SET"), (0, u "Ljava/util/Set;"), (6, u "EMPTY_LIST"), (0, u "Ljava/util/List;"), (2, u "EMPTY_MAP"), (0, u "Ljava/util/Map;"), (4, .class_ 381), (0, u "java/util/Collections$SingletonSet"), (2, .class_ 385), (0, u "java/util/Collections$1"), (1, .class_ 388), (0, u "java/util/Collections$2"), (1, .class_ 391), (0, u "java/util/Collections$SingletonList"), (1, .class_ 394), (0, u "java/util/Collections$SingletonMap"), (22, .class_ 418), (0, u "java/util/Collections$CopiesList"), (4, .class_ 425), (1, u "java/util/Collections$ReverseComparator"), (8, .class_ 435), (0, u "java/util/Collections$ReverseComparator2"), (6, .class_ 443), (0, u "java/util/Collections$3"), (25, .class_ 470), (0, u "java/util/Collections$SetFromMap"), (2, .class_ 474), (0, u "java/util/Collections$SequencedSetFromMap"), (3, .class_ 479), (0, u "java/util/Collections$AsLIFOQueue"), (11, .class_ 492), (0, u "java/util/Collections$EmptySet"), (1, .class_ 495), (0, u "java/util/Collections$EmptyList"), (1, .class_ 498), (0, u "java/util/Collections$EmptyMap"), (1, u "BINARYSEARCH_THRESHOLD"), (0, u "I"), (2, u "REVERSE_THRESHOLD"), (1, u "SHUFFLE_THRESHOLD"), (1, u "FILL_THRESHOLD"), (1, u "ROTATE_THRESHOLD"), (1, u "COPY_THRESHOLD"), (1, u "REPLACEALL_THRESHOLD"), (1, u "INDEXOFSUBLIST_THRESHOLD"), (333, .class_ 851), (0, u "java/util/Collections$CheckedMap$CheckedEntrySet"), (0, .class_ 853), (0, u "java/util/Collections$CheckedMap$CheckedEntrySet$CheckedEntry"), (0, .class_ 855), (0, u "java/util/Collections$CheckedMap$CheckedEntrySet$1"), (0, .class_ 857), (0, u "java/util/Collections$CheckedList$1"), (0, .class_ 859), (0, u "java/util/Collections$CheckedCollection$1"), (0, .class_ 861), (0, u "java/util/Collections$UnmodifiableNavigableMap$EmptyNavigableMap"), (0, .class_ 863), (0, u "java/util/Collections$UnmodifiableMap$UnmodifiableEntrySet"), (0, .class_ 865), (0, u "java/util/Collections$UnmodifiableMap$UnmodifiableEntrySet$UnmodifiableEntry"), (0, .class_ 867), (0, u "java/util/Collections$UnmodifiableMap$UnmodifiableEntrySet$UnmodifiableEntrySetSpliterator"), (0, .class_ 869), (0, u "java/util/Collections$UnmodifiableMap$UnmodifiableEntrySet$1"), (0, .class_ 871), (0, u "java/util/Collections$UnmodifiableList$1"), (0, .class_ 873), (0, u "java/util/Collections$UnmodifiableNavigableSet$EmptyNavigableSet"), (0, .class_ 875), (0, u "java/util/Collections$UnmodifiableCollection$1")] 57

def k24m0 : Method := { name := "<init>", desc := "()V", sig := { parameters := [], returnType := none }, accessFlags := 2, code := none }
/-- java/util/Collections -/
def k24 : Class := { plain "java/util/Collections" (some 0) with
  accessFlags := 33
  interfaces := #[]
  cf := some (fileOf pool24 19 #[.nestMembers #[478, 473, 469, 434, 423, 417, 393, 390, 380, 497, 494, 491, 355, 350, 344, 338, 333, 328, 850, 852, 854, 320, 325, 856, 315, 310, 305, 300, 287, 858, 284, 281, 278, 268, 271, 265, 262, 256, 250, 245, 860, 237, 231, 223, 862, 864, 866, 868, 215, 212, 870, 206, 872, 198, 190, 182, 174, 166, 874, 442, 387, 384]] #[{ accessFlags := 2, nameIndex := 5, descriptorIndex := 6, attributes := #[] }] 33 2 #[] #[{ accessFlags := 26, nameIndex := 500, descriptorIndex := 501, attributes := #[] }, { accessFlags := 26, nameIndex := 504, descriptorIndex := 501, attributes := #[] }, { accessFlags := 26, nameIndex := 506, descriptorIndex := 501, attributes := #[] }, { accessFlags := 26, nameIndex := 508, descriptorIndex := 501, attributes := #[] }, { accessFlags := 26, nameIndex := 510, descriptorIndex := 501, attributes := #[] }, { accessFlags := 26, nameIndex := 512, descriptorIndex := 501, attributes := #[] }, { accessFlags := 26, nameIndex := 514, descriptorIndex := 501, attributes := #[] }, { accessFlags := 26, nameIndex := 516, descriptorIndex := 501, attributes := #[] }, { accessFlags := 10, nameIndex := 84, descriptorIndex := 85, attributes := #[] }, { accessFlags := 25, nameIndex := 362, descriptorIndex := 363, attributes := #[] }, { accessFlags := 25, nameIndex := 370, descriptorIndex := 371, attributes := #[] }, { accessFlags := 25, nameIndex := 374, descriptorIndex := 375, attributes := #[] }])
  fields := #[{ name := "BINARYSEARCH_THRESHOLD", type := .int, accessFlags := 26, slot := 0, constantValue := 0 }, { name := "REVERSE_THRESHOLD", type := .int, accessFlags := 26, slot := 1, constantValue := 0 }, { name := "SHUFFLE_THRESHOLD", type := .int, accessFlags := 26, slot := 2, constantValue := 0 }, { name := "FILL_THRESHOLD", type := .int, accessFlags := 26, slot := 3, constantValue := 0 }, { name := "ROTATE_THRESHOLD", type := .int, accessFlags := 26, slot := 4, constantValue := 0 }, { name := "COPY_THRESHOLD", type := .int, accessFlags := 26, slot := 5, constantValue := 0 }, { name := "REPLACEALL_THRESHOLD", type := .int, accessFlags := 26, slot := 6, constantValue := 0 }, { name := "INDEXOFSUBLIST_THRESHOLD", type := .int, accessFlags := 26, slot := 7, constantValue := 0 }, { name := "r", type := (.object "java/util/Random"), accessFlags := 10, slot := 8, constantValue := 0 }, { name := "EMPTY_SET", type := (.object "java/util/Set"), accessFlags := 25, slot := 9, constantValue := 0 }, { name := "EMPTY_LIST", type := (.object "java/util/List"), accessFlags := 25, slot := 10, constantValue := 0 }, { name := "EMPTY_MAP", type := (.object "java/util/Map"), accessFlags := 25, slot := 11, constantValue := 0 }]
  methods := #[k24m0]
  instanceTypes := #[]
  staticTypes := #[.int, .int, .int, .int, .int, .int, .int, .int, (.object "java/util/Random"), (.object "java/util/Set"), (.object "java/util/List"), (.object "java/util/Map")]
  resolved := Array.replicate 933 none
  statics := some 4 }

def pool25 : Array CpInfo := pool [(8, .class_ 10), (1, u "java/lang/Iterable"), (24, .class_ 36), (0, u "java/lang/Object")] 25

/-- java/lang/Iterable -/
def k25 : Class := { plain "java/lang/Iterable" (some 0) with
  accessFlags := 1537
  interfaces := #[]
  cf := some (fileOf pool25 8 #[] #[] 1537 35 #[] #[])
  fields := #[]
  methods := #[]
  instanceTypes := #[]
  staticTypes := #[]
  resolved := Array.replicate 62 none
  statics := none }

def pool26 : Array CpInfo := pool [(10, .class_ 12), (1, u "java/util/Collection"), (47, .class_ 61), (0, u "java/lang/Object"), (0, .class_ 63), (0, u "java/lang/Iterable")] 51

/-- java/util/Collection -/
def k26 : Class := { plain "java/util/Collection" (some 0) with
  accessFlags := 1537
  interfaces := #[25]
  cf := some (fileOf pool26 10 #[] #[] 1537 60 #[62] #[])
  fields := #[]
  methods := #[]
  instanceTypes := #[]
  staticTypes := #[]
  resolved := Array.replicate 115 none
  statics := none }

def pool27 : Array CpInfo := pool [(2, .class_ 4), (1, u "java/lang/Object"), (0, u "<init>"), (0, u "()V"), (1, .class_ 10), (1, u "java/util/AbstractCollection"), (66, .class_ 78), (0, u "java/util/Collection")] 81

def k27m0 : Method := { name := "<init>", desc := "()V", sig := { parameters := [], returnType := none }, accessFlags := 4, code := none }
/-- java/util/AbstractCollection -/
def k27 : Class := { plain "java/util/AbstractCollection" (some 0) with
  accessFlags := 1057
  interfaces := #[26]
  cf := some (fileOf pool27 8 #[] #[{ accessFlags := 4, nameIndex := 5, descriptorIndex := 6, attributes := #[] }] 1057 2 #[77] #[])
  fields := #[]
  methods := #[k27m0]
  instanceTypes := #[]
  staticTypes := #[]
  resolved := Array.replicate 160 none
  statics := none }

def pool28 : Array CpInfo := pool [(8, .class_ 10), (1, u "java/util/SequencedCollection"), (15, .class_ 27), (0, u "java/lang/Object"), (0, .class_ 29), (0, u "java/util/Collection")] 27

/-- java/util/SequencedCollection -/
def k28 : Class := { plain "java/util/SequencedCollection" (some 0) with
  accessFlags := 1537
  interfaces := #[26]
  cf := some (fileOf pool28 8 #[] #[] 1537 26 #[28] #[])
  fields := #[]
  methods := #[]
  instanceTypes := #[]
  staticTypes := #[]
  resolved := Array.replicate 57 none
  statics := none }

def pool29 : Array CpInfo := pool [(8, .class_ 10), (1, u "java/util/List"), (92, .class_ 104), (0, u "java/lang/Object"), (15, .class_ 121), (0, u "java/util/SequencedCollection")] 129

/-- java/util/List -/
def k29 : Class := { plain "java/util/List" (some 0) with
  accessFlags := 1537
  interfaces := #[28]
  cf := some (fileOf pool29 8 #[] #[] 1537 103 #[120] #[])
  fields := #[]
  methods := #[]
  instanceTypes := #[]
  staticTypes := #[]
  resolved := Array.replicate 251 none
  statics := none }

def pool30 : Array CpInfo := pool [(2, .class_ 4), (1, u "java/util/AbstractCollection"), (0, u "<init>"), (0, u "()V"), (1, .class_ 10), (1, u "java/util/AbstractList"), (0, u "modCount"), (0, u "I"), (64, .class_ 78), (0, u "java/util/AbstractList$Itr"), (3, .class_ 83), (0, u "java/util/AbstractList$ListItr"), (9, .class_ 94), (0, u "java/util/AbstractList$RandomAccessSubList"), (3, .class_ 99), (0, u "java/util/AbstractList$SubList"), (33, .class_ 134), (0, u "java/util/List"), (73, .class_ 209), (0, u "java/util/AbstractList$SubList$1"), (0, .class_ 211), (0, u "java/util/AbstractList$RandomAccessSpliterator")] 6

def k30m0 : Method := { name := "<init>", desc := "()V", sig := { parameters := [], returnType := none }, accessFlags := 4, code := none }
/-- java/util/AbstractList -/
def k30 : Class := { plain "java/util/AbstractList" (some 27) with
  accessFlags := 1057
  interfaces := #[29]
  cf := some (fileOf pool30 8 #[.nestMembers #[93, 98, 208, 210, 82, 77]] #[{ accessFlags := 4, nameIndex := 5, descriptorIndex := 6, attributes := #[] }] 1057 2 #[133] #[{ accessFlags := 132, nameIndex := 11, descriptorIndex := 12, attributes := #[] }])
  fields := #[{ name := "modCount", type := .int, accessFlags := 132, slot := 0, constantValue := 0 }]
  methods := #[k30m0]
  instanceTypes := #[.int]
  staticTypes := #[]
  resolved := Array.replicate 218 none
  statics := none }

def pool31 : Array CpInfo := pool [(1, .class_ 2), (0, u "java/util/RandomAccess"), (0, .class_ 4), (0, u "java/lang/Object")] 2

/-- java/util/RandomAccess -/
def k31 : Class := { plain "java/util/RandomAccess" (some 0) with
  accessFlags := 1537
  interfaces := #[]
  cf := some (fileOf pool31 1 #[] #[] 1537 3 #[] #[])
  fields := #[]
  methods := #[]
  instanceTypes := #[]
  staticTypes := #[]
  resolved := Array.replicate 7 none
  statics := none }

def pool32 : Array CpInfo := pool [(2, .class_ 4), (1, u "java/util/AbstractList"), (0, u "<init>"), (0, u "()V"), (1, .class_ 10), (1, u "java/util/Collections"), (54, .class_ 66), (0, u "java/util/Collections$EmptyList"), (0, .class_ 68), (0, u "java/util/RandomAccess"), (0, .class_ 70), (0, u "java/io/Serializable"), (0, u "serialVersionUID"), (0, u "J")] 77

def k32m0 : Method := { name := "<init>", desc := "()V", sig := { parameters := [], returnType := none }, accessFlags := 2, code := none }
/-- java/util/Collections$EmptyList -/
def k32 : Class := { plain "java/util/Collections$EmptyList" (some 30) with
  accessFlags := 32
  interfaces := #[31, 2]
  cf := some (fileOf pool32 65 #[.nestHost 8] #[{ accessFlags := 2, nameIndex := 5, descriptorIndex := 6, attributes := #[] }] 32 2 #[67, 69] #[{ accessFlags := 26, nameIndex := 71, descriptorIndex := 72, attributes := #[] }])
  fields := #[{ name := "serialVersionUID", type := .long, accessFlags := 26, slot := 0, constantValue := 0 }]
  methods := #[k32m0]
  instanceTypes := #[.int]
  staticTypes := #[.long]
  resolved := Array.replicate 150 none
  statics := none }

def pool33 : Array CpInfo := pool [(2, .class_ 4), (1, u "java/lang/StackTraceElement"), (0, u "<init>"), (2, .class_ 10), (1, u "java/lang/Object"), (0, u "()V"), (2, u "format"), (0, u "B"), (2, u "classLoaderName"), (0, u "Ljava/lang/String;"), (2, u "moduleName"), (2, u "moduleVersion"), (12, u "declaringClass"), (4, u "methodName"), (2, u "fileName"), (2, u "lineNumber"), (0, u "I"), (65, u "declaringClassObject"), (0, u "Ljava/lang/Class;"), (33, .class_ 153), (1, u "java/lang/StackTraceElement$HashedModules"), (17, .class_ 172), (0, u "java/io/Serializable"), (0, u "NATIVE_METHOD"), (1, u "UNKNOWN_SOURCE"), (2, u "BUILTIN_CLASS_LOADER"), (1, u "JDK_NON_UPGRADEABLE_MODULE"), (1, u "serialVersionUID"), (0, u "J")] 51

def k33m0 : Method := { name := "<init>", desc := "()V", sig := { parameters := [], returnType := none }, accessFlags := 2, code := none }
/-- java/lang/StackTraceElement -/
def k33 : Class := { plain "java/lang/StackTraceElement" (some 0) with
  accessFlags := 49
  interfaces := #[2]
  cf := some (fileOf pool33 2 #[.nestMembers #[151]] #[{ accessFlags := 2, nameIndex := 5, descriptorIndex := 11, attributes := #[] }] 49 8 #[171] #[{ accessFlags := 26, nameIndex := 173, descriptorIndex := 19, attributes := #[] }, { accessFlags := 26, nameIndex := 175, descriptorIndex := 19, attributes := #[] }, { accessFlags := 130, nameIndex := 116, descriptorIndex := 117, attributes := #[] }, { accessFlags := 2, nameIndex := 18, descriptorIndex := 19, attributes := #[] }, { accessFlags := 2, nameIndex := 22, descriptorIndex := 19, attributes := #[] }, { accessFlags := 2, nameIndex := 25, descriptorIndex := 19, attributes := #[] }, { accessFlags := 2, nameIndex := 38, descriptorIndex := 19, attributes := #[] }, { accessFlags := 2, nameIndex := 43, descriptorIndex := 19, attributes := #[] }, { accessFlags := 2, nameIndex := 46, descriptorIndex := 19, attributes := #[] }, { accessFlags := 2, nameIndex := 49, descriptorIndex := 50, attributes := #[] }, { accessFlags := 2, nameIndex := 14, descriptorIndex := 15, attributes := #[] }, { accessFlags := 26, nameIndex := 178, descriptorIndex := 15, attributes := #[] }, { accessFlags := 26, nameIndex := 180, descriptorIndex := 15, attributes := #[] }, { accessFlags := 26, nameIndex := 182, descriptorIndex := 183, attributes := #[] }])
  fields := #[{ name := "NATIVE_METHOD", type := (.object "java/lang/String"), accessFlags := 26, slot := 0, constantValue := 0 }, { name := "UNKNOWN_SOURCE", type := (.object "java/lang/String"), accessFlags := 26, slot := 1, constantValue := 0 }, { name := "declaringClassObject", type := (.object "java/lang/Class"), accessFlags := 130, slot := 0, constantValue := 0 }, { name := "classLoaderName", type := (.object "java/lang/String"), accessFlags := 2, slot := 1, constantValue := 0 }, { name := "moduleName", type := (.object "java/lang/String"), accessFlags := 2, slot := 2, constantValue := 0 }, { name := "moduleVersion", type := (.object "java/lang/String"), accessFlags := 2, slot := 3, constantValue := 0 }, { name := "declaringClass", type := (.object "java/lang/String"), accessFlags := 2, slot := 4, constantValue := 0 }, { name := "methodName", type := (.object "java/lang/String"), accessFlags := 2, slot := 5, constantValue := 0 }, { name := "fileName", type := (.object "java/lang/String"), accessFlags := 2, slot := 6, constantValue := 0 }, { name := "lineNumber", type := .int, accessFlags := 2, slot := 7, constantValue := 0 }, { name := "format", type := .byte, accessFlags := 2, slot := 8, constantValue := 0 }, { name := "BUILTIN_CLASS_LOADER", type := .byte, accessFlags := 26, slot := 2, constantValue := 0 }, { name := "JDK_NON_UPGRADEABLE_MODULE", type := .byte, accessFlags := 26, slot := 3, constantValue := 0 }, { name := "serialVersionUID", type := .long, accessFlags := 26, slot := 4, constantValue := 0 }]
  methods := #[k33m0]
  instanceTypes := #[(.object "java/lang/Class"), (.object "java/lang/String"), (.object "java/lang/String"), (.object "java/lang/String"), (.object "java/lang/String"), (.object "java/lang/String"), (.object "java/lang/String"), .int, .byte]
  staticTypes := #[(.object "java/lang/String"), (.object "java/lang/String"), .byte, .byte, .long]
  resolved := Array.replicate 235 none
  statics := none }

/-- the primitive byte -/
def k34 : Class := { plain "byte" none with kind := .primitive 'B', accessFlags := 0x411 }
/-- [B -/
def k35 : Class := { plain "[B" (some 0) with kind := .array 34 .byte, interfaces := #[23, 2], accessFlags := 1041 }

/-- the primitive char -/
def k36 : Class := { plain "char" none with kind := .primitive 'C', accessFlags := 0x411 }
/-- [C -/
def k37 : Class := { plain "[C" (some 0) with kind := .array 36 .char, interfaces := #[23, 2], accessFlags := 1041 }

/-- the primitive int -/
def k38 : Class := { plain "int" none with kind := .primitive 'I', accessFlags := 0x411 }
/-- [I -/
def k39 : Class := { plain "[I" (some 0) with kind := .array 38 .int, interfaces := #[23, 2], accessFlags := 1041 }

/-- the primitive long -/
def k40 : Class := { plain "long" none with kind := .primitive 'J', accessFlags := 0x411 }
/-- [J -/
def k41 : Class := { plain "[J" (some 0) with kind := .array 40 .long, interfaces := #[23, 2], accessFlags := 1041 }

/-- [Ljava/lang/Object; -/
def k42 : Class := { plain "[Ljava/lang/Object;" (some 0) with kind := .array 0 (.object "java/lang/Object"), interfaces := #[23, 2], accessFlags := 1041 }

/-- [Ljava/lang/StackTraceElement; -/
def k43 : Class := { plain "[Ljava/lang/StackTraceElement;" (some 0) with kind := .array 33 (.object "java/lang/StackTraceElement"), interfaces := #[23, 2], accessFlags := 1041 }

/-- [Ljava/lang/Throwable; -/
def k44 : Class := { plain "[Ljava/lang/Throwable;" (some 0) with kind := .array 9 (.object "java/lang/Throwable"), interfaces := #[23, 2], accessFlags := 1041 }

def heap : Heap := #[{ cls := 7, slots := #[.long 0, .int 1, .null, .int 0, .null, .int 0, .int 0], vm := .statics 7 },
  { cls := 9, slots := #[.long 0, .ref 5, .ref 6, .null, .null, .null, .null, .ref 7, .int 1], vm := .statics 9 },
  { cls := 19, slots := #[.null, .null, .null], vm := .statics 19 },
  { cls := 21, slots := #[.int 0, .int 0, .null, .null, .ref 9, .ref 8, .int 0, .int 0, .long 0], vm := .statics 21 },
  { cls := 24, slots := #[.int 0, .int 0, .int 0, .int 0, .int 0, .int 0, .int 0, .int 0, .null, .null, .ref 6, .null], vm := .statics 24 },
  { cls := 43, slots := #[], vm := .none },
  { cls := 32, slots := #[.int 0], vm := .none },
  { cls := 44, slots := #[], vm := .none },
  { cls := 35, slots := #[.int 48, .int 49, .int 50, .int 51, .int 52, .int 53, .int 54, .int 55, .int 56, .int 57, .int 48, .int 49, .int 50, .int 51, .int 52, .int 53, .int 54, .int 55, .int 56, .int 57, .int 48, .int 49, .int 50, .int 51, .int 52, .int 53, .int 54, .int 55, .int 56, .int 57, .int 48, .int 49, .int 50, .int 51, .int 52, .int 53, .int 54, .int 55, .int 56, .int 57, .int 48, .int 49, .int 50, .int 51, .int 52, .int 53, .int 54, .int 55, .int 56, .int 57, .int 48, .int 49, .int 50, .int 51, .int 52, .int 53, .int 54, .int 55, .int 56, .int 57, .int 48, .int 49, .int 50, .int 51, .int 52, .int 53, .int 54, .int 55, .int 56, .int 57, .int 48, .int 49, .int 50, .int 51, .int 52, .int 53, .int 54, .int 55, .int 56, .int 57, .int 48, .int 49, .int 50, .int 51, .int 52, .int 53, .int 54, .int 55, .int 56, .int 57, .int 48, .int 49, .int 50, .int 51, .int 52, .int 53, .int 54, .int 55, .int 56, .int 57], vm := .none },
  { cls := 35, slots := #[.int 48, .int 48, .int 48, .int 48, .int 48, .int 48, .int 48, .int 48, .int 48, .int 48, .int 49, .int 49, .int 49, .int 49, .int 49, .int 49, .int 49, .int 49, .int 49, .int 49, .int 50, .int 50, .int 50, .int 50, .int 50, .int 50, .int 50, .int 50, .int 50, .int 50, .int 51, .int 51, .int 51, .int 51, .int 51, .int 51, .int 51, .int 51, .int 51, .int 51, .int 52, .int 52, .int 52, .int 52, .int 52, .int 52, .int 52, .int 52, .int 52, .int 52, .int 53, .int 53, .int 53, .int 53, .int 53, .int 53, .int 53, .int 53, .int 53, .int 53, .int 54, .int 54, .int 54, .int 54, .int 54, .int 54, .int 54, .int 54, .int 54, .int 54, .int 55, .int 55, .int 55, .int 55, .int 55, .int 55, .int 55, .int 55, .int 55, .int 55, .int 56, .int 56, .int 56, .int 56, .int 56, .int 56, .int 56, .int 56, .int 56, .int 56, .int 57, .int 57, .int 57, .int 57, .int 57, .int 57, .int 57, .int 57, .int 57, .int 57], vm := .none }]
def classes : Array Class := #[k0, k1, k2, k3, k4, k5, k6, k7, k8, k9, k10, k11, k12, k13, k14, k15, k16, k17, k18, k19, k20, k21, k22, k23, k24, k25, k26, k27, k28, k29, k30, k31, k32, k33, k34, k35, k36, k37, k38, k39, k40, k41, k42, k43, k44]
def interned : List (Array UInt16 × Addr) := []
def slotsUsed : Nat := 241
def theMethod : MethodId := ⟨1, 1⟩
def args0 : Array Value := #[.int 16706, .int 17220, .int 12, .int 0]
def aboutOver (below : List Frame) : State where
  vm := { classes := classes, interned := interned.toArray }
  heap := heap
  slotsUsed := slotsUsed
  threads := #[{ frames := .invoking theMethod args0 :: below }]
def below0 : List Frame := [.native { method := ⟨0, 0⟩, args := #[] }]
def about1 : State := aboutOver below0
def p0 : Program := .bare "" "" ""
def e0 : Env := launch0.env 0 0 0
theorem w_frames : about1.frames = Frame.invoking theMethod args0 :: below0 := rfl
set_option maxRecDepth 65536 in
theorem w_args : argsFit about1.vm theMethod args0 = true := by decide +kernel
set_option maxRecDepth 65536 in
theorem w_heap : heapFits about1 = true := by decide +kernel
set_option maxRecDepth 65536 in
theorem w_runnable : about1.curStatus? = some .runnable := by decide +kernel
set_option maxRecDepth 65536 in
theorem w_alone : about1.alone = true := by decide +kernel
set_option maxRecDepth 65536 in
theorem w_named : about1.methodNamed? x = some theMethod := by decide +kernel
set_option maxRecDepth 65536 in
theorem w_hears : about1.hears theMethod below0 = true := by decide +kernel
set_option maxRecDepth 65536 in
theorem w_ripe : about1.ripe theMethod args0 below0 = true := by decide +kernel
theorem w_running : about1.status = .running := rfl
set_option maxRecDepth 65536 in
theorem w_room : about1.hasRoom e0.platform room_1 = true :=
  launch0.hasRoom_least _ room_1 (by decide +kernel) (by decide +kernel) (by decide +kernel) (by decide +kernel) (by decide +kernel) (by decide +kernel)
theorem allAtoms_all (ts : List Jvm.Cond) (a : Array Jvm.Value) (st : Jvm.State) : (allAtoms ts).before a st = ts.all (fun c => c.before a st) := by
  induction ts with
  | nil => rfl
  | cons c t ih =>
    show (Jvm.Cond.and c (allAtoms t)).before a st = _
    rw [Jvm.Cond.before_and, ih, List.all_cons]
def words1 : List Jvm.Cond := Jvm.Cond.code x code maxLocals ret :: tables_1
/-- a 'code' word, met by the world's own term for the bytes: nothing is compared byte by byte -/
theorem code_word {y : MethodName} {bytes : ByteArray} {mx : Nat} {rt : Option FieldType} {a : Array Value} {s : State} {m : MethodId} {meth : Method} {c : Code} (h1 : s.methodNamed? y = some m) (h2 : s.vm.method? m = some meth) (h3 : meth.code = some c) (h4 : c.code = bytes)
    (h5 : (c.maxLocals == mx && c.exceptionTable.isEmpty && decide (c.maxStack ≤ mostOperands) && decide (meth.sig.returnType = rt) && !meth.locks && decide (parseMethodDescriptor y.desc = some meth.sig)) = true) : (Jvm.Cond.code y bytes mx rt).before a s = true := by
  simp only [Bool.and_eq_true, beq_iff_eq, Bool.not_eq_true', decide_eq_true_eq] at h5
  obtain ⟨⟨⟨⟨⟨g1, g2⟩, g3⟩, g4⟩, g5⟩, g6⟩ := h5
  simp [Cond.before, Cond.holds, Cond.value, h1, h2, h3, h4, g1, g2, g3, g4, g5, g6]
def isCode : Jvm.Cond → Bool
  | .code _ _ _ _ => true
  | _ => false
theorem all_split {L : List Jvm.Cond} {P : Jvm.Cond → Bool} (h1 : L.all (fun c => isCode c || P c) = true) (h2 : ∀ c ∈ L.filter isCode, P c = true) : L.all P = true := by
  refine List.all_eq_true.mpr fun c hc => ?_
  have h := List.all_eq_true.mp h1 c hc
  rcases Bool.eq_false_or_eq_true (isCode c) with hi | hi
  · exact h2 c (List.mem_filter.mpr ⟨hc, hi⟩)
  · simpa [hi] using h
set_option maxRecDepth 65536 in
theorem w_c0 : (Jvm.Cond.code x code maxLocals ret).before args0 about1 = true := code_word (m := ⟨1, 1⟩) (meth := k1m1) (c := k1c1) (by decide +kernel) rfl rfl rfl (by decide +kernel)
set_option maxRecDepth 65536 in
theorem w_c1 : (Jvm.Cond.code ({ cls := "java/lang/String", name := "<init>", desc := "([C)V" } : Jvm.MethodName) jdk_42_method_3_code (2 : Nat) (Option.none : Option Jvm.ClassFile.FieldType)).before args0 about1 = true := code_word (m := ⟨7, 1⟩) (meth := k7m1) (c := k7c1) (by decide +kernel) rfl rfl rfl (by decide +kernel)
set_option maxRecDepth 65536 in
theorem w_c2 : (Jvm.Cond.code ({ cls := "java/lang/String", name := "<init>", desc := "([CIILjava/lang/Void;)V" } : Jvm.MethodName) jdk_42_method_149_code (6 : Nat) (Option.none : Option Jvm.ClassFile.FieldType)).before args0 about1 = true := code_word (m := ⟨7, 6⟩) (meth := k7m6) (c := k7c6) (by decide +kernel) rfl rfl rfl (by decide +kernel)
set_option maxRecDepth 65536 in
theorem w_c3 : (Jvm.Cond.code ({ cls := "java/lang/Object", name := "<init>", desc := "()V" } : Jvm.MethodName) object_method_1_code (1 : Nat) (Option.none : Option Jvm.ClassFile.FieldType)).before args0 about1 = true := code_word (m := ⟨0, 0⟩) (meth := k0m0) (c := k0c0) (by decide +kernel) rfl rfl rfl (by decide +kernel)
set_option maxRecDepth 65536 in
theorem w_c4 : (Jvm.Cond.code ({ cls := "java/lang/StringUTF16", name := "compress", desc := "([CII)[B" } : Jvm.MethodName) jdk_52_method_16_code (6 : Nat) (Option.some (Jvm.ClassFile.FieldType.array Jvm.ClassFile.FieldType.byte))).before args0 about1 = true := code_word (m := ⟨8, 2⟩) (meth := k8m2) (c := k8c2) (by decide +kernel) rfl rfl rfl (by decide +kernel)
set_option maxRecDepth 65536 in
theorem w_c5 : (Jvm.Cond.code ({ cls := "java/lang/StringUTF16", name := "compress", desc := "([CI[BII)I" } : Jvm.MethodName) jdk_52_method_21_code (7 : Nat) (Option.some Jvm.ClassFile.FieldType.int)).before args0 about1 = true := code_word (m := ⟨8, 3⟩) (meth := k8m3) (c := k8c3) (by decide +kernel) rfl rfl rfl (by decide +kernel)
set_option maxRecDepth 65536 in
theorem w_c6 : (Jvm.Cond.code ({ cls := "java/lang/StringUTF16", name := "coderFromArrayLen", desc := "([BI)B" } : Jvm.MethodName) jdk_52_method_15_code (2 : Nat) (Option.some Jvm.ClassFile.FieldType.byte)).before args0 about1 = true := code_word (m := ⟨8, 1⟩) (meth := k8m1) (c := k8c1) (by decide +kernel) rfl rfl rfl (by decide +kernel)
set_option maxRecDepth 65536 in
theorem w_c7 : (Jvm.Cond.code ({ cls := "com/example/slackline/slackline/instance/InputException", name := "<init>", desc := "(ILjava/lang/String;)V" } : Jvm.MethodName) prog_19_method_1_code (3 : Nat) (Option.none : Option Jvm.ClassFile.FieldType)).before args0 about1 = true := code_word (m := ⟨11, 0⟩) (meth := k11m0) (c := k11c0) (by decide +kernel) rfl rfl rfl (by decide +kernel)
set_option maxRecDepth 65536 in
theorem w_c8 : (Jvm.Cond.code ({ cls := "java/lang/Exception", name := "<init>", desc := "(Ljava/lang/String;)V" } : Jvm.MethodName) jdk_59_method_2_code (2 : Nat) (Option.none : Option Jvm.ClassFile.FieldType)).before args0 about1 = true := code_word (m := ⟨10, 1⟩) (meth := k10m1) (c := k10c1) (by decide +kernel) rfl rfl rfl (by decide +kernel)
set_option maxRecDepth 65536 in
theorem w_c9 : (Jvm.Cond.code ({ cls := "java/lang/Throwable", name := "<init>", desc := "(Ljava/lang/String;)V" } : Jvm.MethodName) jdk_78_method_2_code (2 : Nat) (Option.none : Option Jvm.ClassFile.FieldType)).before args0 about1 = true := code_word (m := ⟨9, 1⟩) (meth := k9m1) (c := k9c1) (by decide +kernel) rfl rfl rfl (by decide +kernel)
set_option maxRecDepth 65536 in
theorem w_c10 : (Jvm.Cond.code ({ cls := "java/lang/Throwable", name := "<init>", desc := "()V" } : Jvm.MethodName) jdk_78_method_1_code (1 : Nat) (Option.none : Option Jvm.ClassFile.FieldType)).before args0 about1 = true := code_word (m := ⟨9, 0⟩) (meth := k9m0) (c := k9c0) (by decide +kernel) rfl rfl rfl (by decide +kernel)
set_option maxRecDepth 65536 in
theorem w_c11 : (Jvm.Cond.code ({ cls := "com/example/slackline/slackline/instance/InputException", name := "describe", desc := "(Ljava/lang/String;)Ljava/lang/String;" } : Jvm.MethodName) prog_19_method_2_code (2 : Nat) (Option.some (Jvm.ClassFile.FieldType.object "java/lang/String"))).before args0 about1 = true := code_word (m := ⟨11, 1⟩) (meth := k11m1) (c := k11c1) (by decide +kernel) rfl rfl rfl (by decide +kernel)
set_option maxRecDepth 65536 in
theorem w_c12 : (Jvm.Cond.code ({ cls := "java/lang/StringBuilder", name := "<init>", desc := "()V" } : Jvm.MethodName) jdk_67_method_1_code (1 : Nat) (Option.none : Option Jvm.ClassFile.FieldType)).before args0 about1 = true := code_word (m := ⟨14, 0⟩) (meth := k14m0) (c := k14c0) (by decide +kernel) rfl rfl rfl (by decide +kernel)
set_option maxRecDepth 65536 in
theorem w_c13 : (Jvm.Cond.code ({ cls := "java/lang/AbstractStringBuilder", name := "<init>", desc := "(I)V" } : Jvm.MethodName) jdk_68_method_2_code (2 : Nat) (Option.none : Option Jvm.ClassFile.FieldType)).before args0 about1 = true := code_word (m := ⟨13, 1⟩) (meth := k13m1) (c := k13c1) (by decide +kernel) rfl rfl rfl (by decide +kernel)
set_option maxRecDepth 65536 in
theorem w_c14 : (Jvm.Cond.code ({ cls := "java/lang/StringBuilder", name := "append", desc := "(Ljava/lang/String;)Ljava/lang/StringBuilder;" } : Jvm.MethodName) jdk_67_method_7_code (2 : Nat) (Option.some (Jvm.ClassFile.FieldType.object "java/lang/StringBuilder"))).before args0 about1 = true := code_word (m := ⟨14, 1⟩) (meth := k14m1) (c := k14c1) (by decide +kernel) rfl rfl rfl (by decide +kernel)
set_option maxRecDepth 65536 in
theorem w_c15 : (Jvm.Cond.code ({ cls := "java/lang/AbstractStringBuilder", name := "append", desc := "(Ljava/lang/String;)Ljava/lang/AbstractStringBuilder;" } : Jvm.MethodName) jdk_68_method_22_code (3 : Nat) (Option.some (Jvm.ClassFile.FieldType.object "java/lang/AbstractStringBuilder"))).before args0 about1 = true := code_word (m := ⟨13, 5⟩) (meth := k13m5) (c := k13c5) (by decide +kernel) rfl rfl rfl (by decide +kernel)
set_option maxRecDepth 65536 in
theorem w_c16 : (Jvm.Cond.code ({ cls := "java/lang/String", name := "length", desc := "()I" } : Jvm.MethodName) jdk_42_method_54_code (1 : Nat) (Option.some Jvm.ClassFile.FieldType.int)).before args0 about1 = true := code_word (m := ⟨7, 3⟩) (meth := k7m3) (c := k7c3) (by decide +kernel) rfl rfl rfl (by decide +kernel)
set_option maxRecDepth 65536 in
theorem w_c17 : (Jvm.Cond.code ({ cls := "java/lang/String", name := "coder", desc := "()B" } : Jvm.MethodName) jdk_42_method_152_code (1 : Nat) (Option.some Jvm.ClassFile.FieldType.byte)).before args0 about1 = true := code_word (m := ⟨7, 8⟩) (meth := k7m8) (c := k7c8) (by decide +kernel) rfl rfl rfl (by decide +kernel)
set_option maxRecDepth 65536 in
theorem w_c18 : (Jvm.Cond.code ({ cls := "java/lang/AbstractStringBuilder", name := "ensureCapacityInternal", desc := "(I)V" } : Jvm.MethodName) jdk_68_method_9_code (3 : Nat) (Option.none : Option Jvm.ClassFile.FieldType)).before args0 about1 = true := code_word (m := ⟨13, 3⟩) (meth := k13m3) (c := k13c3) (by decide +kernel) rfl rfl rfl (by decide +kernel)
set_option maxRecDepth 65536 in
theorem w_c19 : (Jvm.Cond.code ({ cls := "java/lang/AbstractStringBuilder", name := "putStringAt", desc := "(ILjava/lang/String;)V" } : Jvm.MethodName) jdk_68_method_73_code (3 : Nat) (Option.none : Option Jvm.ClassFile.FieldType)).before args0 about1 = true := code_word (m := ⟨13, 10⟩) (meth := k13m10) (c := k13c10) (by decide +kernel) rfl rfl rfl (by decide +kernel)
set_option maxRecDepth 65536 in
theorem w_c20 : (Jvm.Cond.code ({ cls := "java/lang/AbstractStringBuilder", name := "inflateIfNeededFor", desc := "(Ljava/lang/String;)V" } : Jvm.MethodName) jdk_68_method_71_code (2 : Nat) (Option.none : Option Jvm.ClassFile.FieldType)).before args0 about1 = true := code_word (m := ⟨13, 9⟩) (meth := k13m9) (c := k13c9) (by decide +kernel) rfl rfl rfl (by decide +kernel)
set_option maxRecDepth 65536 in
theorem w_c21 : (Jvm.Cond.code ({ cls := "java/lang/String", name := "getBytes", desc := "([BIB)V" } : Jvm.MethodName) jdk_42_method_147_code (4 : Nat) (Option.none : Option Jvm.ClassFile.FieldType)).before args0 about1 = true := code_word (m := ⟨7, 5⟩) (meth := k7m5) (c := k7c5) (by decide +kernel) rfl rfl rfl (by decide +kernel)
set_option maxRecDepth 65536 in
theorem w_c22 : (Jvm.Cond.code ({ cls := "java/lang/StringBuilder", name := "toString", desc := "()Ljava/lang/String;" } : Jvm.MethodName) jdk_67_method_42_code (1 : Nat) (Option.some (Jvm.ClassFile.FieldType.object "java/lang/String"))).before args0 about1 = true := code_word (m := ⟨14, 3⟩) (meth := k14m3) (c := k14c3) (by decide +kernel) rfl rfl rfl (by decide +kernel)
set_option maxRecDepth 65536 in
theorem w_c23 : (Jvm.Cond.code ({ cls := "java/lang/String", name := "<init>", desc := "(Ljava/lang/StringBuilder;)V" } : Jvm.MethodName) jdk_42_method_53_code (2 : Nat) (Option.none : Option Jvm.ClassFile.FieldType)).before args0 about1 = true := code_word (m := ⟨7, 2⟩) (meth := k7m2) (c := k7c2) (by decide +kernel) rfl rfl rfl (by decide +kernel)
set_option maxRecDepth 65536 in
theorem w_c24 : (Jvm.Cond.code ({ cls := "java/lang/String", name := "<init>", desc := "(Ljava/lang/AbstractStringBuilder;Ljava/lang/Void;)V" } : Jvm.MethodName) jdk_42_method_150_code (5 : Nat) (Option.none : Option Jvm.ClassFile.FieldType)).before args0 about1 = true := code_word (m := ⟨7, 7⟩) (meth := k7m7) (c := k7c7) (by decide +kernel) rfl rfl rfl (by decide +kernel)
set_option maxRecDepth 65536 in
theorem w_c25 : (Jvm.Cond.code ({ cls := "java/lang/AbstractStringBuilder", name := "getValue", desc := "()[B" } : Jvm.MethodName) jdk_68_method_64_code (1 : Nat) (Option.some (Jvm.ClassFile.FieldType.array Jvm.ClassFile.FieldType.byte))).before args0 about1 = true := code_word (m := ⟨13, 7⟩) (meth := k13m7) (c := k13c7) (by decide +kernel) rfl rfl rfl (by decide +kernel)
set_option maxRecDepth 65536 in
theorem w_c26 : (Jvm.Cond.code ({ cls := "java/lang/StringBuilder", name := "length", desc := "()I" } : Jvm.MethodName) jdk_67_method_93_code (1 : Nat) (Option.some Jvm.ClassFile.FieldType.int)).before args0 about1 = true := code_word (m := ⟨14, 4⟩) (meth := k14m4) (c := k14c4) (by decide +kernel) rfl rfl rfl (by decide +kernel)
set_option maxRecDepth 65536 in
theorem w_c27 : (Jvm.Cond.code ({ cls := "java/lang/AbstractStringBuilder", name := "length", desc := "()I" } : Jvm.MethodName) jdk_68_method_6_code (1 : Nat) (Option.some Jvm.ClassFile.FieldType.int)).before args0 about1 = true := code_word (m := ⟨13, 2⟩) (meth := k13m2) (c := k13c2) (by decide +kernel) rfl rfl rfl (by decide +kernel)
set_option maxRecDepth 65536 in
theorem w_c28 : (Jvm.Cond.code ({ cls := "java/lang/AbstractStringBuilder", name := "isLatin1", desc := "()Z" } : Jvm.MethodName) jdk_68_method_68_code (1 : Nat) (Option.some Jvm.ClassFile.FieldType.boolean)).before args0 about1 = true := code_word (m := ⟨13, 8⟩) (meth := k13m8) (c := k13c8) (by decide +kernel) rfl rfl rfl (by decide +kernel)
set_option maxRecDepth 65536 in
theorem w_c29 : (Jvm.Cond.code ({ cls := "java/util/Arrays", name := "copyOfRange", desc := "([BII)[B" } : Jvm.MethodName) jdk_65_method_132_code (3 : Nat) (Option.some (Jvm.ClassFile.FieldType.array Jvm.ClassFile.FieldType.byte))).before args0 about1 = true := code_word (m := ⟨16, 3⟩) (meth := k16m3) (c := k16c3) (by decide +kernel) rfl rfl rfl (by decide +kernel)
set_option maxRecDepth 65536 in
theorem w_c30 : (Jvm.Cond.code ({ cls := "java/util/Arrays", name := "copyOfRangeByte", desc := "([BII)[B" } : Jvm.MethodName) jdk_65_method_133_code (5 : Nat) (Option.some (Jvm.ClassFile.FieldType.array Jvm.ClassFile.FieldType.byte))).before args0 about1 = true := code_word (m := ⟨16, 4⟩) (meth := k16m4) (c := k16c4) (by decide +kernel) rfl rfl rfl (by decide +kernel)
set_option maxRecDepth 65536 in
theorem w_c31 : (Jvm.Cond.code ({ cls := "java/util/Arrays", name := "checkLength", desc := "(II)V" } : Jvm.MethodName) jdk_65_method_131_code (2 : Nat) (Option.none : Option Jvm.ClassFile.FieldType)).before args0 about1 = true := code_word (m := ⟨16, 2⟩) (meth := k16m2) (c := k16c2) (by decide +kernel) rfl rfl rfl (by decide +kernel)
set_option maxRecDepth 65536 in
theorem w_c32 : (Jvm.Cond.code ({ cls := "java/lang/Math", name := "min", desc := "(II)I" } : Jvm.MethodName) jdk_29_method_69_code (2 : Nat) (Option.some Jvm.ClassFile.FieldType.int)).before args0 about1 = true := code_word (m := ⟨17, 2⟩) (meth := k17m2) (c := k17c2) (by decide +kernel) rfl rfl rfl (by decide +kernel)
set_option maxRecDepth 65536 in
theorem w_c33 : (Jvm.Cond.code ({ cls := "java/lang/String", name := "charAt", desc := "(I)C" } : Jvm.MethodName) jdk_42_method_56_code (2 : Nat) (Option.some Jvm.ClassFile.FieldType.char)).before args0 about1 = true := code_word (m := ⟨7, 4⟩) (meth := k7m4) (c := k7c4) (by decide +kernel) rfl rfl rfl (by decide +kernel)
set_option maxRecDepth 65536 in
theorem w_c34 : (Jvm.Cond.code ({ cls := "java/lang/String", name := "isLatin1", desc := "()Z" } : Jvm.MethodName) jdk_42_method_154_code (1 : Nat) (Option.some Jvm.ClassFile.FieldType.boolean)).before args0 about1 = true := code_word (m := ⟨7, 9⟩) (meth := k7m9) (c := k7c9) (by decide +kernel) rfl rfl rfl (by decide +kernel)
set_option maxRecDepth 65536 in
theorem w_c35 : (Jvm.Cond.code ({ cls := "java/lang/StringLatin1", name := "charAt", desc := "([BI)C" } : Jvm.MethodName) jdk_43_method_2_code (2 : Nat) (Option.some Jvm.ClassFile.FieldType.char)).before args0 about1 = true := code_word (m := ⟨18, 1⟩) (meth := k18m1) (c := k18c1) (by decide +kernel) rfl rfl rfl (by decide +kernel)
set_option maxRecDepth 65536 in
theorem w_c36 : (Jvm.Cond.code ({ cls := "java/lang/String", name := "checkIndex", desc := "(II)V" } : Jvm.MethodName) jdk_42_method_155_code (2 : Nat) (Option.none : Option Jvm.ClassFile.FieldType)).before args0 about1 = true := code_word (m := ⟨7, 10⟩) (meth := k7m10) (c := k7c10) (by decide +kernel) rfl rfl rfl (by decide +kernel)
set_option maxRecDepth 65536 in
theorem w_c37 : (Jvm.Cond.code ({ cls := "jdk/internal/util/Preconditions", name := "checkIndex", desc := "(IILjava/util/function/BiFunction;)I" } : Jvm.MethodName) jdk_41_method_11_code (3 : Nat) (Option.some Jvm.ClassFile.FieldType.int)).before args0 about1 = true := code_word (m := ⟨19, 1⟩) (meth := k19m1) (c := k19c1) (by decide +kernel) rfl rfl rfl (by decide +kernel)
set_option maxRecDepth 65536 in
theorem w_c38 : (Jvm.Cond.code ({ cls := "java/lang/StringBuilder", name := "append", desc := "(I)Ljava/lang/StringBuilder;" } : Jvm.MethodName) jdk_67_method_15_code (2 : Nat) (Option.some (Jvm.ClassFile.FieldType.object "java/lang/StringBuilder"))).before args0 about1 = true := code_word (m := ⟨14, 2⟩) (meth := k14m2) (c := k14c2) (by decide +kernel) rfl rfl rfl (by decide +kernel)
set_option maxRecDepth 65536 in
theorem w_c39 : (Jvm.Cond.code ({ cls := "java/lang/AbstractStringBuilder", name := "append", desc := "(I)Ljava/lang/AbstractStringBuilder;" } : Jvm.MethodName) jdk_68_method_32_code (4 : Nat) (Option.some (Jvm.ClassFile.FieldType.object "java/lang/AbstractStringBuilder"))).before args0 about1 = true := code_word (m := ⟨13, 6⟩) (meth := k13m6) (c := k13c6) (by decide +kernel) rfl rfl rfl (by decide +kernel)
set_option maxRecDepth 65536 in
theorem w_c40 : (Jvm.Cond.code ({ cls := "java/lang/Integer", name := "stringSize", desc := "(I)I" } : Jvm.MethodName) jdk_33_method_13_code (4 : Nat) (Option.some Jvm.ClassFile.FieldType.int)).before args0 about1 = true := code_word (m := ⟨21, 1⟩) (meth := k21m1) (c := k21c1) (by decide +kernel) rfl rfl rfl (by decide +kernel)
set_option maxRecDepth 65536 in
theorem w_c41 : (Jvm.Cond.code ({ cls := "java/lang/Integer", name := "getChars", desc := "(II[B)I" } : Jvm.MethodName) jdk_33_method_12_code (7 : Nat) (Option.some Jvm.ClassFile.FieldType.int)).before args0 about1 = true := code_word (m := ⟨21, 0⟩) (meth := k21m0) (c := k21c0) (by decide +kernel) rfl rfl rfl (by decide +kernel)
set_option maxRecDepth 65536 in
theorem w_c42 : (Jvm.Cond.code ({ cls := "com/example/slackline/slackline/instance/InputExceptionDescribePinLaw", name := "digits", desc := "(I)I" } : Jvm.MethodName) method_3_code (1 : Nat) (Option.some Jvm.ClassFile.FieldType.int)).before args0 about1 = true := code_word (m := ⟨1, 2⟩) (meth := k1m2) (c := k1c2) (by decide +kernel) rfl rfl rfl (by decide +kernel)
set_option maxRecDepth 65536 in
theorem w_c43 : (Jvm.Cond.code ({ cls := "com/example/slackline/slackline/instance/InputExceptionDescribePinLaw", name := "digitOk", desc := "(Ljava/lang/String;III)Z" } : Jvm.MethodName) method_5_code (7 : Nat) (Option.some Jvm.ClassFile.FieldType.boolean)).before args0 about1 = true := code_word (m := ⟨1, 4⟩) (meth := k1m4) (c := k1c4) (by decide +kernel) rfl rfl rfl (by decide +kernel)
set_option maxRecDepth 65536 in
theorem w_c44 : (Jvm.Cond.code ({ cls := "com/example/slackline/slackline/instance/InputExceptionDescribePinLaw", name := "pow10", desc := "(I)J" } : Jvm.MethodName) method_4_code (2 : Nat) (Option.some Jvm.ClassFile.FieldType.long)).before args0 about1 = true := code_word (m := ⟨1, 3⟩) (meth := k1m3) (c := k1c3) (by decide +kernel) rfl rfl rfl (by decide +kernel)
set_option maxRecDepth 65536 in
theorem w_c45 : (Jvm.Cond.code ({ cls := "java/lang/AbstractStringBuilder", name := "newCapacity", desc := "(I)I" } : Jvm.MethodName) jdk_68_method_10_code (6 : Nat) (Option.some Jvm.ClassFile.FieldType.int)).before args0 about1 = true := code_word (m := ⟨13, 4⟩) (meth := k13m4) (c := k13c4) (by decide +kernel) rfl rfl rfl (by decide +kernel)
set_option maxRecDepth 65536 in
theorem w_c46 : (Jvm.Cond.code ({ cls := "jdk/internal/util/ArraysSupport", name := "newLength", desc := "(III)I" } : Jvm.MethodName) jdk_48_method_27_code (4 : Nat) (Option.some Jvm.ClassFile.FieldType.int)).before args0 about1 = true := code_word (m := ⟨22, 1⟩) (meth := k22m1) (c := k22c1) (by decide +kernel) rfl rfl rfl (by decide +kernel)
set_option maxRecDepth 65536 in
theorem w_c47 : (Jvm.Cond.code ({ cls := "java/lang/Math", name := "max", desc := "(II)I" } : Jvm.MethodName) jdk_29_method_65_code (2 : Nat) (Option.some Jvm.ClassFile.FieldType.int)).before args0 about1 = true := code_word (m := ⟨17, 1⟩) (meth := k17m1) (c := k17c1) (by decide +kernel) rfl rfl rfl (by decide +kernel)
set_option maxRecDepth 65536 in
theorem w_c48 : (Jvm.Cond.code ({ cls := "java/util/Arrays", name := "copyOf", desc := "([BI)[B" } : Jvm.MethodName) jdk_65_method_121_code (3 : Nat) (Option.some (Jvm.ClassFile.FieldType.array Jvm.ClassFile.FieldType.byte))).before args0 about1 = true := code_word (m := ⟨16, 1⟩) (meth := k16m1) (c := k16c1) (by decide +kernel) rfl rfl rfl (by decide +kernel)
def codes1 : List Jvm.Cond := [Jvm.Cond.code x code maxLocals ret, Jvm.Cond.code ({ cls := "java/lang/String", name := "<init>", desc := "([C)V" } : Jvm.MethodName) jdk_42_method_3_code (2 : Nat) (Option.none : Option Jvm.ClassFile.FieldType), Jvm.Cond.code ({ cls := "java/lang/String", name := "<init>", desc := "([CIILjava/lang/Void;)V" } : Jvm.MethodName) jdk_42_method_149_code (6 : Nat) (Option.none : Option Jvm.ClassFile.FieldType), Jvm.Cond.code ({ cls := "java/lang/Object", name := "<init>", desc := "()V" } : Jvm.MethodName) object_method_1_code (1 : Nat) (Option.none : Option Jvm.ClassFile.FieldType), Jvm.Cond.code ({ cls := "java/lang/StringUTF16", name := "compress", desc := "([CII)[B" } : Jvm.MethodName) jdk_52_method_16_code (6 : Nat) (Option.some (Jvm.ClassFile.FieldType.array Jvm.ClassFile.FieldType.byte)), Jvm.Cond.code ({ cls := "java/lang/StringUTF16", name := "compress", desc := "([CI[BII)I" } : Jvm.MethodName) jdk_52_method_21_code (7 : Nat) (Option.some Jvm.ClassFile.FieldType.int), Jvm.Cond.code ({ cls := "java/lang/StringUTF16", name := "coderFromArrayLen", desc := "([BI)B" } : Jvm.MethodName) jdk_52_method_15_code (2 : Nat) (Option.some Jvm.ClassFile.FieldType.byte), Jvm.Cond.code ({ cls := "com/example/slackline/slackline/instance/InputException", name := "<init>", desc := "(ILjava/lang/String;)V" } : Jvm.MethodName) prog_19_method_1_code (3 : Nat) (Option.none : Option Jvm.ClassFile.FieldType), Jvm.Cond.code ({ cls := "java/lang/Exception", name := "<init>", desc := "(Ljava/lang/String;)V" } : Jvm.MethodName) jdk_59_method_2_code (2 : Nat) (Option.none : Option Jvm.ClassFile.FieldType), Jvm.Cond.code ({ cls := "java/lang/Throwable", name := "<init>", desc := "(Ljava/lang/String;)V" } : Jvm.MethodName) jdk_78_method_2_code (2 : Nat) (Option.none : Option Jvm.ClassFile.FieldType), Jvm.Cond.code ({ cls := "java/lang/Throwable", name := "<init>", desc := "()V" } : Jvm.MethodName) jdk_78_method_1_code (1 : Nat) (Option.none : Option Jvm.ClassFile.FieldType), Jvm.Cond.code ({ cls := "com/example/slackline/slackline/instance/InputException", name := "describe", desc := "(Ljava/lang/String;)Ljava/lang/String;" } : Jvm.MethodName) prog_19_method_2_code (2 : Nat) (Option.some (Jvm.ClassFile.FieldType.object "java/lang/String")), Jvm.Cond.code ({ cls := "java/lang/StringBuilder", name := "<init>", desc := "()V" } : Jvm.MethodName) jdk_67_method_1_code (1 : Nat) (Option.none : Option Jvm.ClassFile.FieldType), Jvm.Cond.code ({ cls := "java/lang/AbstractStringBuilder", name := "<init>", desc := "(I)V" } : Jvm.MethodName) jdk_68_method_2_code (2 : Nat) (Option.none : Option Jvm.ClassFile.FieldType), Jvm.Cond.code ({ cls := "java/lang/StringBuilder", name := "append", desc := "(Ljava/lang/String;)Ljava/lang/StringBuilder;" } : Jvm.MethodName) jdk_67_method_7_code (2 : Nat) (Option.some (Jvm.ClassFile.FieldType.object "java/lang/StringBuilder")), Jvm.Cond.code ({ cls := "java/lang/AbstractStringBuilder", name := "append", desc := "(Ljava/lang/String;)Ljava/lang/AbstractStringBuilder;" } : Jvm.MethodName) jdk_68_method_22_code (3 : Nat) (Option.some (Jvm.ClassFile.FieldType.object "java/lang/AbstractStringBuilder")), Jvm.Cond.code ({ cls := "java/lang/String", name := "length", desc := "()I" } : Jvm.MethodName) jdk_42_method_54_code (1 : Nat) (Option.some Jvm.ClassFile.FieldType.int), Jvm.Cond.code ({ cls := "java/lang/String", name := "coder", desc := "()B" } : Jvm.MethodName) jdk_42_method_152_code (1 : Nat) (Option.some Jvm.ClassFile.FieldType.byte), Jvm.Cond.code ({ cls := "java/lang/AbstractStringBuilder", name := "ensureCapacityInternal", desc := "(I)V" } : Jvm.MethodName) jdk_68_method_9_code (3 : Nat) (Option.none : Option Jvm.ClassFile.FieldType), Jvm.Cond.code ({ cls := "java/lang/AbstractStringBuilder", name := "putStringAt", desc := "(ILjava/lang/String;)V" } : Jvm.MethodName) jdk_68_method_73_code (3 : Nat) (Option.none : Option Jvm.ClassFile.FieldType), Jvm.Cond.code ({ cls := "java/lang/AbstractStringBuilder", name := "inflateIfNeededFor", desc := "(Ljava/lang/String;)V" } : Jvm.MethodName) jdk_68_method_71_code (2 : Nat) (Option.none : Option Jvm.ClassFile.FieldType), Jvm.Cond.code ({ cls := "java/lang/String", name := "getBytes", desc := "([BIB)V" } : Jvm.MethodName) jdk_42_method_147_code (4 : Nat) (Option.none : Option Jvm.ClassFile.FieldType), Jvm.Cond.code ({ cls := "java/lang/StringBuilder", name := "toString", desc := "()Ljava/lang/String;" } : Jvm.MethodName) jdk_67_method_42_code (1 : Nat) (Option.some (Jvm.ClassFile.FieldType.object "java/lang/String")), Jvm.Cond.code ({ cls := "java/lang/String", name := "<init>", desc := "(Ljava/lang/StringBuilder;)V" } : Jvm.MethodName) jdk_42_method_53_code (2 : Nat) (Option.none : Option Jvm.ClassFile.FieldType), Jvm.Cond.code ({ cls := "java/lang/String", name := "<init>", desc := "(Ljava/lang/AbstractStringBuilder;Ljava/lang/Void;)V" } : Jvm.MethodName) jdk_42_method_150_code (5 : Nat) (Option.none : Option Jvm.ClassFile.FieldType), Jvm.Cond.code ({ cls := "java/lang/AbstractStringBuilder", name := "getValue", desc := "()[B" } : Jvm.MethodName) jdk_68_method_64_code (1 : Nat) (Option.some (Jvm.ClassFile.FieldType.array Jvm.ClassFile.FieldType.byte)), Jvm.Cond.code ({ cls := "java/lang/StringBuilder", name := "length", desc := "()I" } : Jvm.MethodName) jdk_67_method_93_code (1 : Nat) (Option.some Jvm.ClassFile.FieldType.int), Jvm.Cond.code ({ cls := "java/lang/AbstractStringBuilder", name := "length", desc := "()I" } : Jvm.MethodName) jdk_68_method_6_code (1 : Nat) (Option.some Jvm.ClassFile.FieldType.int), Jvm.Cond.code ({ cls := "java/lang/AbstractStringBuilder", name := "isLatin1", desc := "()Z" } : Jvm.MethodName) jdk_68_method_68_code (1 : Nat) (Option.some Jvm.ClassFile.FieldType.boolean), Jvm.Cond.code ({ cls := "java/util/Arrays", name := "copyOfRange", desc := "([BII)[B" } : Jvm.MethodName) jdk_65_method_132_code (3 : Nat) (Option.some (Jvm.ClassFile.FieldType.array Jvm.ClassFile.FieldType.byte)), Jvm.Cond.code ({ cls := "java/util/Arrays", name := "copyOfRangeByte", desc := "([BII)[B" } : Jvm.MethodName) jdk_65_method_133_code (5 : Nat) (Option.some (Jvm.ClassFile.FieldType.array Jvm.ClassFile.FieldType.byte)), Jvm.Cond.code ({ cls := "java/util/Arrays", name := "checkLength", desc := "(II)V" } : Jvm.MethodName) jdk_65_method_131_code (2 : Nat) (Option.none : Option Jvm.ClassFile.FieldType), Jvm.Cond.code ({ cls := "java/lang/Math", name := "min", desc := "(II)I" } : Jvm.MethodName) jdk_29_method_69_code (2 : Nat) (Option.some Jvm.ClassFile.FieldType.int), Jvm.Cond.code ({ cls := "java/lang/String", name := "charAt", desc := "(I)C" } : Jvm.MethodName) jdk_42_method_56_code (2 : Nat) (Option.some Jvm.ClassFile.FieldType.char), Jvm.Cond.code ({ cls := "java/lang/String", name := "isLatin1", desc := "()Z" } : Jvm.MethodName) jdk_42_method_154_code (1 : Nat) (Option.some Jvm.ClassFile.FieldType.boolean), Jvm.Cond.code ({ cls := "java/lang/StringLatin1", name := "charAt", desc := "([BI)C" } : Jvm.MethodName) jdk_43_method_2_code (2 : Nat) (Option.some Jvm.ClassFile.FieldType.char), Jvm.Cond.code ({ cls := "java/lang/String", name := "checkIndex", desc := "(II)V" } : Jvm.MethodName) jdk_42_method_155_code (2 : Nat) (Option.none : Option Jvm.ClassFile.FieldType), Jvm.Cond.code ({ cls := "jdk/internal/util/Preconditions", name := "checkIndex", desc := "(IILjava/util/function/BiFunction;)I" } : Jvm.MethodName) jdk_41_method_11_code (3 : Nat) (Option.some Jvm.ClassFile.FieldType.int), Jvm.Cond.code ({ cls := "java/lang/StringBuilder", name := "append", desc := "(I)Ljava/lang/StringBuilder;" } : Jvm.MethodName) jdk_67_method_15_code (2 : Nat) (Option.some (Jvm.ClassFile.FieldType.object "java/lang/StringBuilder")), Jvm.Cond.code ({ cls := "java/lang/AbstractStringBuilder", name := "append", desc := "(I)Ljava/lang/AbstractStringBuilder;" } : Jvm.MethodName) jdk_68_method_32_code (4 : Nat) (Option.some (Jvm.ClassFile.FieldType.object "java/lang/AbstractStringBuilder")), Jvm.Cond.code ({ cls := "java/lang/Integer", name := "stringSize", desc := "(I)I" } : Jvm.MethodName) jdk_33_method_13_code (4 : Nat) (Option.some Jvm.ClassFile.FieldType.int), Jvm.Cond.code ({ cls := "java/lang/Integer", name := "getChars", desc := "(II[B)I" } : Jvm.MethodName) jdk_33_method_12_code (7 : Nat) (Option.some Jvm.ClassFile.FieldType.int), Jvm.Cond.code ({ cls := "com/example/slackline/slackline/instance/InputExceptionDescribePinLaw", name := "digits", desc := "(I)I" } : Jvm.MethodName) method_3_code (1 : Nat) (Option.some Jvm.ClassFile.FieldType.int), Jvm.Cond.code ({ cls := "com/example/slackline/slackline/instance/InputExceptionDescribePinLaw", name := "digitOk", desc := "(Ljava/lang/String;III)Z" } : Jvm.MethodName) method_5_code (7 : Nat) (Option.some Jvm.ClassFile.FieldType.boolean), Jvm.Cond.code ({ cls := "com/example/slackline/slackline/instance/InputExceptionDescribePinLaw", name := "pow10", desc := "(I)J" } : Jvm.MethodName) method_4_code (2 : Nat) (Option.some Jvm.ClassFile.FieldType.long), Jvm.Cond.code ({ cls := "java/lang/AbstractStringBuilder", name := "newCapacity", desc := "(I)I" } : Jvm.MethodName) jdk_68_method_10_code (6 : Nat) (Option.some Jvm.ClassFile.FieldType.int), Jvm.Cond.code ({ cls := "jdk/internal/util/ArraysSupport", name := "newLength", desc := "(III)I" } : Jvm.MethodName) jdk_48_method_27_code (4 : Nat) (Option.some Jvm.ClassFile.FieldType.int), Jvm.Cond.code ({ cls := "java/lang/Math", name := "max", desc := "(II)I" } : Jvm.MethodName) jdk_29_method_65_code (2 : Nat) (Option.some Jvm.ClassFile.FieldType.int), Jvm.Cond.code ({ cls := "java/util/Arrays", name := "copyOf", desc := "([BI)[B" } : Jvm.MethodName) jdk_65_method_121_code (3 : Nat) (Option.some (Jvm.ClassFile.FieldType.array Jvm.ClassFile.FieldType.byte))]
set_option maxRecDepth 65536 in
theorem codes_eq : words1.filter isCode = codes1 := rfl
theorem w_codes : ∀ c ∈ words1.filter isCode, c.before args0 about1 = true := by
  rw [codes_eq]
  intro c hc
  simp only [codes1, List.mem_cons, List.not_mem_nil, or_false] at hc
  rcases hc with rfl | rfl | rfl | rfl | rfl | rfl | rfl | rfl | rfl | rfl | rfl | rfl | rfl | rfl | rfl | rfl | rfl | rfl | rfl | rfl | rfl | rfl | rfl | rfl | rfl | rfl | rfl | rfl | rfl | rfl | rfl | rfl | rfl | rfl | rfl | rfl | rfl | rfl | rfl | rfl | rfl | rfl | rfl | rfl | rfl | rfl | rfl | rfl | rfl
  · exact w_c0
  · exact w_c1
  · exact w_c2
  · exact w_c3
  · exact w_c4
  · exact w_c5
  · exact w_c6
  · exact w_c7
  · exact w_c8
  · exact w_c9
  · exact w_c10
  · exact w_c11
  · exact w_c12
  · exact w_c13
  · exact w_c14
  · exact w_c15
  · exact w_c16
  · exact w_c17
  · exact w_c18
  · exact w_c19
  · exact w_c20
  · exact w_c21
  · exact w_c22
  · exact w_c23
  · exact w_c24
  · exact w_c25
  · exact w_c26
  · exact w_c27
  · exact w_c28
  · exact w_c29
  · exact w_c30
  · exact w_c31
  · exact w_c32
  · exact w_c33
  · exact w_c34
  · exact w_c35
  · exact w_c36
  · exact w_c37
  · exact w_c38
  · exact w_c39
  · exact w_c40
  · exact w_c41
  · exact w_c42
  · exact w_c43
  · exact w_c44
  · exact w_c45
  · exact w_c46
  · exact w_c47
  · exact w_c48
set_option maxRecDepth 65536 in
theorem w_t1 : (words1.take 24).all (fun c => isCode c || c.before args0 about1) = true := by decide +kernel
set_option maxRecDepth 65536 in
theorem w_t2 : ((words1.drop 24).take 24).all (fun c => isCode c || c.before args0 about1) = true := by decide +kernel
set_option maxRecDepth 65536 in
theorem w_t3 : (((words1.drop 24).drop 24).take 24).all (fun c => isCode c || c.before args0 about1) = true := by decide +kernel
set_option maxRecDepth 65536 in
theorem w_t4 : ((((words1.drop 24).drop 24).drop 24).take 24).all (fun c => isCode c || c.before args0 about1) = true := by decide +kernel
set_option maxRecDepth 65536 in
theorem w_t5 : (((((words1.drop 24).drop 24).drop 24).drop 24).take 24).all (fun c => isCode c || c.before args0 about1) = true := by decide +kernel
set_option maxRecDepth 65536 in
theorem w_t6 : ((((((words1.drop 24).drop 24).drop 24).drop 24).drop 24).take 24).all (fun c => isCode c || c.before args0 about1) = true := by decide +kernel
set_option maxRecDepth 65536 in
theorem w_t7 : (((((((words1.drop 24).drop 24).drop 24).drop 24).drop 24).drop 24).take 24).all (fun c => isCode c || c.before args0 about1) = true := by decide +kernel
set_option maxRecDepth 65536 in
theorem w_t8 : ((((((((words1.drop 24).drop 24).drop 24).drop 24).drop 24).drop 24).drop 24).take 24).all (fun c => isCode c || c.before args0 about1) = true := by decide +kernel
set_option maxRecDepth 65536 in
theorem w_t9 : (((((((((words1.drop 24).drop 24).drop 24).drop 24).drop 24).drop 24).drop 24).drop 24).take 24).all (fun c => isCode c || c.before args0 about1) = true := by decide +kernel
set_option maxRecDepth 65536 in
theorem w_t10 : ((((((((((words1.drop 24).drop 24).drop 24).drop 24).drop 24).drop 24).drop 24).drop 24).drop 24).take 24).all (fun c => isCode c || c.before args0 about1) = true := by decide +kernel
set_option maxRecDepth 65536 in
theorem w_t11 : (((((((((((words1.drop 24).drop 24).drop 24).drop 24).drop 24).drop 24).drop 24).drop 24).drop 24).drop 24).take 24).all (fun c => isCode c || c.before args0 about1) = true := by decide +kernel
set_option maxRecDepth 65536 in
theorem w_t12 : ((((((((((((words1.drop 24).drop 24).drop 24).drop 24).drop 24).drop 24).drop 24).drop 24).drop 24).drop 24).drop 24).take 24).all (fun c => isCode c || c.before args0 about1) = true := by decide +kernel
set_option maxRecDepth 65536 in
theorem w_t13 : ((((((((((((words1.drop 24).drop 24).drop 24).drop 24).drop 24).drop 24).drop 24).drop 24).drop 24).drop 24).drop 24).drop 24).all (fun c => isCode c || c.before args0 about1) = true := by decide +kernel
theorem w_tables : (allAtoms (Jvm.Cond.code x code maxLocals ret :: tables_1)).before args0 about1 = true := by
  rw [allAtoms_all]
  show words1.all (fun c => c.before args0 about1) = true
  refine all_split ?_ w_codes
  rw [← List.take_append_drop 24 words1, List.all_append, w_t1, ← List.take_append_drop 24 (words1.drop 24), List.all_append, w_t2, ← List.take_append_drop 24 ((words1.drop 24).drop 24), List.all_append, w_t3, ← List.take_append_drop 24 (((words1.drop 24).drop 24).drop 24), List.all_append, w_t4, ← List.take_append_drop 24 ((((words1.drop 24).drop 24).drop 24).drop 24), List.all_append, w_t5, ← List.take_append_drop 24 (((((words1.drop 24).drop 24).drop 24).drop 24).drop 24), List.all_append, w_t6, ← List.take_append_drop 24 ((((((words1.drop 24).drop 24).drop 24).drop 24).drop 24).drop 24), List.all_append, w_t7, ← List.take_append_drop 24 (((((((words1.drop 24).drop 24).drop 24).drop 24).drop 24).drop 24).drop 24), List.all_append, w_t8, ← List.take_append_drop 24 ((((((((words1.drop 24).drop 24).drop 24).drop 24).drop 24).drop 24).drop 24).drop 24), List.all_append, w_t9, ← List.take_append_drop 24 (((((((((words1.drop 24).drop 24).drop 24).drop 24).drop 24).drop 24).drop 24).drop 24).drop 24), List.all_append, w_t10, ← List.take_append_drop 24 ((((((((((words1.drop 24).drop 24).drop 24).drop 24).drop 24).drop 24).drop 24).drop 24).drop 24).drop 24), List.all_append, w_t11, ← List.take_append_drop 24 (((((((((((words1.drop 24).drop 24).drop 24).drop 24).drop 24).drop 24).drop 24).drop 24).drop 24).drop 24).drop 24), List.all_append, w_t12, w_t13]
  rfl
set_option maxRecDepth 65536 in
theorem w_rest : rest_1_c.before args0 about1 = true := by decide +kernel
set_option maxRecDepth 65536 in
theorem w_case : (Jvm.Cond.and given_1 narrow_1).before args0 about1 = true := by decide +kernel
set_option maxRecDepth 65536 in
theorem w_consts : constsHeld consts_1 about1 := Jvm.Lit.constsHeldB_iff.mp (by decide +kernel)
theorem w_applies : (headSpec (Jvm.Cond.code x code maxLocals ret :: tables_1) room_1).applies x e0.platform about1 = true :=
  (Spec.applies_iff w_frames).mpr ⟨w_running, w_runnable, w_alone, w_named, w_hears, w_ripe, w_room, w_tables⟩
theorem atStart : AtStart classFile x code maxLocals ret World_1 tables_1 room_1 Calls_1 rest_1 Pre_1 launch0 p0 e0 about1 theMethod args0 below0 :=
  ⟨lists_1, trivial, launch0.admits_env _ _ _, launch0.least_env, fairChoices_fair.cas, fairChoices_fair.clock, w_frames, w_args, w_heap, w_applies, ⟨(by decide +kernel : framesKnown about1 = true), ⟨(by decide +kernel : tablesKnown about1 = true), ⟨w_consts, trivial⟩⟩⟩, w_rest, w_case⟩
end start1
theorem witness_1 : WitnessClaimed_1 := ⟨start1.p0, start1.e0, start1.about1, start1.theMethod, start1.args0, start1.below0, start1.atStart⟩
end Jvm.Pilot.@@N@@
