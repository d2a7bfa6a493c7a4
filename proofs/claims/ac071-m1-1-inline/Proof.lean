import JvmDerived
import JvmDerived.Pilot.@@N@@Statement
import JvmDerived.Pilot.@@N@@Code
set_option linter.unusedVariables false
set_option linter.unusedSimpArgs false
set_option maxRecDepth 65536
set_option maxHeartbeats 40000000
namespace Jvm.OwnKit
open Sem ClassFile Op Lib Jvm.Stand Jvm.Free Jvm.LawKit Jvm.RoadKit
/-- the contract of a body: from these arguments at this heap it returns, and Q says what it left -/
abbrev Con (l : Launch) (Z : State) (y : MethodName) (bytes : ByteArray) (maxL : Nat) (ret : Option FieldType) (ws : List Jvm.Cond) (rm : Room) (as' : Array Value) (h0 : Heap) (Q : Option Value → Heap → List Loc → Prop) : Prop :=
  MetFree l y (head1 (Jvm.Cond.code y bytes maxL ret :: ws) rm) (fun a U => a = as' ∧ Z.Warmed39 U.vm ∧ U.heap = h0) (fun _ _ _ _ _ => True) (fun _ U o U' => ∃ v L, o = .returned v ∧ Q v U'.heap L ∧ FrameEnd U o U' L rm.cells rm.slots)
/-- how a body ends -/
abbrev EndQ (s : State) (rm : Room) (Q : Option Value → Heap → List Loc → Prop) : Outcome → State → Prop := fun o t => ∃ v L, o = .returned v ∧ Q v t.heap L ∧ FrameEnd s o t L rm.cells rm.slots
/-- from this frame on the body comes to its end, and Qe holds there -/
def OGo (p : Program) (e : Env) (below : List Frame) (Qe : Outcome → State → Prop) (T : State) (g : JFrame) : Prop :=
  ∃ s₂ o, Steps p.tables e below (T.setTop g) s₂ ∧ s₂.status = .running ∧ Ended s₂ below o ∧ Qe o s₂
section K
variable {p : Program} {l : Launch} {e : Env} {R : Room} {s : State} {m : MethodId} {args : Array Value} {below : List Frame} {meth : Method} {c : Code} {T T' : State} {locs : List Loc} {cells slots : Nat} {Qe : Outcome → State → Prop} {g g' : JFrame} {Z : State} {a0 : Array Value} {h : Heap}
theorem OGo.step (st : ∀ t, Steps p.tables e below (T'.setTop g') t → Steps p.tables e below (T.setTop g) t) (k : OGo p e below Qe T' g') : OGo p e below Qe T g := by
  obtain ⟨s₂, o, h1, h2⟩ := k
  exact ⟨s₂, o, st _ h1, h2⟩
theorem OGo.cast (q : g' = g) (k : OGo p e below Qe T g') : OGo p e below Qe T g := q ▸ k
theorem Con.intro {y : MethodName} {bytes : ByteArray} {maxL : Nat} {ret : Option FieldType} {ws : List Jvm.Cond} {rm : Room} {as' : Array Value} {h0 : Heap} {Q : Option Value → Heap → List Loc → Prop} (hpl : plainFor y = true)
    (body : ∀ (p : Program) (e : Env) (s : State) (m : MethodId) (below : List Frame) (meth : Method) (c : Code) (s₁ : State), p.tables.exec = Jvm.exec → c.code = bytes → c.maxLocals = maxL → s.vm.findClass y.cls = some m.cls →
      meth.sig.returnType = ret → meth.locks = false → Z.Warmed39 s.vm → meth.name = y.name → Stand p l e rm s m as' below meth c s₁ [] 0 0 → s₁.heap = h0 → OGo p e below (EndQ s rm Q) s₁ (entryFrame m as' maxL)) :
    Con l Z y bytes maxL ret ws rm as' h0 Q := by
  refine MetFree.of_bodySF hpl hisR ?_
  intro p e s m args below meth c s₁ Bd hml0 hP hK
  obtain ⟨rfl, hZ, hh⟩ := hP
  exact body p e s m below meth c s₁ Bd.exec Bd.bytes hml0 (findClass_of_methodNamed Bd.named) Bd.returns Bd.notSynchronized hZ (name_of_methodNamed Bd.named Bd.method).1 (Stand.of_body Bd) (by rw [← hh, Bd.state]; rfl)
theorem OGo.ret {Q : Option Value → Heap → List Loc → Prop} {rm : Room} (X : Stand p l e R s m args below meth c T locs cells slots) (hx : p.tables.exec = Jvm.exec) {pc : Nat} {Ls : Array Slot} {w : Value} {t : FieldType} {i : Instr} {rest : List Value} (hret : meth.sig.returnType = some t) (hlk : meth.locks = false) (hn : narrow t w = w)
    (hi : (i = .ireturn ∧ (t = .int ∨ t = .boolean ∨ t = .byte ∨ t = .char ∨ t = .short) ∧ ∃ z, w = .int z) ∨ (i = .lreturn ∧ t = .long ∧ ∃ z, w = .long z) ∨ (i = .dreturn ∧ t = .double ∧ ∃ z, w = .double z) ∨ (i = .freturn ∧ t = .float ∧ ∃ z, w = .float z) ∨ (i = .areturn ∧ t.isReference = true ∧ w.isRef = true))
    (hd : decode c.code pc = .ok (i, 1)) (hc : cells ≤ rm.cells) (hs : slots ≤ rm.slots) (hQ : Q (some w) T.heap locs) : OGo p e below (EndQ s rm Q) T (mkF m pc Ls (w :: rest)) := by
  obtain ⟨fs, hr, hrun, hended, hW, hsame⟩ := X.leave (v := some w) (fun h => by rw [hret] at h; cases h) hlk
  exact ⟨_, _, retOut X hx hret hn hi hd hr, hrun, hended, _, _, rfl, hQ, ⟨_, rfl⟩, hW, hsame.mono hc hs⟩
theorem OGo.retV {Q : Option Value → Heap → List Loc → Prop} {rm : Room} (X : Stand p l e R s m args below meth c T locs cells slots) (hx : p.tables.exec = Jvm.exec) {pc : Nat} {Ls : Array Slot} (hret : meth.sig.returnType = none) (hlk : meth.locks = false)
    (hd : decode c.code pc = .ok (.return_, 1)) (hc : cells ≤ rm.cells) (hs : slots ≤ rm.slots) (hQ : Q none T.heap locs) : OGo p e below (EndQ s rm Q) T (mkF m pc Ls []) := by
  obtain ⟨fs, hr, hrun, hended, hW, hsame⟩ := X.leave (v := none) (fun _ => rfl) hlk
  exact ⟨_, _, X.returnOut hx hret hd hr, hrun, hended, _, _, rfl, hQ, ⟨_, rfl⟩, hW, hsame.mono hc hs⟩
theorem riI {z : Int32} {t : FieldType} (ht : t = .int ∨ t = .boolean ∨ t = .byte ∨ t = .char ∨ t = .short) : (Instr.ireturn = .ireturn ∧ (t = .int ∨ t = .boolean ∨ t = .byte ∨ t = .char ∨ t = .short) ∧ ∃ y, Value.int z = .int y) ∨ (Instr.ireturn = .lreturn ∧ t = .long ∧ ∃ y, Value.int z = .long y) ∨ (Instr.ireturn = .dreturn ∧ t = .double ∧ ∃ y, Value.int z = .double y) ∨ (Instr.ireturn = .freturn ∧ t = .float ∧ ∃ y, Value.int z = .float y) ∨ (Instr.ireturn = .areturn ∧ t.isReference = true ∧ (Value.int z).isRef = true) := Or.inl ⟨rfl, ht, z, rfl⟩
/-- a static call by its contract -/
theorem scall (X : Stand p l e R s m args below meth c T locs cells slots) (hx : p.tables.exec = Jvm.exec) (hZ : Z.Warmed39 s.vm) {own : String} {index : Nat} {y : MethodName} {bytes : ByteArray} {maxL : Nat} {ret : Option FieldType} (hown : s.vm.findClass own = some m.cls)
    (w1 : (Jvm.Cond.methodLink own index y).before a0 Z = true) (w2 : (Jvm.Cond.static y).before a0 Z = true) (w3 : (Jvm.Cond.initialized y.cls).before a0 Z = true) (w4 : (Jvm.Cond.code y bytes maxL ret).before a0 Z = true) (hy : y.cls ≠ "java/lang/invoke/MethodHandle" ∧ y.cls ≠ "java/lang/invoke/VarHandle")
    {W : Nat} {rm : Room} {as' : Array Value} {Q : Option Value → Heap → List Loc → Prop} (hM : Con l Z y bytes maxL ret [] rm as' h Q) (eT : T.heap = h) (hf : rm.frames + 1 ≤ R.frames) (hl : W + (maxL + 11) + rm.locals ≤ R.locals) (hc : cells + rm.cells ≤ R.cells) (hs : slots + rm.slots ≤ R.slots)
    {g : JFrame} (hg : g.method = m) (hsize : g.locals.size = c.maxLocals) {argsL rest : List Value} {ps : List FieldType} {r : Option FieldType} (hpd : parseMethodDescriptor y.desc = some ⟨ps, r⟩) (hlen : argsL.length = ps.length) (hstack : g.stack = argsL.reverse ++ rest) (has : argsL.toArray = as') (hW : 2 * g.monitorRoom + (rest.map fun v => v.category).sum ≤ W)
    (hdg : decode c.code g.pc = .ok (.invokestatic index, 3)) :
    ∃ (v : Option Value) (T' : State) (L : List Loc), Stand p l e R s m args below meth c T' (locs ++ L) (cells + rm.cells) (slots + rm.slots) ∧ Q v T'.heap L ∧
      ∀ target, Steps p.tables e below (T'.setTop { g with pc := g.pc + 3, stack := v.toList ++ rest }) target → Steps p.tables e below (T.setTop g) target := by
  obtain ⟨v, vm₁, ⟨T', L', k', n'⟩, -, X', ⟨L, hQ, e1, e2, e3⟩, st⟩ := Jvm.LawKit.callS X hx hown (mvT hZ w1) (mvT hZ w2) (mvT hZ w3) (mvT hZ w4) hy (backOf (W := W) hM hZ w4 w3 hf hl) hg hsize (lenOf hpd hlen) hstack hW hdg (fun _ _ => ⟨has, eT, hc, hs⟩)
  dsimp only [Pt.U, Pt.locs, Pt.cells, Pt.slots] at X' e1 e2 e3 st hQ
  subst e1 e2 e3
  exact ⟨v, T', L, X', hQ, st⟩
/-- a constructor by its contract -/
theorem icall (X : Stand p l e R s m args below meth c T locs cells slots) (hx : p.tables.exec = Jvm.exec) (hZ : Z.Warmed39 s.vm) {own : String} {index : Nat} {y : MethodName} {bytes : ByteArray} {maxL : Nat} (hy1 : y.name = "<init>") (hown : s.vm.findClass own = some m.cls)
    (w1 : (Jvm.Cond.methodLink own index y).before a0 Z = true) (w2 : (Jvm.Cond.instanceMethod y).before a0 Z = true) (w3 : (Jvm.Cond.initialized y.cls).before a0 Z = true) (w4 : (Jvm.Cond.code y bytes maxL none).before a0 Z = true) (hy : y.cls ≠ "java/lang/invoke/MethodHandle" ∧ y.cls ≠ "java/lang/invoke/VarHandle")
    {W : Nat} {rm : Room} {as' : Array Value} {Q : Option Value → Heap → List Loc → Prop} (hM : Con l Z y bytes maxL none [] rm as' h Q) (eT : T.heap = h) (hf : rm.frames + 1 ≤ R.frames) (hl : W + (maxL + 11) + rm.locals ≤ R.locals) (hc : cells + rm.cells ≤ R.cells) (hs : slots + rm.slots ≤ R.slots)
    {g : JFrame} (hg : g.method = m) (hsize : g.locals.size = c.maxLocals) {a : Addr} {argsL rest : List Value} {ps : List FieldType} {r : Option FieldType} (hpd : parseMethodDescriptor y.desc = some ⟨ps, r⟩) (hlen : argsL.length = ps.length) (hstack : g.stack = argsL.reverse ++ .ref a :: rest) (has : (Value.ref a :: argsL).toArray = as') (hW : 2 * g.monitorRoom + (rest.map fun v => v.category).sum ≤ W)
    (hdg : decode c.code g.pc = .ok (.invokespecial index, 3)) :
    ∃ (v : Option Value) (T' : State) (L : List Loc), Stand p l e R s m args below meth c T' (locs ++ L) (cells + rm.cells) (slots + rm.slots) ∧ Q v T'.heap L ∧
      ∀ target, Steps p.tables e below (T'.setTop { g with pc := g.pc + 3, stack := v.toList ++ rest }) target → Steps p.tables e below (T.setTop g) target := by
  obtain ⟨v, vm₁, ⟨T', L', k', n'⟩, -, X', ⟨L, hQ, e1, e2, e3⟩, st⟩ := X.specialBack hx hy1 hown (mvT hZ w1) (mvT hZ w2) (mvT hZ w4) hy (backOf (W := W) hM hZ w4 w3 hf hl) hg hsize (Steps.refl _) (lenOf hpd hlen) hstack hW hdg (fun _ _ => ⟨has, eT, hc, hs⟩)
  dsimp only [Pt.U, Pt.locs, Pt.cells, Pt.slots] at X' e1 e2 e3 st hQ
  subst e1 e2 e3
  exact ⟨v, T', L, X', hQ, fun t k => st.trans k⟩
theorem own_nf {C : String} {x' y z : MethodName} (w : (Jvm.Cond.selects C x' z).before args s = true) (hz : z.cls = y.cls) : NotFace s y := fun r0 h0 => by
  obtain ⟨c2, r2, m2, q1, q2, q3, q4, kP, hkP, hkPi⟩ := Cond.selects_spec w
  have a := findClass_of_methodNamed q3
  have b := findClass_of_methodNamed h0
  rw [hz] at a
  have e : m2.cls = r0.cls := Option.some.inj (a.symm.trans b)
  exact ⟨kP, e ▸ hkP, hkPi⟩
/-- an instance method by the contract of the body that is selected -/
theorem vcall (X : Stand p l e R s m args below meth c T locs cells slots) (hx : p.tables.exec = Jvm.exec) (hZ : Z.Warmed39 s.vm) {own C : String} {index : Nat} {y z : MethodName} {bytes : ByteArray} {maxL : Nat} {ret : Option FieldType} (hown : s.vm.findClass own = some m.cls)
    (w1 : (Jvm.Cond.methodLink own index y).before a0 Z = true) (w2 : (Jvm.Cond.declares y).before a0 Z = true) {C2 : String} {x2 z2 : MethodName} (w7 : (Jvm.Cond.selects C2 x2 z2).before a0 Z = true) (h7 : z2.cls = y.cls) (w5 : (Jvm.Cond.selects C y z).before a0 Z = true) (w6 : (Jvm.Cond.instanceMethod z).before a0 Z = true) (w3 : (Jvm.Cond.initialized z.cls).before a0 Z = true) (w4 : (Jvm.Cond.code z bytes maxL ret).before a0 Z = true) (hy : y.cls ≠ "java/lang/invoke/MethodHandle" ∧ y.cls ≠ "java/lang/invoke/VarHandle")
    {W : Nat} {rm : Room} {as' : Array Value} {Q : Option Value → Heap → List Loc → Prop} (hM : Con l Z z bytes maxL ret [] rm as' h Q) (eT : T.heap = h) (hf : rm.frames + 1 ≤ R.frames) (hl : W + (maxL + 11) + rm.locals ≤ R.locals) (hc : cells + rm.cells ≤ R.cells) (hs : slots + rm.slots ≤ R.slots)
    {g : JFrame} (hg : g.method = m) (hsize : g.locals.size = c.maxLocals) {a : Addr} (E : Exa Z h a C) {argsL rest : List Value} {ps : List FieldType} {r : Option FieldType} (hpd : parseMethodDescriptor y.desc = some ⟨ps, r⟩) (hlen : argsL.length = ps.length) (hstack : g.stack = argsL.reverse ++ .ref a :: rest) (has : (Value.ref a :: argsL).toArray = as') (hW : 2 * g.monitorRoom + (rest.map fun v => v.category).sum ≤ W)
    (hdg : decode c.code g.pc = .ok (.invokevirtual index, 3)) :
    ∃ (v : Option Value) (T' : State) (L : List Loc), Stand p l e R s m args below meth c T' (locs ++ L) (cells + rm.cells) (slots + rm.slots) ∧ Q v T'.heap L ∧
      ∀ target, Steps p.tables e below (T'.setTop { g with pc := g.pc + 3, stack := v.toList ++ rest }) target → Steps p.tables e below (T.setTop g) target := by
  obtain ⟨cq, kq, qa, qb, qc⟩ := isOf hZ eT E
  obtain ⟨v, vm₁, ⟨T', L', k', n'⟩, -, X', ⟨L, hQ, e1, e2, e3⟩, st⟩ := X.virtualBack hx hown (mvT hZ w1) (mvT hZ w2) (own_nf (args := #[]) (mvT hZ w7) h7) (mvT hZ w5) (mvT hZ w6) hy (backOf (W := W) hM hZ w4 w3 hf hl) qa qc hg hsize (Steps.refl _) (lenOf hpd hlen) hstack hW hdg (fun _ _ => ⟨has, eT, hc, hs⟩)
  dsimp only [Pt.U, Pt.locs, Pt.cells, Pt.slots] at X' e1 e2 e3 st hQ
  subst e1 e2 e3
  exact ⟨v, T', L, X', hQ, fun t k => st.trans k⟩
/-- a private instance method by its contract -/
theorem pcall (X : Stand p l e R s m args below meth c T locs cells slots) (hx : p.tables.exec = Jvm.exec) (hZ : Z.Warmed39 s.vm) {own C C' : String} {index : Nat} {y : MethodName} {bytes : ByteArray} {maxL : Nat} {ret : Option FieldType} (hown : s.vm.findClass own = some m.cls)
    (w1 : (Jvm.Cond.methodLink own index y).before a0 Z = true) (w2 : (Jvm.Cond.instanceMethod y).before a0 Z = true) (w5 : (Jvm.Cond.selects C' y y).before a0 Z = true) (w6 : (Jvm.Cond.privateMethod y).before a0 Z = true) (w3 : (Jvm.Cond.initialized y.cls).before a0 Z = true) (w4 : (Jvm.Cond.code y bytes maxL ret).before a0 Z = true) (hy : y.cls ≠ "java/lang/invoke/MethodHandle" ∧ y.cls ≠ "java/lang/invoke/VarHandle")
    {W : Nat} {rm : Room} {as' : Array Value} {Q : Option Value → Heap → List Loc → Prop} (hM : Con l Z y bytes maxL ret [] rm as' h Q) (eT : T.heap = h) (hf : rm.frames + 1 ≤ R.frames) (hl : W + (maxL + 11) + rm.locals ≤ R.locals) (hc : cells + rm.cells ≤ R.cells) (hs : slots + rm.slots ≤ R.slots)
    {g : JFrame} (hg : g.method = m) (hsize : g.locals.size = c.maxLocals) {a : Addr} (E : Exa Z h a C) {argsL rest : List Value} {ps : List FieldType} {r : Option FieldType} (hpd : parseMethodDescriptor y.desc = some ⟨ps, r⟩) (hlen : argsL.length = ps.length) (hstack : g.stack = argsL.reverse ++ .ref a :: rest) (has : (Value.ref a :: argsL).toArray = as') (hW : 2 * g.monitorRoom + (rest.map fun v => v.category).sum ≤ W)
    (hdg : decode c.code g.pc = .ok (.invokevirtual index, 3)) :
    ∃ (v : Option Value) (T' : State) (L : List Loc), Stand p l e R s m args below meth c T' (locs ++ L) (cells + rm.cells) (slots + rm.slots) ∧ Q v T'.heap L ∧
      ∀ target, Steps p.tables e below (T'.setTop { g with pc := g.pc + 3, stack := v.toList ++ rest }) target → Steps p.tables e below (T.setTop g) target := by
  obtain ⟨cq, q1, q2⟩ := E.cell
  have hp := Cond.privateMethod_at (mvP hZ w6 (args := #[]))
  have hsel : (Jvm.Cond.selects y.cls y y).before args s = true := by
    have w5' : (Jvm.Cond.selects C' y y).before args s = true := mvT hZ w5
    obtain ⟨c2, r2, m2, -, -, q3, -, kP, hkP, hkPi⟩ := Cond.selects_spec w5'
    exact selects_self_of_private (findClass_of_methodNamed q3) hkP hkPi hp (mvT hZ w2) hy
  obtain ⟨v, vm₁, ⟨T', L', k', n'⟩, -, X', ⟨L, hQ, e1, e2, e3⟩, st⟩ := X.privateBack hx hown (mvT hZ w1) (mvT hZ w2) hsel hp (mvT hZ w4) hy (backOf (W := W) hM hZ w4 w3 hf hl) hg hsize (Steps.refl _) (by rw [eT]; exact q1) q2 (lenOf hpd hlen) hstack hW hdg (fun _ _ => ⟨has, eT, hc, hs⟩)
  dsimp only [Pt.U, Pt.locs, Pt.cells, Pt.slots] at X' e1 e2 e3 st hQ
  subst e1 e2 e3
  exact ⟨v, T', L, X', hQ, fun t k => st.trans k⟩
theorem own_same {C : String} {x' y z : MethodName} (w : (Jvm.Cond.selects C x' z).before a0 Z = true) (hz : z.cls = y.cls) (wi : (Jvm.Cond.instanceMethod y).before a0 Z = true) (hy : y.cls ≠ "java/lang/invoke/MethodHandle" ∧ y.cls ≠ "java/lang/invoke/VarHandle") : (Jvm.Cond.sameMethod y.cls y.cls y.name y.desc).before a0 Z = true := by
  obtain ⟨mk, methM, hnamed, hmethM, -, -⟩ := Cond.instanceMethod_spec wi
  obtain ⟨c2, r2, m2, -, -, q3, -, kP, hkP, hkPi⟩ := Cond.selects_spec w
  have hc := findClass_of_methodNamed hnamed
  have hc2 := findClass_of_methodNamed q3
  rw [hz] at hc2
  have e : m2.cls = mk.cls := Option.some.inj (hc2.symm.trans hc)
  rw [e] at hkP
  have hfound : Z.methodFound? y.cls y.name y.desc = some mk := State.methodFound?_of_named hnamed hy
  have hn : Z.methodNamed? ⟨y.cls, y.name, y.desc⟩ = some mk := hnamed
  simp only [Cond.before, Cond.holds, Cond.value, hc, hfound, hn, hkP]
  simp [hkPi]
/-- super.m(..) by its contract -/
theorem ucall (X : Stand p l e R s m args below meth c T locs cells slots) (hx : p.tables.exec = Jvm.exec) (hZ : Z.Warmed39 s.vm) {own C : String} {index : Nat} {y : MethodName} {bytes : ByteArray} {maxL : Nat} {ret : Option FieldType} (hown : s.vm.findClass own = some m.cls)
    (w1 : (Jvm.Cond.methodLink own index y).before a0 Z = true) (w2 : (Jvm.Cond.sameMethod y.cls y.cls y.name y.desc).before a0 Z = true) (w5 : (Jvm.Cond.instanceMethod y).before a0 Z = true) (w6 : (Jvm.Cond.superclass own y.cls).before a0 Z = true) (w3 : (Jvm.Cond.initialized y.cls).before a0 Z = true) (w4 : (Jvm.Cond.code y bytes maxL ret).before a0 Z = true) (hy : y.name ≠ "<init>")
    {W : Nat} {rm : Room} {as' : Array Value} {Q : Option Value → Heap → List Loc → Prop} (hM : Con l Z y bytes maxL ret [] rm as' h Q) (eT : T.heap = h) (hf : rm.frames + 1 ≤ R.frames) (hl : W + (maxL + 11) + rm.locals ≤ R.locals) (hc : cells + rm.cells ≤ R.cells) (hs : slots + rm.slots ≤ R.slots)
    {g : JFrame} (hg : g.method = m) (hsize : g.locals.size = c.maxLocals) {a : Addr} (E : Exa Z h a C) {argsL rest : List Value} {ps : List FieldType} {r : Option FieldType} (hpd : parseMethodDescriptor y.desc = some ⟨ps, r⟩) (hlen : argsL.length = ps.length) (hstack : g.stack = argsL.reverse ++ .ref a :: rest) (has : (Value.ref a :: argsL).toArray = as') (hW : 2 * g.monitorRoom + (rest.map fun v => v.category).sum ≤ W)
    (hdg : decode c.code g.pc = .ok (.invokespecial index, 3)) :
    ∃ (v : Option Value) (T' : State) (L : List Loc), Stand p l e R s m args below meth c T' (locs ++ L) (cells + rm.cells) (slots + rm.slots) ∧ Q v T'.heap L ∧
      ∀ target, Steps p.tables e below (T'.setTop { g with pc := g.pc + 3, stack := v.toList ++ rest }) target → Steps p.tables e below (T.setTop g) target := by
  obtain ⟨v, vm₁, ⟨T', L', k', n'⟩, -, X', ⟨L, hQ, e1, e2, e3⟩, st⟩ := superBack X hx hZ hown w1 w2 w5 w6 hy (backOf (W := W) hM hZ w4 w3 hf hl) eT (Ins.self E) hg hsize w4 (lenOf hpd hlen) hstack hW hdg (fun _ _ => ⟨has, eT, hc, hs⟩)
  dsimp only [Pt.U, Pt.locs, Pt.cells, Pt.slots] at X' e1 e2 e3 st hQ
  subst e1 e2 e3
  exact ⟨v, T', L, X', hQ, fun t k => st.trans k⟩
variable {a : Addr} {k : ClassId} {ty : FieldType} {z j : Int32} {vs : List Value} {dv v : Value}
theorem alenV (X : Stand p l e R s m args below meth c T locs cells slots) (hx : p.tables.exec = Jvm.exec) (hZ : Z.Warmed39 s.vm) (eT : T.heap = h) (F : Arv Z h a k ty z vs dv) {g : JFrame} (hg : g.method = m) {rest : List Value} (hst : g.stack = .ref a :: rest) (hd : decode c.code g.pc = .ok (.arraylength, 1)) (target : State)
    (hr : Steps p.tables e below (T.setTop { g with pc := g.pc + 1, stack := .int z :: rest }) target) : Steps p.tables e below (T.setTop g) target := by
  obtain ⟨cl, Ar, -, S, N, -, -⟩ := F
  refine X.arraylength hx (by rw [eT]; exact Ar.1) (State.isArrayOf_alike hZ.alike Ar.2.1) hg hst hd _ ?_
  rw [len_of S N]
  exact hr
theorem caloadV (X : Stand p l e R s m args below meth c T locs cells slots) (hx : p.tables.exec = Jvm.exec) (hZ : Z.Warmed39 s.vm) (eT : T.heap = h) (F : Arv Z h a k .char z vs dv) (hj : ¬ j < 0 ∧ j < z) (hat : vs.getD j.toNatClampNeg dv = v) {g : JFrame} (hg : g.method = m) {rest : List Value} (hst : g.stack = .int j :: .ref a :: rest) (hd : decode c.code g.pc = .ok (.caload, 1)) (target : State)
    (hr : Steps p.tables e below (T.setTop { g with pc := g.pc + 1, stack := v :: rest }) target) : Steps p.tables e below (T.setTop g) target := by
  obtain ⟨cl, Ar, -, S, N, H, -⟩ := F
  exact X.caload hx (by rw [eT]; exact Ar.1) (State.isArrayOf_alike hZ.alike Ar.2.1) Ar.2.2 (inb_of S hj) (H.at (inb_of S hj) hat) hg hst hd _ hr
theorem baloadV (X : Stand p l e R s m args below meth c T locs cells slots) (hx : p.tables.exec = Jvm.exec) (hZ : Z.Warmed39 s.vm) (eT : T.heap = h) (F : Arv Z h a k .byte z vs dv) (hj : ¬ j < 0 ∧ j < z) (hat : vs.getD j.toNatClampNeg dv = v) {g : JFrame} (hg : g.method = m) {rest : List Value} (hst : g.stack = .int j :: .ref a :: rest) (hd : decode c.code g.pc = .ok (.baload, 1)) (target : State)
    (hr : Steps p.tables e below (T.setTop { g with pc := g.pc + 1, stack := v :: rest }) target) : Steps p.tables e below (T.setTop g) target := by
  obtain ⟨cl, Ar, -, S, N, H, -⟩ := F
  exact X.baloadBytes hx (by rw [eT]; exact Ar.1) (State.isArrayOf_alike hZ.alike Ar.2.1) Ar.2.2 (inb_of S hj) (H.at (inb_of S hj) hat) hg hst hd _ hr
theorem ialoadV (X : Stand p l e R s m args below meth c T locs cells slots) (hx : p.tables.exec = Jvm.exec) (hZ : Z.Warmed39 s.vm) (eT : T.heap = h) (F : Arv Z h a k .int z vs dv) (hj : ¬ j < 0 ∧ j < z) (hat : vs.getD j.toNatClampNeg dv = v) {g : JFrame} (hg : g.method = m) {rest : List Value} (hst : g.stack = .int j :: .ref a :: rest) (hd : decode c.code g.pc = .ok (.iaload, 1)) (target : State)
    (hr : Steps p.tables e below (T.setTop { g with pc := g.pc + 1, stack := v :: rest }) target) : Steps p.tables e below (T.setTop g) target := by
  obtain ⟨cl, Ar, -, S, N, H, -⟩ := F
  exact X.iaload hx (by rw [eT]; exact Ar.1) (State.isArrayOf_alike hZ.alike Ar.2.1) Ar.2.2 (inb_of S hj) (H.at (inb_of S hj) hat) hg hst hd _ hr
theorem laloadV (X : Stand p l e R s m args below meth c T locs cells slots) (hx : p.tables.exec = Jvm.exec) (hZ : Z.Warmed39 s.vm) (eT : T.heap = h) (F : Arv Z h a k .long z vs dv) (hj : ¬ j < 0 ∧ j < z) (hat : vs.getD j.toNatClampNeg dv = v) {g : JFrame} (hg : g.method = m) {rest : List Value} (hst : g.stack = .int j :: .ref a :: rest) (hd : decode c.code g.pc = .ok (.laload, 1)) (target : State)
    (hr : Steps p.tables e below (T.setTop { g with pc := g.pc + 1, stack := v :: rest }) target) : Steps p.tables e below (T.setTop g) target := by
  obtain ⟨cl, Ar, -, S, N, H, -⟩ := F
  exact X.laload hx (by rw [eT]; exact Ar.1) (State.isArrayOf_alike hZ.alike Ar.2.1) Ar.2.2 (inb_of S hj) (H.at (inb_of S hj) hat) hg hst hd _ hr
theorem aaloadV (X : Stand p l e R s m args below meth c T locs cells slots) (hx : p.tables.exec = Jvm.exec) (hZ : Z.Warmed39 s.vm) (eT : T.heap = h) (F : Arv Z h a k ty z vs dv) (hty : ty.isReference = true) (hj : ¬ j < 0 ∧ j < z) (hat : vs.getD j.toNatClampNeg dv = v) {g : JFrame} (hg : g.method = m) {rest : List Value} (hst : g.stack = .int j :: .ref a :: rest) (hd : decode c.code g.pc = .ok (.aaload, 1)) (target : State)
    (hr : Steps p.tables e below (T.setTop { g with pc := g.pc + 1, stack := v :: rest }) target) : Steps p.tables e below (T.setTop g) target := by
  obtain ⟨cl, Ar, -, S, N, H, -⟩ := F
  exact X.aaload hx (by rw [eT]; exact Ar.1) (State.isArrayOf_alike hZ.alike Ar.2.1) hty Ar.2.2 (inb_of S hj) (H.at (inb_of S hj) hat) hg hst hd _ hr
theorem castoreV (X : Stand p l e R s m args below meth c T locs cells slots) (hx : p.tables.exec = Jvm.exec) (hZ : Z.Warmed39 s.vm) (eT : T.heap = h) (F : Arv Z h a k .char z vs dv) {j x : Int32} (hj : ¬ j < 0 ∧ j < z) (hi : j.toNatClampNeg < vs.length) {g : JFrame} (hg : g.method = m) {rest : List Value} (hst : g.stack = .int x :: .int j :: .ref a :: rest) (hd : decode c.code g.pc = .ok (.castore, 1)) :
    ∃ T' h', Stand p l e R s m args below meth c T' (locs ++ [⟨a, j.toNatClampNeg⟩]) cells slots ∧ T'.heap = h' ∧ Wr h h' a j.toNatClampNeg (.int (nar .char x)) ∧ Arv Z h' a k .char z (vs.set j.toNatClampNeg (.int (nar .char x))) dv ∧ ∀ target, Steps p.tables e below (T'.setTop { g with pc := g.pc + 1, stack := rest }) target → Steps p.tables e below (T.setTop g) target := by
  obtain ⟨cl, Ar, q, S, N, H, G⟩ := F
  obtain ⟨T', h', X', e', W, st⟩ := stC X hx hZ eT Ar (j := j) (x := x) (inb_of S hj) hg hst hd
  exact ⟨T', h', X', e', W, Arv.set Ar q S N H G (fits_nar_char _) W _ rfl hi, st⟩
theorem bastoreV (X : Stand p l e R s m args below meth c T locs cells slots) (hx : p.tables.exec = Jvm.exec) (hZ : Z.Warmed39 s.vm) (eT : T.heap = h) (F : Arv Z h a k .byte z vs dv) {j x : Int32} (hj : ¬ j < 0 ∧ j < z) (hi : j.toNatClampNeg < vs.length) {g : JFrame} (hg : g.method = m) {rest : List Value} (hst : g.stack = .int x :: .int j :: .ref a :: rest) (hd : decode c.code g.pc = .ok (.bastore, 1)) :
    ∃ T' h', Stand p l e R s m args below meth c T' (locs ++ [⟨a, j.toNatClampNeg⟩]) cells slots ∧ T'.heap = h' ∧ Wr h h' a j.toNatClampNeg (.int (nar .byte x)) ∧ Arv Z h' a k .byte z (vs.set j.toNatClampNeg (.int (nar .byte x))) dv ∧ ∀ target, Steps p.tables e below (T'.setTop { g with pc := g.pc + 1, stack := rest }) target → Steps p.tables e below (T.setTop g) target := by
  obtain ⟨cl, Ar, q, S, N, H, G⟩ := F
  obtain ⟨T', h', X', e', W, st⟩ := stB X hx hZ eT Ar (j := j) (x := x) (inb_of S hj) hg hst hd
  exact ⟨T', h', X', e', W, Arv.set Ar q S N H G (fits_nar_byte _) W _ rfl hi, st⟩
theorem lastoreV (X : Stand p l e R s m args below meth c T locs cells slots) (hx : p.tables.exec = Jvm.exec) (hZ : Z.Warmed39 s.vm) (eT : T.heap = h) (F : Arv Z h a k .long z vs dv) {j : Int32} {x : Int64} (hj : ¬ j < 0 ∧ j < z) (hi : j.toNatClampNeg < vs.length) {g : JFrame} (hg : g.method = m) {rest : List Value} (hst : g.stack = .long x :: .int j :: .ref a :: rest) (hd : decode c.code g.pc = .ok (.lastore, 1)) :
    ∃ T' h', Stand p l e R s m args below meth c T' (locs ++ [⟨a, j.toNatClampNeg⟩]) cells slots ∧ T'.heap = h' ∧ Wr h h' a j.toNatClampNeg (.long x) ∧ Arv Z h' a k .long z (vs.set j.toNatClampNeg (.long x)) dv ∧ ∀ target, Steps p.tables e below (T'.setTop { g with pc := g.pc + 1, stack := rest }) target → Steps p.tables e below (T.setTop g) target := by
  obtain ⟨cl, Ar, q, S, N, H, G⟩ := F
  obtain ⟨T', h', X', e', W, st⟩ := stJ X hx hZ eT Ar (j := j) (inb_of S hj) hg hst hd
  exact ⟨T', h', X', e', W, Arv.set Ar q S N H G rfl W _ rfl hi, st⟩
end K
end Jvm.OwnKit
namespace Jvm.OwnKit
open Sem ClassFile Op Lib Jvm.Stand Jvm.Free Jvm.LawKit Jvm.RoadKit
/-- the contract of a body that may load String constants: those of EL hold their text before and behind it -/
abbrev ConH (l : Launch) (Z : State) (EL : List (String × Nat)) (y : MethodName) (bytes : ByteArray) (maxL : Nat) (ret : Option FieldType) (ws : List Jvm.Cond) (rm : Room) (as' : Array Value) (h0 : Heap) (Q : Option Value → Heap → List Loc → Prop) : Prop :=
  MetFree l y (head1 (Jvm.Cond.code y bytes maxL ret :: ws) rm) (fun a U => a = as' ∧ Z.Warmed39 U.vm ∧ U.heap = h0 ∧ CHv Z EL U.vm h0) (fun _ _ _ _ _ => True) (fun _ U o U' => ∃ v L, o = .returned v ∧ Q v U'.heap L ∧ CHr Z EL U.vm U.heap U'.vm U'.heap ∧ ReturnedEndW U o U' L rm.cells rm.slots)
abbrev EndH (Z : State) (EL : List (String × Nat)) (s : State) (rm : Room) (Q : Option Value → Heap → List Loc → Prop) : Outcome → State → Prop := fun o t => ∃ v L, o = .returned v ∧ Q v t.heap L ∧ CHr Z EL s.vm s.heap t.vm t.heap ∧ ReturnedEndW s o t L rm.cells rm.slots
section K
variable {p : Program} {l : Launch} {e : Env} {R : Room} {s : State} {m : MethodId} {args : Array Value} {below : List Frame} {meth : Method} {c : Code} {T T' : State} {locs : List Loc} {cells slots : Nat} {Qe : Outcome → State → Prop} {g g' : JFrame} {Z : State} {a0 : Array Value} {h : Heap} {EL : List (String × Nat)} {vm : Vm} {k0 : Nat}
theorem ConH.intro {y : MethodName} {bytes : ByteArray} {maxL : Nat} {ret : Option FieldType} {ws : List Jvm.Cond} {rm : Room} {as' : Array Value} {h0 : Heap} {Q : Option Value → Heap → List Loc → Prop} (hpl : plainFor y = true)
    (body : ∀ (p : Program) (e : Env) (s : State) (m : MethodId) (below : List Frame) (meth : Method) (c : Code) (s₁ : State), p.tables.exec = Jvm.exec → c.code = bytes → c.maxLocals = maxL → s.vm.findClass y.cls = some m.cls →
      meth.sig.returnType = ret → meth.locks = false → Z.Warmed39 s.vm → meth.name = y.name → Stand p l e rm (s.setVm s.vm) m as' below meth c s₁ [] 0 0 → s₁.heap = h0 → s.heap = h0 → s.Since s.vm 0 → CHv Z EL s.vm h0 → CHr Z EL s.vm h0 s.vm h0 → OGo p e below (EndH Z EL s rm Q) s₁ (entryFrame m as' maxL)) :
    ConH l Z EL y bytes maxL ret ws rm as' h0 Q := by
  refine MetFree.of_bodySF hpl hisR ?_
  intro p e s m args below meth c s₁ Bd hml0 hP hK
  obtain ⟨rfl, hZ, hh, hH⟩ := hP
  exact body p e s m below meth c s₁ Bd.exec Bd.bytes hml0 (findClass_of_methodNamed Bd.named) Bd.returns Bd.notSynchronized hZ (name_of_methodNamed Bd.named Bd.method).1 (Stand.of_body Bd) (by rw [← hh, Bd.state]; rfl) hh ((State.WarmedH.refl s).since 0) hH (CHr.refl hH)
theorem OGo.retH {Q : Option Value → Heap → List Loc → Prop} {rm : Room} {h0 : Heap} (X : Stand p l e R (s.setVm vm) m args below meth c T locs cells slots) (hx : p.tables.exec = Jvm.exec) (hZ : Z.Warmed39 vm) (hEL : EW Z a0 EL) (hs0 : s.heap = h0) (eT : T.heap = h) (hS : s.Since vm k0) (hk : k0 ≤ h.size) (H : CHv Z EL vm h) (hR : CHr Z EL s.vm h0 vm h) {pc : Nat} {Ls : Array Slot} {w : Value} {t : FieldType} {i : Instr} {rest : List Value} (hret : meth.sig.returnType = some t) (hlk : meth.locks = false) (hn : narrow t w = w)
    (hi : (i = .ireturn ∧ (t = .int ∨ t = .boolean ∨ t = .byte ∨ t = .char ∨ t = .short) ∧ ∃ z, w = .int z) ∨ (i = .lreturn ∧ t = .long ∧ ∃ z, w = .long z) ∨ (i = .dreturn ∧ t = .double ∧ ∃ z, w = .double z) ∨ (i = .freturn ∧ t = .float ∧ ∃ z, w = .float z) ∨ (i = .areturn ∧ t.isReference = true ∧ w.isRef = true))
    (hd : decode c.code pc = .ok (i, 1)) (hc : cells ≤ rm.cells) (hs : slots ≤ rm.slots) (hQ : Q (some w) h locs) : OGo p e below (EndH Z EL s rm Q) T (mkF m pc Ls (w :: rest)) := by
  subst eT
  obtain ⟨fs, hr, hrun, hended, q1, q2, q3, q4⟩ := X.leaveW hS hk (v := some w) (fun h => by rw [hret] at h; cases h) hlk
  exact ⟨_, _, retOut X hx hret hn hi hd hr, hrun, hended, _, _, rfl, hQ, (by rw [hs0]; have q := hR.trans (CHv.at X hZ hEL H); exact q), q1, q2, q3, q4.mono hc hs⟩
theorem OGo.retHV {Q : Option Value → Heap → List Loc → Prop} {rm : Room} {h0 : Heap} (X : Stand p l e R (s.setVm vm) m args below meth c T locs cells slots) (hx : p.tables.exec = Jvm.exec) (hZ : Z.Warmed39 vm) (hEL : EW Z a0 EL) (hs0 : s.heap = h0) (eT : T.heap = h) (hS : s.Since vm k0) (hk : k0 ≤ h.size) (H : CHv Z EL vm h) (hR : CHr Z EL s.vm h0 vm h) {pc : Nat} {Ls : Array Slot} (hret : meth.sig.returnType = none) (hlk : meth.locks = false)
    (hd : decode c.code pc = .ok (.return_, 1)) (hc : cells ≤ rm.cells) (hs : slots ≤ rm.slots) (hQ : Q none h locs) : OGo p e below (EndH Z EL s rm Q) T (mkF m pc Ls []) := by
  subst eT
  obtain ⟨fs, hr, hrun, hended, q1, q2, q3, q4⟩ := X.leaveW hS hk (v := none) (fun _ => rfl) hlk
  exact ⟨_, _, X.returnOut hx hret hd hr, hrun, hended, _, _, rfl, hQ, (by rw [hs0]; have q := hR.trans (CHv.at X hZ hEL H); exact q), q1, q2, q3, q4.mono hc hs⟩
theorem scallH (X : Stand p l e R (s.setVm vm) m args below meth c T locs cells slots) (hx : p.tables.exec = Jvm.exec) (hZ : Z.Warmed39 vm) {own : String} {index : Nat} {y : MethodName} {bytes : ByteArray} {maxL : Nat} {ret : Option FieldType} (hown : vm.findClass own = some m.cls)
    (hEL : EW Z a0 EL) (hS : s.Since vm k0) (hk : k0 ≤ h.size) (H : CHv Z EL vm h)
    (w1 : (Jvm.Cond.methodLink own index y).before a0 Z = true) (w2 : (Jvm.Cond.static y).before a0 Z = true) (w3 : (Jvm.Cond.initialized y.cls).before a0 Z = true) (w4 : (Jvm.Cond.code y bytes maxL ret).before a0 Z = true) (hy : y.cls ≠ "java/lang/invoke/MethodHandle" ∧ y.cls ≠ "java/lang/invoke/VarHandle")
    {W : Nat} {rm : Room} {as' : Array Value} {Q : Option Value → Heap → List Loc → Prop} (hM : ConH l Z EL y bytes maxL ret [] rm as' h Q) (eT : T.heap = h) (hf : rm.frames + 1 ≤ R.frames) (hl : W + (maxL + 11) + rm.locals ≤ R.locals) (hc : cells + rm.cells ≤ R.cells) (hs : slots + rm.slots ≤ R.slots)
    {g : JFrame} (hg : g.method = m) (hsize : g.locals.size = c.maxLocals) {argsL rest : List Value} {ps : List FieldType} {r : Option FieldType} (hpd : parseMethodDescriptor y.desc = some ⟨ps, r⟩) (hlen : argsL.length = ps.length) (hstack : g.stack = argsL.reverse ++ rest) (has : argsL.toArray = as') (hW : 2 * g.monitorRoom + (rest.map fun v => v.category).sum ≤ W)
    (hdg : decode c.code g.pc = .ok (.invokestatic index, 3)) :
    ∃ (v : Option Value) (T' : State) (L : List Loc) (k1 : Nat), Stand p l e R (s.setVm T'.vm) m args below meth c T' (locs ++ L) (cells + rm.cells) (slots + rm.slots) ∧ s.Since T'.vm k1 ∧ k1 ≤ T'.heap.size ∧ Z.Warmed39 T'.vm ∧ T'.vm.findClass own = some m.cls ∧ CHr Z EL vm h T'.vm T'.heap ∧ Q v T'.heap L ∧
      ∀ target, Steps p.tables e below (T'.setTop { g with pc := g.pc + 3, stack := v.toList ++ rest }) target → Steps p.tables e below (T.setTop g) target := by
  subst eT
  obtain ⟨v, vm₁, ⟨T', L', k', n'⟩, -, X', hS', hgr, ⟨L, hQ, e1, e2, e3, hR⟩, st⟩ := callSS X hx hown (mvT (s := s.setVm vm) hZ w1) (mvT (s := s.setVm vm) hZ w2) (mvT (s := s.setVm vm) hZ w3) (mvT (s := s.setVm vm) hZ w4) hy (backOfSH (s := s) (W := W) hM hZ w4 w3 hf hl hEL H) hg hsize (lenOf hpd hlen) hstack hW hdg (fun _ _ => ⟨has, rfl, hc, hs⟩)
  dsimp only [Pt.U, Pt.locs, Pt.cells, Pt.slots] at X' e1 e2 e3 st hQ hS' hgr hR
  subst e1 e2 e3
  exact ⟨v, T', L, _, X', hS.trans hS' (Nat.le_trans hk hgr), Nat.le_refl _, State.Warmed39.trans (t := s.setVm vm) hZ hS'.1, by rw [hS'.1.alike.findClass]; exact hown, hR, hQ, fun t k => st.trans k⟩
theorem icallH (X : Stand p l e R (s.setVm vm) m args below meth c T locs cells slots) (hx : p.tables.exec = Jvm.exec) (hZ : Z.Warmed39 vm) {own : String} {index : Nat} {y : MethodName} {bytes : ByteArray} {maxL : Nat} (hy1 : y.name = "<init>") (hown : vm.findClass own = some m.cls)
    (hEL : EW Z a0 EL) (hS : s.Since vm k0) (hk : k0 ≤ h.size) (H : CHv Z EL vm h)
    (w1 : (Jvm.Cond.methodLink own index y).before a0 Z = true) (w2 : (Jvm.Cond.instanceMethod y).before a0 Z = true) (w3 : (Jvm.Cond.initialized y.cls).before a0 Z = true) (w4 : (Jvm.Cond.code y bytes maxL none).before a0 Z = true) (hy : y.cls ≠ "java/lang/invoke/MethodHandle" ∧ y.cls ≠ "java/lang/invoke/VarHandle")
    {W : Nat} {rm : Room} {as' : Array Value} {Q : Option Value → Heap → List Loc → Prop} (hM : ConH l Z EL y bytes maxL none [] rm as' h Q) (eT : T.heap = h) (hf : rm.frames + 1 ≤ R.frames) (hl : W + (maxL + 11) + rm.locals ≤ R.locals) (hc : cells + rm.cells ≤ R.cells) (hs : slots + rm.slots ≤ R.slots)
    {g : JFrame} (hg : g.method = m) (hsize : g.locals.size = c.maxLocals) {a : Addr} {argsL rest : List Value} {ps : List FieldType} {r : Option FieldType} (hpd : parseMethodDescriptor y.desc = some ⟨ps, r⟩) (hlen : argsL.length = ps.length) (hstack : g.stack = argsL.reverse ++ .ref a :: rest) (has : (Value.ref a :: argsL).toArray = as') (hW : 2 * g.monitorRoom + (rest.map fun v => v.category).sum ≤ W)
    (hdg : decode c.code g.pc = .ok (.invokespecial index, 3)) :
    ∃ (v : Option Value) (T' : State) (L : List Loc) (k1 : Nat), Stand p l e R (s.setVm T'.vm) m args below meth c T' (locs ++ L) (cells + rm.cells) (slots + rm.slots) ∧ s.Since T'.vm k1 ∧ k1 ≤ T'.heap.size ∧ Z.Warmed39 T'.vm ∧ T'.vm.findClass own = some m.cls ∧ CHr Z EL vm h T'.vm T'.heap ∧ Q v T'.heap L ∧
      ∀ target, Steps p.tables e below (T'.setTop { g with pc := g.pc + 3, stack := v.toList ++ rest }) target → Steps p.tables e below (T.setTop g) target := by
  subst eT
  obtain ⟨v, vm₁, ⟨T', L', k', n'⟩, -, X', hS', hgr, ⟨L, hQ, e1, e2, e3, hR⟩, st⟩ := X.specialBackS hx hy1 hown (mvT (s := s.setVm vm) hZ w1) (mvT (s := s.setVm vm) hZ w2) (mvT (s := s.setVm vm) hZ w4) hy (backOfSH (s := s) (W := W) hM hZ w4 w3 hf hl hEL H) hg hsize (Steps.refl _) (lenOf hpd hlen) hstack hW hdg (fun _ _ => ⟨has, rfl, hc, hs⟩)
  dsimp only [Pt.U, Pt.locs, Pt.cells, Pt.slots] at X' e1 e2 e3 st hQ hS' hgr hR
  subst e1 e2 e3
  exact ⟨v, T', L, _, X', hS.trans hS' (Nat.le_trans hk hgr), Nat.le_refl _, State.Warmed39.trans (t := s.setVm vm) hZ hS'.1, by rw [hS'.1.alike.findClass]; exact hown, hR, hQ, fun t k => st.trans k⟩
theorem vcallH (X : Stand p l e R (s.setVm vm) m args below meth c T locs cells slots) (hx : p.tables.exec = Jvm.exec) (hZ : Z.Warmed39 vm) {own C : String} {index : Nat} {y z : MethodName} {bytes : ByteArray} {maxL : Nat} {ret : Option FieldType} (hown : vm.findClass own = some m.cls)
    (hEL : EW Z a0 EL) (hS : s.Since vm k0) (hk : k0 ≤ h.size) (H : CHv Z EL vm h)
    (w1 : (Jvm.Cond.methodLink own index y).before a0 Z = true) (w2 : (Jvm.Cond.declares y).before a0 Z = true) {C2 : String} {x2 z2 : MethodName} (w7 : (Jvm.Cond.selects C2 x2 z2).before a0 Z = true) (h7 : z2.cls = y.cls) (w5 : (Jvm.Cond.selects C y z).before a0 Z = true) (w6 : (Jvm.Cond.instanceMethod z).before a0 Z = true) (w3 : (Jvm.Cond.initialized z.cls).before a0 Z = true) (w4 : (Jvm.Cond.code z bytes maxL ret).before a0 Z = true) (hy : y.cls ≠ "java/lang/invoke/MethodHandle" ∧ y.cls ≠ "java/lang/invoke/VarHandle")
    {W : Nat} {rm : Room} {as' : Array Value} {Q : Option Value → Heap → List Loc → Prop} (hM : ConH l Z EL z bytes maxL ret [] rm as' h Q) (eT : T.heap = h) (hf : rm.frames + 1 ≤ R.frames) (hl : W + (maxL + 11) + rm.locals ≤ R.locals) (hc : cells + rm.cells ≤ R.cells) (hs : slots + rm.slots ≤ R.slots)
    {g : JFrame} (hg : g.method = m) (hsize : g.locals.size = c.maxLocals) {a : Addr} (E : Exa Z h a C) {argsL rest : List Value} {ps : List FieldType} {r : Option FieldType} (hpd : parseMethodDescriptor y.desc = some ⟨ps, r⟩) (hlen : argsL.length = ps.length) (hstack : g.stack = argsL.reverse ++ .ref a :: rest) (has : (Value.ref a :: argsL).toArray = as') (hW : 2 * g.monitorRoom + (rest.map fun v => v.category).sum ≤ W)
    (hdg : decode c.code g.pc = .ok (.invokevirtual index, 3)) :
    ∃ (v : Option Value) (T' : State) (L : List Loc) (k1 : Nat), Stand p l e R (s.setVm T'.vm) m args below meth c T' (locs ++ L) (cells + rm.cells) (slots + rm.slots) ∧ s.Since T'.vm k1 ∧ k1 ≤ T'.heap.size ∧ Z.Warmed39 T'.vm ∧ T'.vm.findClass own = some m.cls ∧ CHr Z EL vm h T'.vm T'.heap ∧ Q v T'.heap L ∧
      ∀ target, Steps p.tables e below (T'.setTop { g with pc := g.pc + 3, stack := v.toList ++ rest }) target → Steps p.tables e below (T.setTop g) target := by
  subst eT
  obtain ⟨cq, kq, qa, qb, qc⟩ := isOf (s := s.setVm vm) hZ rfl E
  obtain ⟨v, vm₁, ⟨T', L', k', n'⟩, -, X', hS', hgr, ⟨L, hQ, e1, e2, e3, hR⟩, st⟩ := X.virtualBackS hx hown (mvT (s := s.setVm vm) hZ w1) (mvT (s := s.setVm vm) hZ w2) (own_nf (args := #[]) (mvT (s := s.setVm vm) hZ w7) h7) (mvT (s := s.setVm vm) hZ w5) (mvT (s := s.setVm vm) hZ w6) hy (backOfSH (s := s) (W := W) hM hZ w4 w3 hf hl hEL H) qa qc hg hsize (Steps.refl _) (lenOf hpd hlen) hstack hW hdg (fun _ _ => ⟨has, rfl, hc, hs⟩)
  dsimp only [Pt.U, Pt.locs, Pt.cells, Pt.slots] at X' e1 e2 e3 st hQ hS' hgr hR
  subst e1 e2 e3
  exact ⟨v, T', L, _, X', hS.trans hS' (Nat.le_trans hk hgr), Nat.le_refl _, State.Warmed39.trans (t := s.setVm vm) hZ hS'.1, by rw [hS'.1.alike.findClass]; exact hown, hR, hQ, fun t k => st.trans k⟩
/-- a String whose value is null yet is none of the booked constants -/
theorem own_safeNull {x : Addr} (hal : Z.vm.Alike vm) (E : Exa Z h x "java/lang/String") (F : Fld Z h x "java/lang/String" "value" "[B" .null) : Safe Z EL vm h x := fun B => by
  obtain ⟨cell, k, e1, e2, e3, -, -⟩ := E
  obtain ⟨cell', cf, k1, i1, f, g1, g2, -, -, -, -, g7⟩ := F
  cases g1.symm.trans e1
  have nm : ∀ {n : String} {c : ClassId}, vm.findClass n = some c → c = cell.cls → n = "java/lang/String" := fun {n c} f e => by
    subst e
    rw [hal.findClass] at f
    obtain ⟨k1, q1, q2⟩ := Vm.findClass_spec f
    obtain ⟨k2, q3, q4⟩ := Vm.findClass_spec e2
    cases q1.symm.trans q3
    exact q2.symm.trans q4
  obtain ⟨p, -, u, a, -, q, -, S, rfl | rfl⟩ := B
  · cases (show h[q.sa]? = some q.sC from S.ha).symm.trans e1
    obtain ⟨cS, ⟨L1, -⟩, -⟩ := S
    obtain ⟨-, -, -, ⟨c5, k5, i5, ff, -⟩, -, -, -, sv, -⟩ := L1
    obtain ⟨k6, zz⟩ := ff_back (Z := Z) (U := Wst Z vm h) hal ff
    cases zz.symm.trans g2
    rw [sv] at g7
    cases g7
  · cases (show h[q.sd]? = some q.SA from S.hd).symm.trans e1
    obtain ⟨cS, -, -, f, -⟩ := S
    exact absurd (nm f rfl) (by decide)
end K
end Jvm.OwnKit
namespace Jvm.Pilot.@@N@@
open Jvm Jvm.ClassFile Sem Op Lib Jvm.Free Jvm.Stand Jvm.LawKit Jvm.RoadKit Jvm.OwnKit Bundle Jvm.Pilot.@@N@@.Jvm.D
theorem own_g {Z : State} {a0 : Array Value} (hw : ∀ d ∈ tables_1, d.before a0 Z = true) {d : Jvm.Cond} (i : Nat) (h : tables_1[i]? = some d) : d.before a0 Z = true := hw _ (List.mem_of_getElem? h)
theorem og {p : Program} {e : Env} {below : List Frame} {Qe : Outcome → State → Prop} {T T' : State} {g g' : JFrame} (st : ∀ t, Steps p.tables e below (T'.setTop g') t → Steps p.tables e below (T.setTop g) t) (k : OGo p e below Qe T' g') : OGo p e below Qe T g := OGo.step st k
abbrev DK (b : ByteArray) (i : Nat) (o : Instr) (n : Nat) : Prop := decode b i = .ok (o, n)

theorem own_toInt {n : Nat} (h : n < 2147483648) : (Int32.ofNat n).toInt = (n : Int) := Int32.toInt_ofNat_of_lt h
theorem own_nn {n : Nat} (h : n < 2147483648) : ¬ (Int32.ofNat n) < 0 := by
  rw [Int32.lt_iff_toInt_lt, own_toInt h]; show ¬ (n : Int) < 0; omega
theorem own_cl {n : Nat} (h : n < 2147483648) : (Int32.ofNat n).toNatClampNeg = n := by
  show (Int32.ofNat n).toInt.toNat = n
  rw [own_toInt h]; omega
theorem own_lt {a b : Nat} (ha : a < 2147483648) (hb : b < 2147483648) : Int32.ofNat a < Int32.ofNat b ↔ a < b := by
  rw [Int32.lt_iff_toInt_lt, own_toInt ha, own_toInt hb]; omega
theorem own_shr0 (x : Int32) : x >>> ((0 : Int32) &&& 31) = x := by
  apply Int32.toInt_inj.mp
  have h := c_ishr x 0 0 (by decide)
  rw [h]; simp
theorem own_shl0 (x : Int32) : x <<< ((0 : Int32) &&& 31) = x := by
  have h := c_ishl x 0 0 (by decide)
  have h1 := rng32 x
  have h2 := rng32 (x <<< ((0 : Int32) &&& 31))
  exact Int32.toInt_inj.mp (by omega)
theorem own_range (us : List Value) (d : Value) : ((List.range us.length).map fun i => us.getD (0 + i) d) = us := by
  apply List.ext_getElem
  · simp
  · intro i h1 h2
    simp at h1 h2 ⊢
    simp [h2]
/-- a String at a, its bytes us in the array d -/
def STI (Z : State) (h : Heap) (a d : Addr) (k : ClassId) (us : List Value) : Prop := Exa Z h a "java/lang/String" ∧ Fld Z h a "java/lang/String" "coder" "B" (.int (0 : Int32)) ∧ Fld Z h a "java/lang/String" "value" "[B" (.ref d) ∧ Arv Z h d k .byte (Int32.ofNat us.length) us (.int (0 : Int32))
/-- a StringBuilder at b that holds the bytes bs in the array d of length z -/
def SBI (Z : State) (h : Heap) (b d : Addr) (k : ClassId) (z : Int32) (bs : List Value) : Prop := Exa Z h b "java/lang/StringBuilder" ∧ Fld Z h b "java/lang/AbstractStringBuilder" "value" "[B" (.ref d) ∧ Fld Z h b "java/lang/AbstractStringBuilder" "coder" "B" (.int (0 : Int32)) ∧ Fld Z h b "java/lang/AbstractStringBuilder" "count" "I" (.int (Int32.ofNat bs.length)) ∧ Arv Z h d k .byte z bs (.int (0 : Int32)) ∧ Exa Z h d "[B"
/-- what the named sets say of the JDK's statics -/
def own_SS (Z : State) (zc : Int32) (wf : Value) : Prop := zc ≠ 0 ∧ Sta Z Z.heap "java/lang/String" "COMPACT_STRINGS" "Z" (.int zc) ∧ wf.isRef = true ∧ Sta Z Z.heap "jdk/internal/util/Preconditions" "SIOOBE_FORMATTER" "Ljava/util/function/BiFunction;" wf
theorem own_cp {p : Program} {l : Launch} {e : Env} {R : Room} {s : State} {m : MethodId} {args : Array Value} {below : List Frame} {meth : Method} {c : Code} {T : State} {locs : List Loc} {cells slots : Nat} {Z : State} {a0 : Array Value} {h : Heap} {a b : Addr} {k k' : ClassId}
    (X : Stand p l e R s m args below meth c T locs cells slots) (hx : p.tables.exec = Jvm.exec) (hZ : Z.Warmed39 s.vm) {own : String} {index : Nat} (hown : s.vm.findClass own = some m.cls)
    (w1 : (Jvm.Cond.methodLink own index Jvm.Stand.acN).before a0 Z = true) (w2 : (Jvm.Cond.native Jvm.Stand.acN).before a0 Z = true) (w3 : (Jvm.Cond.static Jvm.Stand.acN).before a0 Z = true) (w4 : (Jvm.Cond.initialized "java/lang/System").before a0 Z = true) (eT : T.heap = h)
    {zs z : Int32} {us bs : List Value} (A : Arv Z h a k .byte zs us (.int (0 : Int32))) (B : Arv Z h b k' .byte z bs (.int (0 : Int32))) (hs1 : us.length ≤ zs.toNatClampNeg) (hs2 : bs.length + us.length ≤ z.toNatClampNeg) (hb : us.length < 2147483648) (hb2 : bs.length < 2147483648)
    {n0 : Nat} (N : Fr n0 locs) (ge : n0 ≤ b) {g : JFrame} (hg : g.method = m) (hsize : g.locals.size = c.maxLocals) {rest : List Value} (hs : g.stack = .int (Int32.ofNat us.length) :: .int (Int32.ofNat bs.length) :: .ref b :: .int (0 : Int32) :: .ref a :: rest) (hd : decode c.code g.pc = .ok (.invokestatic index, 3))
    (hf : 1 ≤ R.frames) {W : Nat} (hW : 2 * g.monitorRoom + (rest.map fun v => v.category).sum ≤ W) (hlo : W + (nativeFrameWords "java/lang/System" "arraycopy" 5 + 11) ≤ R.locals) :
    ∃ T' h' L, Stand p l e R s m args below meth c T' L cells slots ∧ T'.heap = h' ∧ Fr n0 L ∧ Keep h h' [b] ∧ Arv Z h' b k' .byte z (bs ++ us) (.int (0 : Int32)) ∧
      ∀ target, Steps p.tables e below (T'.setTop { g with pc := g.pc + 3, stack := rest }) target → Steps p.tables e below (T.setTop g) target := by
  have c1 := own_cl hb
  have c2 := own_cl hb2
  have c0 : (0 : Int32).toNatClampNeg = 0 := by decide
  have B' : Arv Z h b k' .byte z (bs ++ List.replicate us.length (.int (0 : Int32))) (.int (0 : Int32)) := B.pad (pad_rep _ _ _)
  obtain ⟨T', h', L, X', e', N', K', V', st⟩ := cpA X hx hZ hown w1 w2 w3 w4 eT (sp := 0) (dp := Int32.ofNat bs.length) (nn := Int32.ofNat us.length) (us := us) A B' (Or.inl ⟨rfl, rfl⟩) (by decide) (own_nn hb2) (own_nn hb) (by rw [c1, c0]; omega) (by rw [c1, c2]; exact hs2) (by rw [c1, c0]; exact (own_range us _).symm) (by rw [c1, c2]; simp) N ge hg hsize hs hd hf hW hlo
  refine ⟨T', h', L, X', e', N', K', ?_, st⟩
  rw [c1, c2] at V'
  have e1 : (bs ++ List.replicate us.length (Value.int (0 : Int32))).take bs.length ++ us ++ (bs ++ List.replicate us.length (Value.int (0 : Int32))).drop (bs.length + us.length) = bs ++ us := by
    simp [List.drop_append, List.take_append]
  rw [e1] at V'
  exact V'
theorem own_nar255 (x : Int32) : narrow .char (.int (x &&& 255)) = .int (x &&& 255) := by
  have h := Jvm.Free.XT.narrow_c (x &&& 255)
  rw [i2c_mask] at h
  exact h
theorem own_sub0 (x : Int32) : x - (0 : Int32) = x := by
  have h := c_isub x 0
  have h0 : (0 : Int32).toInt = 0 := rfl
  have h1 := rng32 x
  have h2 := rng32 (x - 0)
  exact Int32.toInt_inj.mp (by omega)
theorem own_addln {bs us : List Value} : Int32.ofNat bs.length + Int32.ofNat us.length = Int32.ofNat (bs ++ us).length := by
  rw [List.length_append, Int32.ofNat_add]
theorem own_clz {z : Int32} (h : ¬ z < 0) : z.toInt = (z.toNatClampNeg : Int) := nat_of h
theorem own_noroom {bs us : List Value} {z : Int32} (h : bs.length + us.length ≤ z.toNatClampNeg) (h0 : ¬ z < 0) : ¬ (0 : Int32) < (Int32.ofNat bs.length + Int32.ofNat us.length) - z := by
  have q := own_clz h0
  have r := rng32 z
  have hl : bs.length + us.length < 2147483648 := by omega
  rw [← Int32.ofNat_add, Int32.lt_iff_toInt_lt]
  have e := own_toInt hl
  have c := c_isub (Int32.ofNat (bs.length + us.length)) z
  have r2 := rng32 (Int32.ofNat (bs.length + us.length) - z)
  show ¬ (0 : Int) < _
  omega
def own_b8 (cs : List Int32) : List Value := cs.map fun x => Value.int x.toInt8.toInt32
def own_ok8 (cs : List Int32) : Prop := ∀ x ∈ cs, ¬ x < 0 ∧ ¬ (255 : Int32) < x
theorem own_b8_len (cs : List Int32) : (own_b8 cs).length = cs.length := by simp [own_b8]
theorem own_inc (i : Nat) : Int32.ofNat i + (1 : Int32) = Int32.ofNat (i + 1) := by rw [Int32.ofNat_add]; rfl
theorem own_i8i8 (x : Int32) : nar .byte x.toInt8.toInt32 = x.toInt8.toInt32 := by
  show x.toInt8.toInt32.toInt8.toInt32 = x.toInt8.toInt32
  rw [Int8.toInt8_toInt32]
theorem own_at {cs : List Int32} {i : Nat} {x d : Int32} (hi : cs[i]? = some x) (hb : i < 2147483648) : (cs.map Value.int).getD (Int32.ofNat i).toNatClampNeg (.int d) = .int x := by
  rw [own_cl hb]; simp [List.getD, hi]
theorem own_set {cs : List Int32} {i : Nat} {x : Int32} (hi : cs[i]? = some x) : (own_b8 (cs.take i) ++ List.replicate 1 (Value.int (0 : Int32))).set i (.int (nar .byte x.toInt8.toInt32)) = own_b8 (cs.take (i + 1)) := by
  obtain ⟨h, rfl⟩ := List.getElem?_eq_some_iff.mp hi
  have hl : (own_b8 (cs.take i)).length = i := by rw [own_b8_len]; simp; omega
  rw [own_i8i8, List.set_append_right _ _ (by omega), hl]
  simp only [Nat.sub_self, List.replicate, List.set_cons_zero]
  rw [List.take_succ_eq_append_getElem h]
  simp only [own_b8, List.map_append, List.map_cons, List.map_nil]
theorem own_cfal (n : Int32) : ((((n - n).toUInt32 >>> ((31 : Int32) &&& 31).toUInt32).toInt32).toInt8.toInt32) = (0 : Int32) := by
  have h : n - n = 0 := by
    have h1 := c_isub n n
    have h2 := rng32 (n - n)
    exact Int32.toInt_inj.mp (by show (n - n).toInt = 0; omega)
  rw [h]; decide
theorem own_one {ca b : Addr} {x1 x3 x4 x5 v : Int32} {s6 : Slot} (h : One s6) : storeLocals #[.val (.ref ca), .val (.int x1), .val (.ref b), .val (.int x3), .val (.int x4), .val (.int x5), s6] 6 (.int v) = some #[.val (.ref ca), .val (.int x1), .val (.ref b), .val (.int x3), .val (.int x4), .val (.int x5), .val (.int v)] := by
  rcases h with rfl | ⟨w, rfl, hw⟩
  · rfl
  · cases w <;> first | rfl | (simp [Value.category] at hw)
def own_cap (z n : Nat) : Nat := if n ≤ z then z else max n (2 * z + 2)
theorem own_cap_ge (z n : Nat) : n ≤ own_cap z n := by unfold own_cap; split <;> omega
theorem own_nen {x d d' : Addr} {n : Nat} (hx : x < n) (hne : x ≠ d) (hd : d' = d ∨ n ≤ d') : x ≠ d' := by
  rcases hd with rfl | h
  · exact hne
  · exact Nat.ne_of_lt (Nat.lt_of_lt_of_le hx h)
theorem own_subn {a b : Nat} (h : b ≤ a) (hb : a < 2147483648) : Int32.ofNat a - Int32.ofNat b = Int32.ofNat (a - b) := by
  have c := c_isub (Int32.ofNat a) (Int32.ofNat b)
  have e1 := own_toInt hb
  have e2 := own_toInt (show b < 2147483648 by omega)
  have e3 := own_toInt (show a - b < 2147483648 by omega)
  have r := rng32 (Int32.ofNat a - Int32.ofNat b)
  exact Int32.toInt_inj.mp (by omega)
theorem own_addn (a b : Nat) : Int32.ofNat a + Int32.ofNat b = Int32.ofNat (a + b) := by rw [Int32.ofNat_add]
theorem own_addk (a : Nat) : Int32.ofNat a + (2 : Int32) = Int32.ofNat (a + 2) := by rw [Int32.ofNat_add]; rfl
theorem own_shl0b : (2 : Int32) <<< ((0 : Int32) &&& 31) = 2 := by decide
theorem own_safeAlt {Z : State} {EL : List (String × Nat)} {vm : Vm} {h : Heap} {d d' : Addr} (S : Safe Z EL vm h d) (hd : d' = d ∨ h.size ≤ d') : Safe Z EL vm h d' := hd.elim (fun e => e ▸ S) Safe.new
theorem own_gelt {n a : Nat} (hn : n < 2147483648) (ha : a < 2147483648) (h : n ≤ a) : ¬ Int32.ofNat a < Int32.ofNat n := fun q => by
  have := (own_lt ha hn).mp q; omega
theorem own_nd {z n : Nat} (hz : z < 2147483648) (hn : n < 2147483648) : ((0 : Int32) < Int32.ofNat n - Int32.ofNat z) ↔ z < n := by
  have c := c_isub (Int32.ofNat n) (Int32.ofNat z)
  have e1 := own_toInt hz
  have e2 := own_toInt hn
  have r := rng32 (Int32.ofNat n - Int32.ofNat z)
  have e0 : (0 : Int32).toInt = 0 := rfl
  rw [Int32.lt_iff_toInt_lt]
  omega
def own_pc (pc0 i : Nat) : Nat := if i ≤ 6 then pc0 + 5 * i else pc0 + 6 * i - 6
def own_il (i : Nat) : Nat := if i ≤ 5 then 1 else 2
def own_ix (i : Nat) : Instr := if i ≤ 5 then .iconst i else .bipush i
def own_dk (code : ByteArray) (pc0 : Nat) (vis : List Instr) (i : Nat) : Bool :=
  decide (decode code (own_pc pc0 i) = .ok (.dup, 1)) && (decide (decode code (own_pc pc0 i + 1) = .ok (own_ix i, own_il i)) && (decide (decode code (own_pc pc0 i + 1 + own_il i) = .ok (vis.getD i .nop, 2)) && decide (decode code (own_pc pc0 i + 1 + own_il i + 2) = .ok (.castore, 1))))
def own_push (Ls : Array Slot) (v : Instr) (x : Int32) : Prop := (∃ z : Int, v = .bipush z ∧ x = (Int8.ofInt z).toInt32) ∨ ∃ k : Nat, v = .iload k ∧ Ls[k]? = some (.val (.int x))
def own_pv (Ls : Array Slot) : List Instr → List Int32 → Prop
  | _, [] => True
  | [], _ :: _ => False
  | v :: vs, x :: xs => own_push Ls v x ∧ own_pv Ls vs xs
theorem own_pvat {Ls : Array Slot} : ∀ {vis : List Instr} {cs : List Int32}, own_pv Ls vis cs → ∀ i x, cs[i]? = some x → own_push Ls (vis.getD i .nop) x
  | _, [], _, i, x, q => by simp at q
  | [], _ :: _, h, _, _, _ => h.elim
  | v :: vs, y :: ys, h, 0, x, q => by simp at q; subst q; exact h.1
  | v :: vs, y :: ys, h, i + 1, x, q => by
    have := own_pvat h.2 i x (by simpa using q)
    simpa using this
theorem own_ici : ∀ i : Nat, i < 128 → Int32.ofInt (i : Int) = Int32.ofNat i := by decide +kernel
theorem own_icb : ∀ i : Nat, i < 128 → (Int8.ofInt (i : Int)).toInt32 = Int32.ofNat i := by decide +kernel
theorem own_setc {cs : List Int32} {i : Nat} {x : Int32} (hi : cs[i]? = some x) (hn : nar .char x = x) : ((cs.take i).map Value.int ++ List.replicate 1 (Value.int (0 : Int32))).set i (.int (nar .char x)) = (cs.take (i + 1)).map Value.int := by
  obtain ⟨h, rfl⟩ := List.getElem?_eq_some_iff.mp hi
  have hl : ((cs.take i).map Value.int).length = i := by simp; omega
  rw [hn, List.set_append_right _ _ (by omega), hl]
  simp only [Nat.sub_self, List.replicate, List.set_cons_zero]
  rw [List.take_succ_eq_append_getElem h]
  simp only [List.map_append, List.map_cons, List.map_nil]
theorem own_frm {a b : Nat} {L : List Loc} (N : Fr b L) (h : a ≤ b) : Fr a L := fun y hy => Nat.le_trans h (N y hy)
theorem own_ok0 : own_ok8 [] := fun _ q => nomatch q
theorem own_okS {x : Int32} {r : List Int32} (h : ¬ x < 0 ∧ ¬ (255 : Int32) < x) (q : own_ok8 r) : own_ok8 (x :: r) := fun z hz => by
  rcases List.mem_cons.mp hz with rfl | hz
  · exact h
  · exact q z hz
theorem own_narc {x : Int32} (h : ¬ x < 0 ∧ ¬ (255 : Int32) < x) : nar .char x = x := by
  obtain ⟨h0, h1⟩ := h
  rw [Int32.lt_iff_toInt_lt] at h0 h1
  have e0 : (0 : Int32).toInt = 0 := rfl
  have e1 : (255 : Int32).toInt = 255 := rfl
  have q := c_i2c x
  have r := rng32 (nar .char x)
  apply Int32.toInt_inj.mp
  show x.toUInt32.toUInt16.toUInt32.toInt32.toInt = x.toInt
  omega
theorem own_cfill {p : Program} {l : Launch} {e : Env} {R : Room} {s : State} {m : MethodId} {args : Array Value} {below : List Frame} {meth : Method} {c : Code} {cells slots : Nat} {Z : State} (hx : p.tables.exec = Jvm.exec) (hZ : Z.Warmed39 s.vm) {cs : List Int32} {vis : List Instr} {b : Addr} {k : ClassId} {Ls : Array Slot} {rest : List Value} {pc0 : Nat} (hn : cs.length ≤ 127) (hok : own_ok8 cs) (hD : ∀ i, i < cs.length → own_dk c.code pc0 vis i = true) (hP : ∀ i x, cs[i]? = some x → own_push Ls (vis.getD i .nop) x) :
    ∀ (r i : Nat) (T : State) (h : Heap) (locs : List Loc), i + r = cs.length → Stand p l e R s m args below meth c T locs cells slots → T.heap = h → Arv Z h b k .char (Int32.ofNat cs.length) ((cs.take i).map Value.int) (.int (0 : Int32)) →
      ∃ (T' : State) (L : List Loc), Stand p l e R s m args below meth c T' (locs ++ L) cells slots ∧ Fr b L ∧ Keep h T'.heap [b] ∧ Arv Z T'.heap b k .char (Int32.ofNat cs.length) (cs.map Value.int) (.int (0 : Int32)) ∧
        ∀ target, Steps p.tables e below (T'.setTop (mkF m (own_pc pc0 cs.length) Ls (.ref b :: rest))) target → Steps p.tables e below (T.setTop (mkF m (own_pc pc0 i) Ls (.ref b :: rest))) target := by
  intro r
  induction r with
  | zero =>
    intro i T h locs hi X eT V
    have hi' : i = cs.length := by omega
    subst hi'
    rw [List.take_length] at V
    exact ⟨T, [], by rw [List.append_nil]; exact X, Fr.nil _, by rw [eT]; exact Keep.refl _ _, by rw [eT]; exact V, fun t q => q⟩
  | succ r ih =>
    intro i T h locs hi X eT V
    have hil : i < cs.length := by omega
    obtain ⟨x, hxi⟩ : ∃ x, cs[i]? = some x := ⟨_, List.getElem?_eq_getElem hil⟩
    have hd := hD i hil
    simp only [own_dk, Bool.and_eq_true, decide_eq_true_eq] at hd
    obtain ⟨d1, d2, d3, d4⟩ := hd
    have V' : Arv Z h b k .char (Int32.ofNat cs.length) ((cs.take i).map Value.int ++ List.replicate 1 (.int (0 : Int32))) (.int (0 : Int32)) := V.pad (pad_rep _ _ 1)
    obtain ⟨T1, h1, X1, e1, W1, V1, st1⟩ := castoreV X hx hZ eT V' (j := Int32.ofNat i) (x := x) ⟨own_nn (by omega), (own_lt (by omega) (by omega)).mpr hil⟩ (by rw [own_cl (by omega)]; simp; omega) (g := mkF m (own_pc pc0 i + 1 + own_il i + 2) Ls (.int x :: .int (Int32.ofNat i) :: .ref b :: .ref b :: rest)) rfl rfl d4
    rw [own_cl (show i < 2147483648 by omega), own_setc hxi (own_narc (hok x (List.mem_of_getElem? hxi)))] at V1
    obtain ⟨T2, L2, X2, N2, K2, V2, st2⟩ := ih (i + 1) T1 h1 _ (by omega) X1 e1 V1
    rw [List.append_assoc] at X2
    refine ⟨T2, _, X2, ?_, (Keep.of_wr W1).trans K2 (fun z hz => Or.inl hz), V2, fun t q => ?_⟩
    · intro y hy
      rcases List.mem_append.mp hy with hy | hy
      · cases List.mem_singleton.mp hy; exact Nat.le_refl _
      · exact N2 y hy
    have hpc : own_pc pc0 (i + 1) = own_pc pc0 i + 1 + own_il i + 2 + 1 := by
      unfold own_pc own_il
      split <;> split <;> (try split) <;> omega
    have q1 := st1 _ (by have z := st2 t q; rw [hpc] at z; exact z)
    refine XS.dup X.here hx rfl d1 rfl rfl ?_
    show Steps p.tables e below (T.setTop (mkF m (own_pc pc0 i + 1) Ls (.ref b :: .ref b :: rest))) t
    have q2 : Steps p.tables e below (T.setTop (mkF m (own_pc pc0 i + 1 + own_il i) Ls (.int (Int32.ofNat i) :: .ref b :: .ref b :: rest))) t := by
      rcases hP i x hxi with ⟨z, ez, rfl⟩ | ⟨kk, ez, hk⟩
      · rw [ez] at d3
        exact XS.bipush X.here hx rfl d3 q1
      · rw [ez] at d3
        exact XS.iload X.here hx rfl d3 hk q1
    by_cases q5 : i ≤ 5
    · have a1 : own_il i = 1 := if_pos q5
      have a2 : own_ix i = .iconst i := if_pos q5
      rw [a1, a2] at d2
      rw [a1] at q2
      refine XS.iconst X.here hx rfl d2 ?_
      rw [own_ici i (by omega)]
      exact q2
    · have a1 : own_il i = 2 := if_neg q5
      have a2 : own_ix i = .bipush i := if_neg q5
      rw [a1, a2] at d2
      rw [a1] at q2
      refine XS.bipush X.here hx rfl d2 ?_
      rw [own_icb i (by omega)]
      exact q2
def own_w (n : Nat) : Nat := if n < 10 then 1 else if n < 100 then 2 else if n < 1000 then 3 else if n < 10000 then 4 else if n < 100000 then 5 else if n < 1000000 then 6 else if n < 10000000 then 7 else if n < 100000000 then 8 else if n < 1000000000 then 9 else 10
def own_dig : Nat → Nat → List Value
  | 0, _ => []
  | t + 1, n => .int (Int32.ofNat (48 + n / 10 ^ t % 10)) :: own_dig t n
def own_L (bs : List Value) (w t n : Nat) : List Value := bs ++ (List.replicate (w - t) (Value.int (0 : Int32)) ++ own_dig t n)
theorem own_diglen (n : Nat) : ∀ t, (own_dig t n).length = t
  | 0 => rfl
  | t + 1 => by simp [own_dig, own_diglen n t]
theorem own_Llen {bs : List Value} {w t n : Nat} (h : t ≤ w) : (own_L bs w t n).length = bs.length + w := by
  simp [own_L, own_diglen]; omega
theorem own_Lset {bs : List Value} {w t n : Nat} (h : t < w) : (own_L bs w t n).set (bs.length + (w - t - 1)) (.int (Int32.ofNat (48 + n / 10 ^ t % 10))) = own_L bs w (t + 1) n := by
  obtain ⟨k, hk⟩ : ∃ k, w - t = k + 1 := ⟨w - t - 1, by omega⟩
  have hk2 : w - (t + 1) = k := by omega
  unfold own_L
  rw [hk2, show w - t - 1 = k by omega, hk, List.set_append_right _ _ (by omega), Nat.add_sub_cancel_left, List.replicate_succ', List.append_assoc, List.set_append_right _ _ (by simp)]
  simp [own_dig]
theorem own_L0 (bs : List Value) (w n : Nat) : own_L bs w 0 n = bs ++ List.replicate w (Value.int (0 : Int32)) := by simp [own_L, own_dig]
theorem own_Lw (bs : List Value) (w n : Nat) : own_L bs w w n = bs ++ own_dig w n := by simp [own_L]
theorem own_digat (n : Nat) : ∀ (w k : Nat), k < w → (own_dig w n)[k]? = some (.int (Int32.ofNat (48 + n / 10 ^ (w - 1 - k) % 10)))
  | w + 1, 0, _ => by simp [own_dig]
  | w + 1, k + 1, h => by
    have := own_digat n w k (by omega)
    rw [own_dig, List.getElem?_cons_succ, this, show w + 1 - 1 - (k + 1) = w - 1 - k by omega]
theorem own_divp (n t : Nat) : n / 10 ^ t / 100 = n / 10 ^ (t + 2) := by rw [Nat.div_div_eq_div_mul, Nat.pow_add]
theorem own_divq (n t : Nat) : n / 10 ^ t / 10 = n / 10 ^ (t + 1) := by rw [Nat.div_div_eq_div_mul, Nat.pow_succ]
theorem own_ones {m : Nat} : m % 100 % 10 = m % 10 := by omega
theorem own_tens {m : Nat} : m % 100 / 10 = m / 10 % 10 := by omega
theorem own_plt {m r : Nat} (h : m < 10 ^ (r + 2)) : m / 100 < 10 ^ r := by
  rw [Nat.pow_add] at h
  exact Nat.div_lt_of_lt_mul (by rw [Nat.mul_comm]; exact h)
theorem own_ple {m r : Nat} (h : 10 ^ (r + 2) ≤ m) : 10 ^ r ≤ m / 100 := by
  rw [Nat.pow_add] at h
  exact (Nat.le_div_iff_mul_le (by decide)).mpr h
theorem own_r3 {m r : Nat} (h : m < 10 ^ r) (h1 : 100 ≤ m) : 3 ≤ r := Nat.lt_of_not_le fun q => by
  have := Nat.pow_le_pow_right (show 0 < 10 by decide) q
  omega
theorem own_r1 {m r : Nat} (h : 1 ≤ r) (h1 : 2 ≤ r → 10 ^ (r - 1) ≤ m) (h2 : m < 10) : r = 1 := by
  rcases Nat.lt_or_ge r 2 with q | q
  · omega
  · have a := h1 q
    have b := Nat.pow_le_pow_right (show 0 < 10 by decide) (show 1 ≤ r - 1 by omega)
    omega
theorem own_r2 {m r : Nat} (h : m < 10 ^ r) (h1 : 2 ≤ r → 10 ^ (r - 1) ≤ m) (h2 : 10 ≤ m) (h3 : m < 100) : r = 2 := by
  have h4 : 2 ≤ r := Nat.lt_of_not_le fun q => by
    have := Nat.pow_le_pow_right (show 0 < 10 by decide) q
    omega
  rcases Nat.lt_or_ge r 3 with q | q
  · omega
  · have a := h1 h4
    have b := Nat.pow_le_pow_right (show 0 < 10 by decide) (show 2 ≤ r - 1 by omega)
    omega
theorem own_dpow {n : Nat} (h : n < 2147483648) : n < 10 ^ own_w n ∧ (2 ≤ own_w n → 10 ^ (own_w n - 1) ≤ n) ∧ 1 ≤ own_w n ∧ own_w n ≤ 10 := by
  unfold own_w
  repeat' split
  all_goals (refine ⟨?_, ?_, ?_, ?_⟩ <;> simp <;> omega)
theorem own_negn {n : Nat} (h : n < 2147483648) : -(Int32.ofNat n) = Jvm.Free.SBG.negI n := by rw [← Jvm.Free.SBG.neg_negI h, Int32.neg_neg]
theorem own_dec {k : Nat} (h : 1 ≤ k) : Int32.ofNat k + (-1 : Int32) = Int32.ofNat (k - 1) := Jvm.Free.SBG.GetChars.dec1 h
theorem own_nard : ∀ x : Nat, x < 128 → nar .byte (Int32.ofNat x) = Int32.ofNat x := by
  show ∀ x : Nat, x < 128 → (Int32.ofNat x).toInt8.toInt32 = Int32.ofNat x
  decide +kernel
def own_onel : List Value := (List.range 100).map fun r => Value.int (Int32.ofNat (48 + r % 10))
def own_tenl : List Value := (List.range 100).map fun r => Value.int (Int32.ofNat (48 + r / 10))
theorem own_oneat {r : Nat} {d : Value} (h : r < 100) : own_onel.getD (Int32.ofNat r).toNatClampNeg d = .int (Int32.ofNat (48 + r % 10)) := by
  rw [own_cl (by omega)]; simp [own_onel, List.getD, h]
theorem own_tenat {r : Nat} {d : Value} (h : r < 100) : own_tenl.getD (Int32.ofNat r).toNatClampNeg d = .int (Int32.ofNat (48 + r / 10)) := by
  rw [own_cl (by omega)]; simp [own_tenl, List.getD, h]
/-- Integer's tables of digits -/
def own_SI (Z : State) (d1 d2 : Addr) (k1 k2 : ClassId) : Prop := Sta Z Z.heap "java/lang/Integer" "DigitOnes" "[B" (.ref d1) ∧ Arv Z Z.heap d1 k1 .byte (100 : Int32) own_onel (.int (0 : Int32)) ∧ Sta Z Z.heap "java/lang/Integer" "DigitTens" "[B" (.ref d2) ∧ Arv Z Z.heap d2 k2 .byte (100 : Int32) own_tenl (.int (0 : Int32))
theorem own_st3 {v0 v1 v2 v5 v6 : Value} {s3 s4 : Slot} {v : Int32} (h : One s3) (h0 : v0.category = 1) (h1 : v1.category = 1) (h2 : v2.category = 1) : storeLocals #[.val v0, .val v1, .val v2, s3, s4, .val v5, .val v6] 3 (.int v) = some #[.val v0, .val v1, .val v2, .val (.int v), s4, .val v5, .val v6] := by
  rcases h with rfl | ⟨w, rfl, hw⟩
  · cases v2 <;> first | rfl | (simp [Value.category] at h2)
  · cases w <;> cases v2 <;> first | rfl | (simp [Value.category] at hw h2)
theorem own_st4 {v0 v1 v2 v5 v6 : Value} {s4 : Slot} {u v : Int32} (h : One s4) : storeLocals #[.val v0, .val v1, .val v2, .val (.int u), s4, .val v5, .val v6] 4 (.int v) = some #[.val v0, .val v1, .val v2, .val (.int u), .val (.int v), .val v5, .val v6] := by
  rcases h with rfl | ⟨w, rfl, hw⟩
  · rfl
  · cases w <;> first | rfl | (simp [Value.category] at hw)

/-- a table of bytes that the sheet's word `all` describes -/
theorem own_tbl {Z : State} {args : Array Value} {t F : Term} {a : Addr} {c : Cell} {n : Nat} {val : Nat → Int32} (hn : n < 2147483648) (et : ∀ idx, t.eval args Z none idx Z = some (.ref a)) (A : Arr Z Z.heap a c .byte) (q : c.slots.size = n)
    (h : (Cond.all t (.eq (.elem t (.index 0)) F)).value args Z none Z [] = some true) (hF : ∀ i, i < n → F.eval args Z none [i] Z = some (.int (val i))) (hv : ∀ i, i < n → fits .byte (.int (val i)) = true) : Arv Z Z.heap a c.cls .byte (Int32.ofNat n) ((List.range n).map fun i => Value.int (val i)) (.int (0 : Int32)) := by
  have key : ∀ i, i < n → c.slots[i]? = some (.int (val i)) := fun i hi => by
    have u := Cond.all_elim (et []) (A.fin (Vm.Alike.refl _)) h i (by rw [q]; exact hi)
    obtain ⟨x, y, e1, e2, k1, k2⟩ := cmp_v (Or.inl u)
    cases (hF i hi).symm.trans e2
    have e3 := (elem_f (j := Int32.ofNat i) (et [i]) (by have := idx_at (args := args) (s := Z) (first := Z) (o := none) (j := Int32.ofNat i) (own_nn (by omega)); rw [own_cl (by omega)] at this; exact this) (A.fin (Vm.Alike.refl _)) (own_nn (by omega))).symm.trans e1
    rw [own_cl (by omega)] at e3
    obtain ⟨z, rfl⟩ : ∃ z, x = .int z := k2
    have := gotT (Cond.eq_ints e1 (hF i hi)) u
    rw [e3, this]
  have hg : ∀ i, i < n → ((List.range n).map fun i => Value.int (val i)).getD i (.int (0 : Int32)) = .int (val i) := fun i hi => by simp [List.getD, hi]
  refine ⟨c, A, rfl, by rw [q, own_cl hn], own_nn hn, fun i hi => ?_, fun i hi => ?_⟩
  · rw [q] at hi; rw [hg i hi]; exact key i hi
  · rw [q] at hi; rw [hg i hi]; exact hv i hi
theorem own_arrX {Z : State} {a0 : Array Value} {a : Addr} {cell : Cell} (E : Exa Z Z.heap a "[B") (ha : Z.arrayAt? a = some cell) (w : (Cond.arrayClass .byte).before a0 Z = true) : Arr Z Z.heap a cell .byte := by
  obtain ⟨c1, k1, e1, e2, e3, e4, -⟩ := E
  obtain ⟨h1, h2, h3, -⟩ := State.arrayAt?_spec ha
  cases e1.symm.trans h1
  obtain ⟨c, k, comp, f1, f2, f3⟩ := Cond.arrayClass_spec w
  cases e2.symm.trans (show Z.vm.findClass "[B" = some c from f1)
  exact ⟨h1, ⟨fun kk q => (by rw [q] at e4; cases e4), k, f2, comp, f3⟩, h2⟩
theorem own_tblS {Z : State} {args a0 : Array Value} {C n d : String} {F : Term} {k : Nat} {val : Nat → Int32} (hk : k < 2147483648) (hX : (Cond.exactly (.static C n d) "[B").before args Z = true) (hL : (Cond.eq (.length (.static C n d)) (.int (Int32.ofNat k))).before args Z = true) (hA : (Cond.all (.static C n d) (.eq (.elem (.static C n d) (.index 0)) F)).before args Z = true) (w : (Cond.arrayClass .byte).before a0 Z = true)
    (hF : ∀ i, i < k → F.eval args Z none [i] Z = some (.int (val i))) (hv : ∀ i, i < k → fits .byte (.int (val i)) = true) : ∃ a kd, (Term.static C n d).eval args Z none [] Z = some (.ref a) ∧ Arv Z Z.heap a kd .byte (Int32.ofNat k) ((List.range k).map fun i => Value.int (val i)) (.int (0 : Int32)) := by
  obtain ⟨a, ea⟩ := exa_v (Cond.before_iff.mp hX)
  have X1 : Exa Z Z.heap a "[B" := exa_at ea (Cond.before_iff.mp hX)
  have hL' := Cond.before_iff.mp hL
  obtain ⟨x, y, e1, e2, -, -⟩ := cmp_v (Or.inl hL')
  obtain ⟨b, cell, eb, hb, rfl⟩ := Term.length_spec e1
  cases ea.symm.trans eb
  have hlt := Jvm.Free.SBG.length_lt ea hb e1
  have hsz : cell.slots.size.toInt32 = Int32.ofNat k := gotT (Cond.eq_ints e1 (Term.int_eval (Int32.ofNat k))) hL'
  have hs : cell.slots.size = k := by
    have q := congrArg Int32.toNatClampNeg hsz
    rw [own_cl hk, show cell.slots.size.toInt32 = Int32.ofNat cell.slots.size from rfl, own_cl (by omega)] at q
    exact q
  exact ⟨a, cell.cls, ea, own_tbl hk (fun idx => ea) (own_arrX X1 hb w) hs (Cond.before_iff.mp hA) hF hv⟩
theorem own_oneE : (List.range 100).map (fun i => Value.int ((48 : Int32) + i.toInt32 % 10)) = own_onel := by
  have h : ∀ i, i < 100 → (48 : Int32) + i.toInt32 % 10 = Int32.ofNat (48 + i % 10) := by decide +kernel
  exact List.map_congr_left fun i hi => by rw [h i (List.mem_range.mp hi)]
theorem own_tenE : (List.range 100).map (fun i => Value.int ((48 : Int32) + i.toInt32 / 10)) = own_tenl := by
  have h : ∀ i, i < 100 → (48 : Int32) + i.toInt32 / 10 = Int32.ofNat (48 + i / 10) := by decide +kernel
  exact List.map_congr_left fun i hi => by rw [h i (List.mem_range.mp hi)]
def own_wl (n : Nat) : Nat := 1 + (if 10 ≤ n then 1 else 0) + (if 100 ≤ n then 1 else 0) + (if 1000 ≤ n then 1 else 0) + (if 10000 ≤ n then 1 else 0) + (if 100000 ≤ n then 1 else 0) + (if 1000000 ≤ n then 1 else 0) + (if 10000000 ≤ n then 1 else 0) + (if 100000000 ≤ n then 1 else 0) + (if 1000000000 ≤ n then 1 else 0) + (if 10000000000 ≤ n then 1 else 0) + (if 100000000000 ≤ n then 1 else 0) + (if 1000000000000 ≤ n then 1 else 0) + (if 10000000000000 ≤ n then 1 else 0) + (if 100000000000000 ≤ n then 1 else 0) + (if 1000000000000000 ≤ n then 1 else 0) + (if 10000000000000000 ≤ n then 1 else 0) + (if 100000000000000000 ≤ n then 1 else 0) + (if 1000000000000000000 ≤ n then 1 else 0)
theorem own_wlc {n : Nat} (hn : n ≤ 9223372036854775808) : ∃ i, own_wl n = i ∧ n < 10 ^ i ∧ (2 ≤ i → 10 ^ (i - 1) ≤ n) ∧ 1 ≤ i ∧ i ≤ 19 := by
  by_cases q1 : n < 10
  case pos => exact ⟨1, by unfold own_wl; simp only [if_neg (show ¬ 10 ≤ n by omega), if_neg (show ¬ 100 ≤ n by omega), if_neg (show ¬ 1000 ≤ n by omega), if_neg (show ¬ 10000 ≤ n by omega), if_neg (show ¬ 100000 ≤ n by omega), if_neg (show ¬ 1000000 ≤ n by omega), if_neg (show ¬ 10000000 ≤ n by omega), if_neg (show ¬ 100000000 ≤ n by omega), if_neg (show ¬ 1000000000 ≤ n by omega), if_neg (show ¬ 10000000000 ≤ n by omega), if_neg (show ¬ 100000000000 ≤ n by omega), if_neg (show ¬ 1000000000000 ≤ n by omega), if_neg (show ¬ 10000000000000 ≤ n by omega), if_neg (show ¬ 100000000000000 ≤ n by omega), if_neg (show ¬ 1000000000000000 ≤ n by omega), if_neg (show ¬ 10000000000000000 ≤ n by omega), if_neg (show ¬ 100000000000000000 ≤ n by omega), if_neg (show ¬ 1000000000000000000 ≤ n by omega)], by simpa using q1, fun _ => by omega, by decide, by decide⟩
  by_cases q2 : n < 100
  case pos => exact ⟨2, by unfold own_wl; simp only [if_pos (show 10 ≤ n by omega), if_neg (show ¬ 100 ≤ n by omega), if_neg (show ¬ 1000 ≤ n by omega), if_neg (show ¬ 10000 ≤ n by omega), if_neg (show ¬ 100000 ≤ n by omega), if_neg (show ¬ 1000000 ≤ n by omega), if_neg (show ¬ 10000000 ≤ n by omega), if_neg (show ¬ 100000000 ≤ n by omega), if_neg (show ¬ 1000000000 ≤ n by omega), if_neg (show ¬ 10000000000 ≤ n by omega), if_neg (show ¬ 100000000000 ≤ n by omega), if_neg (show ¬ 1000000000000 ≤ n by omega), if_neg (show ¬ 10000000000000 ≤ n by omega), if_neg (show ¬ 100000000000000 ≤ n by omega), if_neg (show ¬ 1000000000000000 ≤ n by omega), if_neg (show ¬ 10000000000000000 ≤ n by omega), if_neg (show ¬ 100000000000000000 ≤ n by omega), if_neg (show ¬ 1000000000000000000 ≤ n by omega)], by simpa using q2, fun _ => by simpa using (show 10 ≤ n by omega), by decide, by decide⟩
  by_cases q3 : n < 1000
  case pos => exact ⟨3, by unfold own_wl; simp only [if_pos (show 10 ≤ n by omega), if_pos (show 100 ≤ n by omega), if_neg (show ¬ 1000 ≤ n by omega), if_neg (show ¬ 10000 ≤ n by omega), if_neg (show ¬ 100000 ≤ n by omega), if_neg (show ¬ 1000000 ≤ n by omega), if_neg (show ¬ 10000000 ≤ n by omega), if_neg (show ¬ 100000000 ≤ n by omega), if_neg (show ¬ 1000000000 ≤ n by omega), if_neg (show ¬ 10000000000 ≤ n by omega), if_neg (show ¬ 100000000000 ≤ n by omega), if_neg (show ¬ 1000000000000 ≤ n by omega), if_neg (show ¬ 10000000000000 ≤ n by omega), if_neg (show ¬ 100000000000000 ≤ n by omega), if_neg (show ¬ 1000000000000000 ≤ n by omega), if_neg (show ¬ 10000000000000000 ≤ n by omega), if_neg (show ¬ 100000000000000000 ≤ n by omega), if_neg (show ¬ 1000000000000000000 ≤ n by omega)], by simpa using q3, fun _ => by simpa using (show 100 ≤ n by omega), by decide, by decide⟩
  by_cases q4 : n < 10000
  case pos => exact ⟨4, by unfold own_wl; simp only [if_pos (show 10 ≤ n by omega), if_pos (show 100 ≤ n by omega), if_pos (show 1000 ≤ n by omega), if_neg (show ¬ 10000 ≤ n by omega), if_neg (show ¬ 100000 ≤ n by omega), if_neg (show ¬ 1000000 ≤ n by omega), if_neg (show ¬ 10000000 ≤ n by omega), if_neg (show ¬ 100000000 ≤ n by omega), if_neg (show ¬ 1000000000 ≤ n by omega), if_neg (show ¬ 10000000000 ≤ n by omega), if_neg (show ¬ 100000000000 ≤ n by omega), if_neg (show ¬ 1000000000000 ≤ n by omega), if_neg (show ¬ 10000000000000 ≤ n by omega), if_neg (show ¬ 100000000000000 ≤ n by omega), if_neg (show ¬ 1000000000000000 ≤ n by omega), if_neg (show ¬ 10000000000000000 ≤ n by omega), if_neg (show ¬ 100000000000000000 ≤ n by omega), if_neg (show ¬ 1000000000000000000 ≤ n by omega)], by simpa using q4, fun _ => by simpa using (show 1000 ≤ n by omega), by decide, by decide⟩
  by_cases q5 : n < 100000
  case pos => exact ⟨5, by unfold own_wl; simp only [if_pos (show 10 ≤ n by omega), if_pos (show 100 ≤ n by omega), if_pos (show 1000 ≤ n by omega), if_pos (show 10000 ≤ n by omega), if_neg (show ¬ 100000 ≤ n by omega), if_neg (show ¬ 1000000 ≤ n by omega), if_neg (show ¬ 10000000 ≤ n by omega), if_neg (show ¬ 100000000 ≤ n by omega), if_neg (show ¬ 1000000000 ≤ n by omega), if_neg (show ¬ 10000000000 ≤ n by omega), if_neg (show ¬ 100000000000 ≤ n by omega), if_neg (show ¬ 1000000000000 ≤ n by omega), if_neg (show ¬ 10000000000000 ≤ n by omega), if_neg (show ¬ 100000000000000 ≤ n by omega), if_neg (show ¬ 1000000000000000 ≤ n by omega), if_neg (show ¬ 10000000000000000 ≤ n by omega), if_neg (show ¬ 100000000000000000 ≤ n by omega), if_neg (show ¬ 1000000000000000000 ≤ n by omega)], by simpa using q5, fun _ => by simpa using (show 10000 ≤ n by omega), by decide, by decide⟩
  by_cases q6 : n < 1000000
  case pos => exact ⟨6, by unfold own_wl; simp only [if_pos (show 10 ≤ n by omega), if_pos (show 100 ≤ n by omega), if_pos (show 1000 ≤ n by omega), if_pos (show 10000 ≤ n by omega), if_pos (show 100000 ≤ n by omega), if_neg (show ¬ 1000000 ≤ n by omega), if_neg (show ¬ 10000000 ≤ n by omega), if_neg (show ¬ 100000000 ≤ n by omega), if_neg (show ¬ 1000000000 ≤ n by omega), if_neg (show ¬ 10000000000 ≤ n by omega), if_neg (show ¬ 100000000000 ≤ n by omega), if_neg (show ¬ 1000000000000 ≤ n by omega), if_neg (show ¬ 10000000000000 ≤ n by omega), if_neg (show ¬ 100000000000000 ≤ n by omega), if_neg (show ¬ 1000000000000000 ≤ n by omega), if_neg (show ¬ 10000000000000000 ≤ n by omega), if_neg (show ¬ 100000000000000000 ≤ n by omega), if_neg (show ¬ 1000000000000000000 ≤ n by omega)], by simpa using q6, fun _ => by simpa using (show 100000 ≤ n by omega), by decide, by decide⟩
  by_cases q7 : n < 10000000
  case pos => exact ⟨7, by unfold own_wl; simp only [if_pos (show 10 ≤ n by omega), if_pos (show 100 ≤ n by omega), if_pos (show 1000 ≤ n by omega), if_pos (show 10000 ≤ n by omega), if_pos (show 100000 ≤ n by omega), if_pos (show 1000000 ≤ n by omega), if_neg (show ¬ 10000000 ≤ n by omega), if_neg (show ¬ 100000000 ≤ n by omega), if_neg (show ¬ 1000000000 ≤ n by omega), if_neg (show ¬ 10000000000 ≤ n by omega), if_neg (show ¬ 100000000000 ≤ n by omega), if_neg (show ¬ 1000000000000 ≤ n by omega), if_neg (show ¬ 10000000000000 ≤ n by omega), if_neg (show ¬ 100000000000000 ≤ n by omega), if_neg (show ¬ 1000000000000000 ≤ n by omega), if_neg (show ¬ 10000000000000000 ≤ n by omega), if_neg (show ¬ 100000000000000000 ≤ n by omega), if_neg (show ¬ 1000000000000000000 ≤ n by omega)], by simpa using q7, fun _ => by simpa using (show 1000000 ≤ n by omega), by decide, by decide⟩
  by_cases q8 : n < 100000000
  case pos => exact ⟨8, by unfold own_wl; simp only [if_pos (show 10 ≤ n by omega), if_pos (show 100 ≤ n by omega), if_pos (show 1000 ≤ n by omega), if_pos (show 10000 ≤ n by omega), if_pos (show 100000 ≤ n by omega), if_pos (show 1000000 ≤ n by omega), if_pos (show 10000000 ≤ n by omega), if_neg (show ¬ 100000000 ≤ n by omega), if_neg (show ¬ 1000000000 ≤ n by omega), if_neg (show ¬ 10000000000 ≤ n by omega), if_neg (show ¬ 100000000000 ≤ n by omega), if_neg (show ¬ 1000000000000 ≤ n by omega), if_neg (show ¬ 10000000000000 ≤ n by omega), if_neg (show ¬ 100000000000000 ≤ n by omega), if_neg (show ¬ 1000000000000000 ≤ n by omega), if_neg (show ¬ 10000000000000000 ≤ n by omega), if_neg (show ¬ 100000000000000000 ≤ n by omega), if_neg (show ¬ 1000000000000000000 ≤ n by omega)], by simpa using q8, fun _ => by simpa using (show 10000000 ≤ n by omega), by decide, by decide⟩
  by_cases q9 : n < 1000000000
  case pos => exact ⟨9, by unfold own_wl; simp only [if_pos (show 10 ≤ n by omega), if_pos (show 100 ≤ n by omega), if_pos (show 1000 ≤ n by omega), if_pos (show 10000 ≤ n by omega), if_pos (show 100000 ≤ n by omega), if_pos (show 1000000 ≤ n by omega), if_pos (show 10000000 ≤ n by omega), if_pos (show 100000000 ≤ n by omega), if_neg (show ¬ 1000000000 ≤ n by omega), if_neg (show ¬ 10000000000 ≤ n by omega), if_neg (show ¬ 100000000000 ≤ n by omega), if_neg (show ¬ 1000000000000 ≤ n by omega), if_neg (show ¬ 10000000000000 ≤ n by omega), if_neg (show ¬ 100000000000000 ≤ n by omega), if_neg (show ¬ 1000000000000000 ≤ n by omega), if_neg (show ¬ 10000000000000000 ≤ n by omega), if_neg (show ¬ 100000000000000000 ≤ n by omega), if_neg (show ¬ 1000000000000000000 ≤ n by omega)], by simpa using q9, fun _ => by simpa using (show 100000000 ≤ n by omega), by decide, by decide⟩
  by_cases q10 : n < 10000000000
  case pos => exact ⟨10, by unfold own_wl; simp only [if_pos (show 10 ≤ n by omega), if_pos (show 100 ≤ n by omega), if_pos (show 1000 ≤ n by omega), if_pos (show 10000 ≤ n by omega), if_pos (show 100000 ≤ n by omega), if_pos (show 1000000 ≤ n by omega), if_pos (show 10000000 ≤ n by omega), if_pos (show 100000000 ≤ n by omega), if_pos (show 1000000000 ≤ n by omega), if_neg (show ¬ 10000000000 ≤ n by omega), if_neg (show ¬ 100000000000 ≤ n by omega), if_neg (show ¬ 1000000000000 ≤ n by omega), if_neg (show ¬ 10000000000000 ≤ n by omega), if_neg (show ¬ 100000000000000 ≤ n by omega), if_neg (show ¬ 1000000000000000 ≤ n by omega), if_neg (show ¬ 10000000000000000 ≤ n by omega), if_neg (show ¬ 100000000000000000 ≤ n by omega), if_neg (show ¬ 1000000000000000000 ≤ n by omega)], by simpa using q10, fun _ => by simpa using (show 1000000000 ≤ n by omega), by decide, by decide⟩
  by_cases q11 : n < 100000000000
  case pos => exact ⟨11, by unfold own_wl; simp only [if_pos (show 10 ≤ n by omega), if_pos (show 100 ≤ n by omega), if_pos (show 1000 ≤ n by omega), if_pos (show 10000 ≤ n by omega), if_pos (show 100000 ≤ n by omega), if_pos (show 1000000 ≤ n by omega), if_pos (show 10000000 ≤ n by omega), if_pos (show 100000000 ≤ n by omega), if_pos (show 1000000000 ≤ n by omega), if_pos (show 10000000000 ≤ n by omega), if_neg (show ¬ 100000000000 ≤ n by omega), if_neg (show ¬ 1000000000000 ≤ n by omega), if_neg (show ¬ 10000000000000 ≤ n by omega), if_neg (show ¬ 100000000000000 ≤ n by omega), if_neg (show ¬ 1000000000000000 ≤ n by omega), if_neg (show ¬ 10000000000000000 ≤ n by omega), if_neg (show ¬ 100000000000000000 ≤ n by omega), if_neg (show ¬ 1000000000000000000 ≤ n by omega)], by simpa using q11, fun _ => by simpa using (show 10000000000 ≤ n by omega), by decide, by decide⟩
  by_cases q12 : n < 1000000000000
  case pos => exact ⟨12, by unfold own_wl; simp only [if_pos (show 10 ≤ n by omega), if_pos (show 100 ≤ n by omega), if_pos (show 1000 ≤ n by omega), if_pos (show 10000 ≤ n by omega), if_pos (show 100000 ≤ n by omega), if_pos (show 1000000 ≤ n by omega), if_pos (show 10000000 ≤ n by omega), if_pos (show 100000000 ≤ n by omega), if_pos (show 1000000000 ≤ n by omega), if_pos (show 10000000000 ≤ n by omega), if_pos (show 100000000000 ≤ n by omega), if_neg (show ¬ 1000000000000 ≤ n by omega), if_neg (show ¬ 10000000000000 ≤ n by omega), if_neg (show ¬ 100000000000000 ≤ n by omega), if_neg (show ¬ 1000000000000000 ≤ n by omega), if_neg (show ¬ 10000000000000000 ≤ n by omega), if_neg (show ¬ 100000000000000000 ≤ n by omega), if_neg (show ¬ 1000000000000000000 ≤ n by omega)], by simpa using q12, fun _ => by simpa using (show 100000000000 ≤ n by omega), by decide, by decide⟩
  by_cases q13 : n < 10000000000000
  case pos => exact ⟨13, by unfold own_wl; simp only [if_pos (show 10 ≤ n by omega), if_pos (show 100 ≤ n by omega), if_pos (show 1000 ≤ n by omega), if_pos (show 10000 ≤ n by omega), if_pos (show 100000 ≤ n by omega), if_pos (show 1000000 ≤ n by omega), if_pos (show 10000000 ≤ n by omega), if_pos (show 100000000 ≤ n by omega), if_pos (show 1000000000 ≤ n by omega), if_pos (show 10000000000 ≤ n by omega), if_pos (show 100000000000 ≤ n by omega), if_pos (show 1000000000000 ≤ n by omega), if_neg (show ¬ 10000000000000 ≤ n by omega), if_neg (show ¬ 100000000000000 ≤ n by omega), if_neg (show ¬ 1000000000000000 ≤ n by omega), if_neg (show ¬ 10000000000000000 ≤ n by omega), if_neg (show ¬ 100000000000000000 ≤ n by omega), if_neg (show ¬ 1000000000000000000 ≤ n by omega)], by simpa using q13, fun _ => by simpa using (show 1000000000000 ≤ n by omega), by decide, by decide⟩
  by_cases q14 : n < 100000000000000
  case pos => exact ⟨14, by unfold own_wl; simp only [if_pos (show 10 ≤ n by omega), if_pos (show 100 ≤ n by omega), if_pos (show 1000 ≤ n by omega), if_pos (show 10000 ≤ n by omega), if_pos (show 100000 ≤ n by omega), if_pos (show 1000000 ≤ n by omega), if_pos (show 10000000 ≤ n by omega), if_pos (show 100000000 ≤ n by omega), if_pos (show 1000000000 ≤ n by omega), if_pos (show 10000000000 ≤ n by omega), if_pos (show 100000000000 ≤ n by omega), if_pos (show 1000000000000 ≤ n by omega), if_pos (show 10000000000000 ≤ n by omega), if_neg (show ¬ 100000000000000 ≤ n by omega), if_neg (show ¬ 1000000000000000 ≤ n by omega), if_neg (show ¬ 10000000000000000 ≤ n by omega), if_neg (show ¬ 100000000000000000 ≤ n by omega), if_neg (show ¬ 1000000000000000000 ≤ n by omega)], by simpa using q14, fun _ => by simpa using (show 10000000000000 ≤ n by omega), by decide, by decide⟩
  by_cases q15 : n < 1000000000000000
  case pos => exact ⟨15, by unfold own_wl; simp only [if_pos (show 10 ≤ n by omega), if_pos (show 100 ≤ n by omega), if_pos (show 1000 ≤ n by omega), if_pos (show 10000 ≤ n by omega), if_pos (show 100000 ≤ n by omega), if_pos (show 1000000 ≤ n by omega), if_pos (show 10000000 ≤ n by omega), if_pos (show 100000000 ≤ n by omega), if_pos (show 1000000000 ≤ n by omega), if_pos (show 10000000000 ≤ n by omega), if_pos (show 100000000000 ≤ n by omega), if_pos (show 1000000000000 ≤ n by omega), if_pos (show 10000000000000 ≤ n by omega), if_pos (show 100000000000000 ≤ n by omega), if_neg (show ¬ 1000000000000000 ≤ n by omega), if_neg (show ¬ 10000000000000000 ≤ n by omega), if_neg (show ¬ 100000000000000000 ≤ n by omega), if_neg (show ¬ 1000000000000000000 ≤ n by omega)], by simpa using q15, fun _ => by simpa using (show 100000000000000 ≤ n by omega), by decide, by decide⟩
  by_cases q16 : n < 10000000000000000
  case pos => exact ⟨16, by unfold own_wl; simp only [if_pos (show 10 ≤ n by omega), if_pos (show 100 ≤ n by omega), if_pos (show 1000 ≤ n by omega), if_pos (show 10000 ≤ n by omega), if_pos (show 100000 ≤ n by omega), if_pos (show 1000000 ≤ n by omega), if_pos (show 10000000 ≤ n by omega), if_pos (show 100000000 ≤ n by omega), if_pos (show 1000000000 ≤ n by omega), if_pos (show 10000000000 ≤ n by omega), if_pos (show 100000000000 ≤ n by omega), if_pos (show 1000000000000 ≤ n by omega), if_pos (show 10000000000000 ≤ n by omega), if_pos (show 100000000000000 ≤ n by omega), if_pos (show 1000000000000000 ≤ n by omega), if_neg (show ¬ 10000000000000000 ≤ n by omega), if_neg (show ¬ 100000000000000000 ≤ n by omega), if_neg (show ¬ 1000000000000000000 ≤ n by omega)], by simpa using q16, fun _ => by simpa using (show 1000000000000000 ≤ n by omega), by decide, by decide⟩
  by_cases q17 : n < 100000000000000000
  case pos => exact ⟨17, by unfold own_wl; simp only [if_pos (show 10 ≤ n by omega), if_pos (show 100 ≤ n by omega), if_pos (show 1000 ≤ n by omega), if_pos (show 10000 ≤ n by omega), if_pos (show 100000 ≤ n by omega), if_pos (show 1000000 ≤ n by omega), if_pos (show 10000000 ≤ n by omega), if_pos (show 100000000 ≤ n by omega), if_pos (show 1000000000 ≤ n by omega), if_pos (show 10000000000 ≤ n by omega), if_pos (show 100000000000 ≤ n by omega), if_pos (show 1000000000000 ≤ n by omega), if_pos (show 10000000000000 ≤ n by omega), if_pos (show 100000000000000 ≤ n by omega), if_pos (show 1000000000000000 ≤ n by omega), if_pos (show 10000000000000000 ≤ n by omega), if_neg (show ¬ 100000000000000000 ≤ n by omega), if_neg (show ¬ 1000000000000000000 ≤ n by omega)], by simpa using q17, fun _ => by simpa using (show 10000000000000000 ≤ n by omega), by decide, by decide⟩
  by_cases q18 : n < 1000000000000000000
  case pos => exact ⟨18, by unfold own_wl; simp only [if_pos (show 10 ≤ n by omega), if_pos (show 100 ≤ n by omega), if_pos (show 1000 ≤ n by omega), if_pos (show 10000 ≤ n by omega), if_pos (show 100000 ≤ n by omega), if_pos (show 1000000 ≤ n by omega), if_pos (show 10000000 ≤ n by omega), if_pos (show 100000000 ≤ n by omega), if_pos (show 1000000000 ≤ n by omega), if_pos (show 10000000000 ≤ n by omega), if_pos (show 100000000000 ≤ n by omega), if_pos (show 1000000000000 ≤ n by omega), if_pos (show 10000000000000 ≤ n by omega), if_pos (show 100000000000000 ≤ n by omega), if_pos (show 1000000000000000 ≤ n by omega), if_pos (show 10000000000000000 ≤ n by omega), if_pos (show 100000000000000000 ≤ n by omega), if_neg (show ¬ 1000000000000000000 ≤ n by omega)], by simpa using q18, fun _ => by simpa using (show 100000000000000000 ≤ n by omega), by decide, by decide⟩
  exact ⟨19, by unfold own_wl; simp only [if_pos (show 10 ≤ n by omega), if_pos (show 100 ≤ n by omega), if_pos (show 1000 ≤ n by omega), if_pos (show 10000 ≤ n by omega), if_pos (show 100000 ≤ n by omega), if_pos (show 1000000 ≤ n by omega), if_pos (show 10000000 ≤ n by omega), if_pos (show 100000000 ≤ n by omega), if_pos (show 1000000000 ≤ n by omega), if_pos (show 10000000000 ≤ n by omega), if_pos (show 100000000000 ≤ n by omega), if_pos (show 1000000000000 ≤ n by omega), if_pos (show 10000000000000 ≤ n by omega), if_pos (show 100000000000000 ≤ n by omega), if_pos (show 1000000000000000 ≤ n by omega), if_pos (show 10000000000000000 ≤ n by omega), if_pos (show 100000000000000000 ≤ n by omega), if_pos (show 1000000000000000000 ≤ n by omega)], by simpa using (show n < 10000000000000000000 by omega), fun _ => by simpa using (show 1000000000000000000 ≤ n by omega), by decide, by decide⟩
theorem own_wlp {n : Nat} (hn : n ≤ 9223372036854775808) : n < 10 ^ own_wl n ∧ (2 ≤ own_wl n → 10 ^ (own_wl n - 1) ≤ n) ∧ 1 ≤ own_wl n ∧ own_wl n ≤ 19 := by
  obtain ⟨i, h, r⟩ := own_wlc hn
  rw [h]; exact r
theorem own_wl1 {n : Nat}  (h2 : n < 10) : own_wl n = 1 := by unfold own_wl; simp only [if_neg (show ¬ 10 ≤ n by omega), if_neg (show ¬ 100 ≤ n by omega), if_neg (show ¬ 1000 ≤ n by omega), if_neg (show ¬ 10000 ≤ n by omega), if_neg (show ¬ 100000 ≤ n by omega), if_neg (show ¬ 1000000 ≤ n by omega), if_neg (show ¬ 10000000 ≤ n by omega), if_neg (show ¬ 100000000 ≤ n by omega), if_neg (show ¬ 1000000000 ≤ n by omega), if_neg (show ¬ 10000000000 ≤ n by omega), if_neg (show ¬ 100000000000 ≤ n by omega), if_neg (show ¬ 1000000000000 ≤ n by omega), if_neg (show ¬ 10000000000000 ≤ n by omega), if_neg (show ¬ 100000000000000 ≤ n by omega), if_neg (show ¬ 1000000000000000 ≤ n by omega), if_neg (show ¬ 10000000000000000 ≤ n by omega), if_neg (show ¬ 100000000000000000 ≤ n by omega), if_neg (show ¬ 1000000000000000000 ≤ n by omega)]
theorem own_wl2 {n : Nat} (h1 : 10 ≤ n) (h2 : n < 100) : own_wl n = 2 := by unfold own_wl; simp only [if_pos (show 10 ≤ n by omega), if_neg (show ¬ 100 ≤ n by omega), if_neg (show ¬ 1000 ≤ n by omega), if_neg (show ¬ 10000 ≤ n by omega), if_neg (show ¬ 100000 ≤ n by omega), if_neg (show ¬ 1000000 ≤ n by omega), if_neg (show ¬ 10000000 ≤ n by omega), if_neg (show ¬ 100000000 ≤ n by omega), if_neg (show ¬ 1000000000 ≤ n by omega), if_neg (show ¬ 10000000000 ≤ n by omega), if_neg (show ¬ 100000000000 ≤ n by omega), if_neg (show ¬ 1000000000000 ≤ n by omega), if_neg (show ¬ 10000000000000 ≤ n by omega), if_neg (show ¬ 100000000000000 ≤ n by omega), if_neg (show ¬ 1000000000000000 ≤ n by omega), if_neg (show ¬ 10000000000000000 ≤ n by omega), if_neg (show ¬ 100000000000000000 ≤ n by omega), if_neg (show ¬ 1000000000000000000 ≤ n by omega)]
theorem own_wl3 {n : Nat} (h1 : 100 ≤ n) (h2 : n < 1000) : own_wl n = 3 := by unfold own_wl; simp only [if_pos (show 10 ≤ n by omega), if_pos (show 100 ≤ n by omega), if_neg (show ¬ 1000 ≤ n by omega), if_neg (show ¬ 10000 ≤ n by omega), if_neg (show ¬ 100000 ≤ n by omega), if_neg (show ¬ 1000000 ≤ n by omega), if_neg (show ¬ 10000000 ≤ n by omega), if_neg (show ¬ 100000000 ≤ n by omega), if_neg (show ¬ 1000000000 ≤ n by omega), if_neg (show ¬ 10000000000 ≤ n by omega), if_neg (show ¬ 100000000000 ≤ n by omega), if_neg (show ¬ 1000000000000 ≤ n by omega), if_neg (show ¬ 10000000000000 ≤ n by omega), if_neg (show ¬ 100000000000000 ≤ n by omega), if_neg (show ¬ 1000000000000000 ≤ n by omega), if_neg (show ¬ 10000000000000000 ≤ n by omega), if_neg (show ¬ 100000000000000000 ≤ n by omega), if_neg (show ¬ 1000000000000000000 ≤ n by omega)]
theorem own_wl4 {n : Nat} (h1 : 1000 ≤ n) (h2 : n < 10000) : own_wl n = 4 := by unfold own_wl; simp only [if_pos (show 10 ≤ n by omega), if_pos (show 100 ≤ n by omega), if_pos (show 1000 ≤ n by omega), if_neg (show ¬ 10000 ≤ n by omega), if_neg (show ¬ 100000 ≤ n by omega), if_neg (show ¬ 1000000 ≤ n by omega), if_neg (show ¬ 10000000 ≤ n by omega), if_neg (show ¬ 100000000 ≤ n by omega), if_neg (show ¬ 1000000000 ≤ n by omega), if_neg (show ¬ 10000000000 ≤ n by omega), if_neg (show ¬ 100000000000 ≤ n by omega), if_neg (show ¬ 1000000000000 ≤ n by omega), if_neg (show ¬ 10000000000000 ≤ n by omega), if_neg (show ¬ 100000000000000 ≤ n by omega), if_neg (show ¬ 1000000000000000 ≤ n by omega), if_neg (show ¬ 10000000000000000 ≤ n by omega), if_neg (show ¬ 100000000000000000 ≤ n by omega), if_neg (show ¬ 1000000000000000000 ≤ n by omega)]
theorem own_wl5 {n : Nat} (h1 : 10000 ≤ n) (h2 : n < 100000) : own_wl n = 5 := by unfold own_wl; simp only [if_pos (show 10 ≤ n by omega), if_pos (show 100 ≤ n by omega), if_pos (show 1000 ≤ n by omega), if_pos (show 10000 ≤ n by omega), if_neg (show ¬ 100000 ≤ n by omega), if_neg (show ¬ 1000000 ≤ n by omega), if_neg (show ¬ 10000000 ≤ n by omega), if_neg (show ¬ 100000000 ≤ n by omega), if_neg (show ¬ 1000000000 ≤ n by omega), if_neg (show ¬ 10000000000 ≤ n by omega), if_neg (show ¬ 100000000000 ≤ n by omega), if_neg (show ¬ 1000000000000 ≤ n by omega), if_neg (show ¬ 10000000000000 ≤ n by omega), if_neg (show ¬ 100000000000000 ≤ n by omega), if_neg (show ¬ 1000000000000000 ≤ n by omega), if_neg (show ¬ 10000000000000000 ≤ n by omega), if_neg (show ¬ 100000000000000000 ≤ n by omega), if_neg (show ¬ 1000000000000000000 ≤ n by omega)]
theorem own_wl6 {n : Nat} (h1 : 100000 ≤ n) (h2 : n < 1000000) : own_wl n = 6 := by unfold own_wl; simp only [if_pos (show 10 ≤ n by omega), if_pos (show 100 ≤ n by omega), if_pos (show 1000 ≤ n by omega), if_pos (show 10000 ≤ n by omega), if_pos (show 100000 ≤ n by omega), if_neg (show ¬ 1000000 ≤ n by omega), if_neg (show ¬ 10000000 ≤ n by omega), if_neg (show ¬ 100000000 ≤ n by omega), if_neg (show ¬ 1000000000 ≤ n by omega), if_neg (show ¬ 10000000000 ≤ n by omega), if_neg (show ¬ 100000000000 ≤ n by omega), if_neg (show ¬ 1000000000000 ≤ n by omega), if_neg (show ¬ 10000000000000 ≤ n by omega), if_neg (show ¬ 100000000000000 ≤ n by omega), if_neg (show ¬ 1000000000000000 ≤ n by omega), if_neg (show ¬ 10000000000000000 ≤ n by omega), if_neg (show ¬ 100000000000000000 ≤ n by omega), if_neg (show ¬ 1000000000000000000 ≤ n by omega)]
theorem own_wl7 {n : Nat} (h1 : 1000000 ≤ n) (h2 : n < 10000000) : own_wl n = 7 := by unfold own_wl; simp only [if_pos (show 10 ≤ n by omega), if_pos (show 100 ≤ n by omega), if_pos (show 1000 ≤ n by omega), if_pos (show 10000 ≤ n by omega), if_pos (show 100000 ≤ n by omega), if_pos (show 1000000 ≤ n by omega), if_neg (show ¬ 10000000 ≤ n by omega), if_neg (show ¬ 100000000 ≤ n by omega), if_neg (show ¬ 1000000000 ≤ n by omega), if_neg (show ¬ 10000000000 ≤ n by omega), if_neg (show ¬ 100000000000 ≤ n by omega), if_neg (show ¬ 1000000000000 ≤ n by omega), if_neg (show ¬ 10000000000000 ≤ n by omega), if_neg (show ¬ 100000000000000 ≤ n by omega), if_neg (show ¬ 1000000000000000 ≤ n by omega), if_neg (show ¬ 10000000000000000 ≤ n by omega), if_neg (show ¬ 100000000000000000 ≤ n by omega), if_neg (show ¬ 1000000000000000000 ≤ n by omega)]
theorem own_wl8 {n : Nat} (h1 : 10000000 ≤ n) (h2 : n < 100000000) : own_wl n = 8 := by unfold own_wl; simp only [if_pos (show 10 ≤ n by omega), if_pos (show 100 ≤ n by omega), if_pos (show 1000 ≤ n by omega), if_pos (show 10000 ≤ n by omega), if_pos (show 100000 ≤ n by omega), if_pos (show 1000000 ≤ n by omega), if_pos (show 10000000 ≤ n by omega), if_neg (show ¬ 100000000 ≤ n by omega), if_neg (show ¬ 1000000000 ≤ n by omega), if_neg (show ¬ 10000000000 ≤ n by omega), if_neg (show ¬ 100000000000 ≤ n by omega), if_neg (show ¬ 1000000000000 ≤ n by omega), if_neg (show ¬ 10000000000000 ≤ n by omega), if_neg (show ¬ 100000000000000 ≤ n by omega), if_neg (show ¬ 1000000000000000 ≤ n by omega), if_neg (show ¬ 10000000000000000 ≤ n by omega), if_neg (show ¬ 100000000000000000 ≤ n by omega), if_neg (show ¬ 1000000000000000000 ≤ n by omega)]
theorem own_wl9 {n : Nat} (h1 : 100000000 ≤ n) (h2 : n < 1000000000) : own_wl n = 9 := by unfold own_wl; simp only [if_pos (show 10 ≤ n by omega), if_pos (show 100 ≤ n by omega), if_pos (show 1000 ≤ n by omega), if_pos (show 10000 ≤ n by omega), if_pos (show 100000 ≤ n by omega), if_pos (show 1000000 ≤ n by omega), if_pos (show 10000000 ≤ n by omega), if_pos (show 100000000 ≤ n by omega), if_neg (show ¬ 1000000000 ≤ n by omega), if_neg (show ¬ 10000000000 ≤ n by omega), if_neg (show ¬ 100000000000 ≤ n by omega), if_neg (show ¬ 1000000000000 ≤ n by omega), if_neg (show ¬ 10000000000000 ≤ n by omega), if_neg (show ¬ 100000000000000 ≤ n by omega), if_neg (show ¬ 1000000000000000 ≤ n by omega), if_neg (show ¬ 10000000000000000 ≤ n by omega), if_neg (show ¬ 100000000000000000 ≤ n by omega), if_neg (show ¬ 1000000000000000000 ≤ n by omega)]
theorem own_wl10 {n : Nat} (h1 : 1000000000 ≤ n) (h2 : n < 10000000000) : own_wl n = 10 := by unfold own_wl; simp only [if_pos (show 10 ≤ n by omega), if_pos (show 100 ≤ n by omega), if_pos (show 1000 ≤ n by omega), if_pos (show 10000 ≤ n by omega), if_pos (show 100000 ≤ n by omega), if_pos (show 1000000 ≤ n by omega), if_pos (show 10000000 ≤ n by omega), if_pos (show 100000000 ≤ n by omega), if_pos (show 1000000000 ≤ n by omega), if_neg (show ¬ 10000000000 ≤ n by omega), if_neg (show ¬ 100000000000 ≤ n by omega), if_neg (show ¬ 1000000000000 ≤ n by omega), if_neg (show ¬ 10000000000000 ≤ n by omega), if_neg (show ¬ 100000000000000 ≤ n by omega), if_neg (show ¬ 1000000000000000 ≤ n by omega), if_neg (show ¬ 10000000000000000 ≤ n by omega), if_neg (show ¬ 100000000000000000 ≤ n by omega), if_neg (show ¬ 1000000000000000000 ≤ n by omega)]
theorem own_wl11 {n : Nat} (h1 : 10000000000 ≤ n) (h2 : n < 100000000000) : own_wl n = 11 := by unfold own_wl; simp only [if_pos (show 10 ≤ n by omega), if_pos (show 100 ≤ n by omega), if_pos (show 1000 ≤ n by omega), if_pos (show 10000 ≤ n by omega), if_pos (show 100000 ≤ n by omega), if_pos (show 1000000 ≤ n by omega), if_pos (show 10000000 ≤ n by omega), if_pos (show 100000000 ≤ n by omega), if_pos (show 1000000000 ≤ n by omega), if_pos (show 10000000000 ≤ n by omega), if_neg (show ¬ 100000000000 ≤ n by omega), if_neg (show ¬ 1000000000000 ≤ n by omega), if_neg (show ¬ 10000000000000 ≤ n by omega), if_neg (show ¬ 100000000000000 ≤ n by omega), if_neg (show ¬ 1000000000000000 ≤ n by omega), if_neg (show ¬ 10000000000000000 ≤ n by omega), if_neg (show ¬ 100000000000000000 ≤ n by omega), if_neg (show ¬ 1000000000000000000 ≤ n by omega)]
theorem own_wl12 {n : Nat} (h1 : 100000000000 ≤ n) (h2 : n < 1000000000000) : own_wl n = 12 := by unfold own_wl; simp only [if_pos (show 10 ≤ n by omega), if_pos (show 100 ≤ n by omega), if_pos (show 1000 ≤ n by omega), if_pos (show 10000 ≤ n by omega), if_pos (show 100000 ≤ n by omega), if_pos (show 1000000 ≤ n by omega), if_pos (show 10000000 ≤ n by omega), if_pos (show 100000000 ≤ n by omega), if_pos (show 1000000000 ≤ n by omega), if_pos (show 10000000000 ≤ n by omega), if_pos (show 100000000000 ≤ n by omega), if_neg (show ¬ 1000000000000 ≤ n by omega), if_neg (show ¬ 10000000000000 ≤ n by omega), if_neg (show ¬ 100000000000000 ≤ n by omega), if_neg (show ¬ 1000000000000000 ≤ n by omega), if_neg (show ¬ 10000000000000000 ≤ n by omega), if_neg (show ¬ 100000000000000000 ≤ n by omega), if_neg (show ¬ 1000000000000000000 ≤ n by omega)]
theorem own_wl13 {n : Nat} (h1 : 1000000000000 ≤ n) (h2 : n < 10000000000000) : own_wl n = 13 := by unfold own_wl; simp only [if_pos (show 10 ≤ n by omega), if_pos (show 100 ≤ n by omega), if_pos (show 1000 ≤ n by omega), if_pos (show 10000 ≤ n by omega), if_pos (show 100000 ≤ n by omega), if_pos (show 1000000 ≤ n by omega), if_pos (show 10000000 ≤ n by omega), if_pos (show 100000000 ≤ n by omega), if_pos (show 1000000000 ≤ n by omega), if_pos (show 10000000000 ≤ n by omega), if_pos (show 100000000000 ≤ n by omega), if_pos (show 1000000000000 ≤ n by omega), if_neg (show ¬ 10000000000000 ≤ n by omega), if_neg (show ¬ 100000000000000 ≤ n by omega), if_neg (show ¬ 1000000000000000 ≤ n by omega), if_neg (show ¬ 10000000000000000 ≤ n by omega), if_neg (show ¬ 100000000000000000 ≤ n by omega), if_neg (show ¬ 1000000000000000000 ≤ n by omega)]
theorem own_wl14 {n : Nat} (h1 : 10000000000000 ≤ n) (h2 : n < 100000000000000) : own_wl n = 14 := by unfold own_wl; simp only [if_pos (show 10 ≤ n by omega), if_pos (show 100 ≤ n by omega), if_pos (show 1000 ≤ n by omega), if_pos (show 10000 ≤ n by omega), if_pos (show 100000 ≤ n by omega), if_pos (show 1000000 ≤ n by omega), if_pos (show 10000000 ≤ n by omega), if_pos (show 100000000 ≤ n by omega), if_pos (show 1000000000 ≤ n by omega), if_pos (show 10000000000 ≤ n by omega), if_pos (show 100000000000 ≤ n by omega), if_pos (show 1000000000000 ≤ n by omega), if_pos (show 10000000000000 ≤ n by omega), if_neg (show ¬ 100000000000000 ≤ n by omega), if_neg (show ¬ 1000000000000000 ≤ n by omega), if_neg (show ¬ 10000000000000000 ≤ n by omega), if_neg (show ¬ 100000000000000000 ≤ n by omega), if_neg (show ¬ 1000000000000000000 ≤ n by omega)]
theorem own_wl15 {n : Nat} (h1 : 100000000000000 ≤ n) (h2 : n < 1000000000000000) : own_wl n = 15 := by unfold own_wl; simp only [if_pos (show 10 ≤ n by omega), if_pos (show 100 ≤ n by omega), if_pos (show 1000 ≤ n by omega), if_pos (show 10000 ≤ n by omega), if_pos (show 100000 ≤ n by omega), if_pos (show 1000000 ≤ n by omega), if_pos (show 10000000 ≤ n by omega), if_pos (show 100000000 ≤ n by omega), if_pos (show 1000000000 ≤ n by omega), if_pos (show 10000000000 ≤ n by omega), if_pos (show 100000000000 ≤ n by omega), if_pos (show 1000000000000 ≤ n by omega), if_pos (show 10000000000000 ≤ n by omega), if_pos (show 100000000000000 ≤ n by omega), if_neg (show ¬ 1000000000000000 ≤ n by omega), if_neg (show ¬ 10000000000000000 ≤ n by omega), if_neg (show ¬ 100000000000000000 ≤ n by omega), if_neg (show ¬ 1000000000000000000 ≤ n by omega)]
theorem own_wl16 {n : Nat} (h1 : 1000000000000000 ≤ n) (h2 : n < 10000000000000000) : own_wl n = 16 := by unfold own_wl; simp only [if_pos (show 10 ≤ n by omega), if_pos (show 100 ≤ n by omega), if_pos (show 1000 ≤ n by omega), if_pos (show 10000 ≤ n by omega), if_pos (show 100000 ≤ n by omega), if_pos (show 1000000 ≤ n by omega), if_pos (show 10000000 ≤ n by omega), if_pos (show 100000000 ≤ n by omega), if_pos (show 1000000000 ≤ n by omega), if_pos (show 10000000000 ≤ n by omega), if_pos (show 100000000000 ≤ n by omega), if_pos (show 1000000000000 ≤ n by omega), if_pos (show 10000000000000 ≤ n by omega), if_pos (show 100000000000000 ≤ n by omega), if_pos (show 1000000000000000 ≤ n by omega), if_neg (show ¬ 10000000000000000 ≤ n by omega), if_neg (show ¬ 100000000000000000 ≤ n by omega), if_neg (show ¬ 1000000000000000000 ≤ n by omega)]
theorem own_wl17 {n : Nat} (h1 : 10000000000000000 ≤ n) (h2 : n < 100000000000000000) : own_wl n = 17 := by unfold own_wl; simp only [if_pos (show 10 ≤ n by omega), if_pos (show 100 ≤ n by omega), if_pos (show 1000 ≤ n by omega), if_pos (show 10000 ≤ n by omega), if_pos (show 100000 ≤ n by omega), if_pos (show 1000000 ≤ n by omega), if_pos (show 10000000 ≤ n by omega), if_pos (show 100000000 ≤ n by omega), if_pos (show 1000000000 ≤ n by omega), if_pos (show 10000000000 ≤ n by omega), if_pos (show 100000000000 ≤ n by omega), if_pos (show 1000000000000 ≤ n by omega), if_pos (show 10000000000000 ≤ n by omega), if_pos (show 100000000000000 ≤ n by omega), if_pos (show 1000000000000000 ≤ n by omega), if_pos (show 10000000000000000 ≤ n by omega), if_neg (show ¬ 100000000000000000 ≤ n by omega), if_neg (show ¬ 1000000000000000000 ≤ n by omega)]
theorem own_wl18 {n : Nat} (h1 : 100000000000000000 ≤ n) (h2 : n < 1000000000000000000) : own_wl n = 18 := by unfold own_wl; simp only [if_pos (show 10 ≤ n by omega), if_pos (show 100 ≤ n by omega), if_pos (show 1000 ≤ n by omega), if_pos (show 10000 ≤ n by omega), if_pos (show 100000 ≤ n by omega), if_pos (show 1000000 ≤ n by omega), if_pos (show 10000000 ≤ n by omega), if_pos (show 100000000 ≤ n by omega), if_pos (show 1000000000 ≤ n by omega), if_pos (show 10000000000 ≤ n by omega), if_pos (show 100000000000 ≤ n by omega), if_pos (show 1000000000000 ≤ n by omega), if_pos (show 10000000000000 ≤ n by omega), if_pos (show 100000000000000 ≤ n by omega), if_pos (show 1000000000000000 ≤ n by omega), if_pos (show 10000000000000000 ≤ n by omega), if_pos (show 100000000000000000 ≤ n by omega), if_neg (show ¬ 1000000000000000000 ≤ n by omega)]
theorem own_wl19 {n : Nat} (h1 : 1000000000000000000 ≤ n) : own_wl n = 19 := by unfold own_wl; simp only [if_pos (show 10 ≤ n by omega), if_pos (show 100 ≤ n by omega), if_pos (show 1000 ≤ n by omega), if_pos (show 10000 ≤ n by omega), if_pos (show 100000 ≤ n by omega), if_pos (show 1000000 ≤ n by omega), if_pos (show 10000000 ≤ n by omega), if_pos (show 100000000 ≤ n by omega), if_pos (show 1000000000 ≤ n by omega), if_pos (show 10000000000 ≤ n by omega), if_pos (show 100000000000 ≤ n by omega), if_pos (show 1000000000000 ≤ n by omega), if_pos (show 10000000000000 ≤ n by omega), if_pos (show 100000000000000 ≤ n by omega), if_pos (show 1000000000000000 ≤ n by omega), if_pos (show 10000000000000000 ≤ n by omega), if_pos (show 100000000000000000 ≤ n by omega), if_pos (show 1000000000000000000 ≤ n by omega)]
def own_sg (v : Int64) : Nat := if v < 0 then 1 else 0
def own_num (v : Int64) (n : Nat) : List Value := (if v < 0 then [Value.int (45 : Int32)] else []) ++ own_dig (own_wl n) n
theorem own_numlen (v : Int64) (n : Nat) : (own_num v n).length = own_wl n + own_sg v := by
  unfold own_num own_sg; split <;> simp [own_diglen, Nat.add_comm]
theorem own_sgle (v : Int64) : own_sg v ≤ 1 := by unfold own_sg; split <;> decide
/-- the long v is n, or its opposite -/
def own_mag (v : Int64) (n : Nat) : Prop := n ≤ 9223372036854775808 ∧ (if v < 0 then v else -v) = Jvm.Free.SBG.negL n
def own_two (s4 s5 : Slot) : Prop := (s4 = .unset ∧ s5 = .unset) ∨ ∃ q : Int64, s4 = .val (.long q) ∧ s5 = .second
theorem own_sl4 {x0 : Int64} {a2 a3 a7 a8 : Value} {s4 s5 s6 s9 s10 : Slot} {q : Int64} (h : own_two s4 s5) (h3 : a3.category = 1) (h6 : One s6) : storeLocals #[.val (.long x0), .second, .val a2, .val a3, s4, s5, s6, .val a7, .val a8, s9, s10] 4 (.long q) = some #[.val (.long x0), .second, .val a2, .val a3, .val (.long q), .second, s6, .val a7, .val a8, s9, s10] := by
  rcases h with ⟨rfl, rfl⟩ | ⟨z, rfl, rfl⟩ <;> (rcases h6 with rfl | ⟨w, rfl, hw⟩) <;> cases a3 <;> first | rfl | (simp [Value.category] at h3)
theorem own_sl6 {x0 : Int64} {a2 a3 a7 a8 : Value} {s4 s5 s6 s9 s10 : Slot} {q : Int32} (h : own_two s4 s5) (h6 : One s6) : storeLocals #[.val (.long x0), .second, .val a2, .val a3, s4, s5, s6, .val a7, .val a8, s9, s10] 6 (.int q) = some #[.val (.long x0), .second, .val a2, .val a3, s4, s5, .val (.int q), .val a7, .val a8, s9, s10] := by
  rcases h with ⟨rfl, rfl⟩ | ⟨z, rfl, rfl⟩ <;> (rcases h6 with rfl | ⟨w, rfl, hw⟩) <;> first | rfl | (cases w <;> first | rfl | (simp [Value.category] at hw))
theorem own_sl9 {x0 : Int64} {a2 a3 a7 a8 : Value} {s4 s5 s6 s9 : Slot} {y q : Int32} (h8 : a8.category = 1) (h9 : One s9) : storeLocals #[.val (.long x0), .second, .val a2, .val a3, s4, s5, s6, .val a7, .val a8, s9, .val (.int y)] 9 (.int q) = some #[.val (.long x0), .second, .val a2, .val a3, s4, s5, s6, .val a7, .val a8, .val (.int q), .val (.int y)] := by
  rcases h9 with rfl | ⟨w, rfl, hw⟩
  · cases a8 <;> first | rfl | (simp [Value.category] at h8)
  · cases w <;> cases a8 <;> first | rfl | (simp [Value.category] at hw h8)
theorem own_sl10 {x0 : Int64} {a2 a3 a7 a8 : Value} {s4 s5 s6 : Slot} {q : Int32} : storeLocals #[.val (.long x0), .second, .val a2, .val a3, s4, s5, s6, .val a7, .val a8, .unset, .unset] 10 (.int q) = some #[.val (.long x0), .second, .val a2, .val a3, s4, s5, s6, .val a7, .val a8, .unset, .val (.int q)] := rfl
theorem own_magp {v : Int64} {n : Nat} (h : own_mag v n) (hv : ¬ v < 0) : -v = Jvm.Free.SBG.negL n := by have := h.2; rwa [if_neg hv] at this
theorem own_magn {v : Int64} {n : Nat} (h : own_mag v n) (hv : v < 0) : v = Jvm.Free.SBG.negL n := by have := h.2; rwa [if_pos hv] at this
theorem own_setm {bs ds : List Value} {x : Value} : (bs ++ List.replicate 1 (Value.int (0 : Int32)) ++ ds).set bs.length x = bs ++ ([x] ++ ds) := by simp [List.set_append_right]
theorem own_sub1 {n : Nat} (h : 1 ≤ n) : Int32.ofNat n - (1 : Int32) = Int32.ofNat (n - 1) := by
  obtain ⟨k, rfl⟩ : ∃ k, n = k + 1 := ⟨n - 1, by omega⟩
  rw [← own_inc, Nat.add_sub_cancel]
  have c := c_isub (Int32.ofNat k + 1) 1
  have c2 := c_iadd (Int32.ofNat k) 1
  have e1 : (1 : Int32).toInt = 1 := rfl
  have r1 := rng32 (Int32.ofNat k + 1 - 1)
  have r2 := rng32 (Int32.ofNat k)
  exact Int32.toInt_inj.mp (by omega)
def own_EL : List (String × Nat) := [("com/example/drain_shards/drainshards/Lease", 7), ("com/example/drain_shards/drainshards/Lease", 29), ("com/example/drain_shards/drainshards/Lease", 66), ("com/example/drain_shards/drainshards/Lease", 68), ("com/example/drain_shards/drainshards/Lease", 70), ("com/example/drain_shards/drainshards/Lease", 75), ("com/example/drain_shards/drainshards/Lease", 77)]
theorem own_hEL {Z : State} {a0 : Array Value} (hw : ∀ d ∈ tables_1, d.before a0 Z = true) : EW Z a0 own_EL := (EW.cons (own_g hw 51 rfl) (by decide) (EW.cons (own_g hw 65 rfl) (by decide) (EW.cons (own_g hw 91 rfl) (by decide) (EW.cons (own_g hw 139 rfl) (by decide) (EW.cons (own_g hw 163 rfl) (by decide) (EW.cons (own_g hw 189 rfl) (by decide) (EW.cons (own_g hw 190 rfl) (by decide) EW.nil)))))))
theorem own_wS {Z : State} {a0 : Array Value} (hw : ∀ d ∈ tables_1, d.before a0 Z = true) : ∀ a ∈ Bundle.stringAtoms, a.before a0 Z = true := fun a ha => by
  simp only [Bundle.stringAtoms, List.mem_cons, List.not_mem_nil, or_false] at ha
  rcases ha with rfl | rfl | rfl | rfl | rfl | rfl | rfl
  · exact (own_g hw 2 rfl)
  · exact (own_g hw 1 rfl)
  · exact (own_g hw 19 rfl)
  · exact (own_g hw 29 rfl)
  · exact (own_g hw 27 rfl)
  · exact (own_g hw 52 rfl)
  · exact (own_g hw 53 rfl)
theorem d42_152_0 : DK jdk_42_method_152_code 0 (.getstatic 38) 3 := by decide +kernel
theorem d42_152_3 : DK jdk_42_method_152_code 3 (.ifCond .eq 10) 3 := by decide +kernel
theorem d42_152_6 : DK jdk_42_method_152_code 6 (.aload_n 0) 1 := by decide +kernel
theorem d42_152_7 : DK jdk_42_method_152_code 7 (.getfield 15) 3 := by decide +kernel
theorem d42_152_10 : DK jdk_42_method_152_code 10 (.goto 4) 3 := by decide +kernel
theorem d42_152_14 : DK jdk_42_method_152_code 14 .ireturn 1 := by decide +kernel
theorem opl_rm_coder : plainFor (⟨"java/lang/String", "coder", "()B"⟩ : MethodName) = true := plainFor_of_name (by first | (simp [plainName, overriddenIn]; done) | decide +kernel)
theorem rm_coder (l : Launch) (Z : State) (a0 : Array Value) (hw : ∀ d ∈ tables_1, d.before a0 Z = true) (ws : List Jvm.Cond) (a : Addr) (zc : Int32) (wf : Value) (n0 : Nat) (h0 : Heap) (SS : own_SS Z zc wf) (O : Old Z n0 h0) (C : Fld Z h0 a "java/lang/String" "coder" "B" (.int (0 : Int32))) :
    Con l Z (⟨"java/lang/String", "coder", "()B"⟩ : MethodName) jdk_42_method_152_code 1 (some .byte) ws ({ frames := 0, cells := 0, slots := 0, locals := 0 } : Room) #[(.ref a)] h0 (fun v h L => v = some (.int (0 : Int32)) ∧ L = [] ∧ h = h0) := by
  refine Con.intro opl_rm_coder ?_
  intro p e s m below meth c s₁ hx hby hml hown hret hlk hZ hnm X0 e0
  obtain ⟨hzc, SC, hwf, SF⟩ := SS
  have Z0 : n0 ≤ h0.size := O.1 ▸ O.2.1
  have N0 := Fr.nil n0
  refine OGo.cast (g' := (mkF m 0 #[.val (.ref a)] [])) (by first | (simp [entryFrame, mkF, argsToLocals, Value.category]; done) | rfl) ?_
  obtain ⟨T1, X1, e1, st1⟩ := getS2 X0 hx hZ hown (host := "") (Or.inl (own_g hw 14 rfl)) Via.refl e0 (SC.ext O.2) (g := (mkF m 0 #[.val (.ref a)] [])) rfl (hb hby d42_152_0)
  refine og st1 ?_
  refine og (fun _ k => XS.ifNo X1.here hx rfl (hb hby d42_152_3) rfl ((if0 _ _).trans (feq hzc).1) k) ?_
  refine og (fun _ k => XS.aloadN X1.here hx rfl (hb hby d42_152_6) rfl rfl k) ?_
  obtain ⟨T2, X2, e2, st2⟩ := getF X1 hx hZ hown (host := "") (Or.inl (own_g hw 26 rfl)) Via.refl e1 C (g := (mkF m 7 #[.val (.ref a)] [(.ref a)])) rfl rfl (hb hby d42_152_7)
  refine og st2 ?_
  refine og (fun _ k => XS.goto X2.here hx rfl (pc0 := 10) (pc' := 14) rfl (hb hby d42_152_10) (by decide) (by decide) k) ?_
  show OGo p e below _ T2 (mkF m 14 #[.val (.ref a)] [(.int (0 : Int32))])
  exact OGo.ret X2 hx (t := .byte) hret hlk rfl (Or.inl ⟨rfl, by simp, _, rfl⟩) (hb hby d42_152_14) (by decide) (by decide) ⟨rfl, rfl, e2⟩
theorem d42_54_0 : DK jdk_42_method_54_code 0 (.aload_n 0) 1 := by decide +kernel
theorem d42_54_1 : DK jdk_42_method_54_code 1 (.getfield 9) 3 := by decide +kernel
theorem d42_54_4 : DK jdk_42_method_54_code 4 .arraylength 1 := by decide +kernel
theorem d42_54_5 : DK jdk_42_method_54_code 5 (.aload_n 0) 1 := by decide +kernel
theorem opd_0 : parseMethodDescriptor "()B" = some ⟨[], some .byte⟩ := by decide +kernel
theorem d42_54_6 : DK jdk_42_method_54_code 6 (.invokevirtual 335) 3 := by decide +kernel
theorem d42_54_9 : DK jdk_42_method_54_code 9 .ishr 1 := by decide +kernel
theorem d42_54_10 : DK jdk_42_method_54_code 10 .ireturn 1 := by decide +kernel
theorem opl_rm_length : plainFor (⟨"java/lang/String", "length", "()I"⟩ : MethodName) = true := plainFor_of_name (by first | (simp [plainName, overriddenIn]; done) | decide +kernel)
theorem rm_length (l : Launch) (Z : State) (a0 : Array Value) (hw : ∀ d ∈ tables_1, d.before a0 Z = true) (ws : List Jvm.Cond) (a d : Addr) (k : ClassId) (us : List Value) (zc : Int32) (wf : Value) (n0 : Nat) (h0 : Heap) (SS : own_SS Z zc wf) (O : Old Z n0 h0) (I : STI Z h0 a d k us) :
    Con l Z (⟨"java/lang/String", "length", "()I"⟩ : MethodName) jdk_42_method_54_code 1 (some .int) ws ({ frames := 1, cells := 0, slots := 0, locals := 13 } : Room) #[(.ref a)] h0 (fun v h L => v = some (.int (Int32.ofNat us.length)) ∧ L = [] ∧ h = h0) := by
  refine Con.intro opl_rm_length ?_
  intro p e s m below meth c s₁ hx hby hml hown hret hlk hZ hnm X0 e0
  have SS' := SS
  obtain ⟨hzc, SC, hwf, SF⟩ := SS
  have Z0 : n0 ≤ h0.size := O.1 ▸ O.2.1
  have N0 := Fr.nil n0
  obtain ⟨IE, IC, IF, IV⟩ := I
  refine OGo.cast (g' := (mkF m 0 #[.val (.ref a)] [])) (by first | (simp [entryFrame, mkF, argsToLocals, Value.category]; done) | rfl) ?_
  refine og (fun _ k => XS.aloadN X0.here hx rfl (hb hby d42_54_0) rfl rfl k) ?_
  obtain ⟨T3, X3, e3, st3⟩ := getF X0 hx hZ hown (host := "") (Or.inl (own_g hw 28 rfl)) Via.refl e0 IF (g := (mkF m 1 #[.val (.ref a)] [(.ref a)])) rfl rfl (hb hby d42_54_1)
  refine og st3 ?_
  refine og (fun _ k => alenV X3 hx hZ e3 IV (g := (mkF m 4 #[.val (.ref a)] [(.ref d)])) rfl rfl (hb hby d42_54_4) _ k) ?_
  refine og (fun _ k => XS.aloadN X3.here hx rfl (hb hby d42_54_5) rfl rfl k) ?_
  obtain ⟨v4, T4, L4, X4, hQ4, st4⟩ := vcall X3 hx hZ hown (own_g hw 107 rfl) (own_g hw 108 rfl) (own_g hw 110 rfl) rfl (own_g hw 110 rfl) (own_g hw 109 rfl) (own_g hw 2 rfl) (own_g hw 111 rfl) (by decide) (W := 1) (rm_coder l Z a0 hw [] a zc wf n0 h0 SS' O IC) e3 (by decide) (by decide) (by decide) (by decide) (g := (mkF m 6 #[.val (.ref a)] [(.ref a), (.int (Int32.ofNat us.length))])) rfl (by rw [hml]; rfl) IE (argsL := []) (rest := [(.int (Int32.ofNat us.length))]) opd_0 rfl rfl rfl (by show 2 * 0 + _ ≤ _; exact Nat.le_of_eq rfl) (hb hby d42_54_6)
  obtain ⟨rfl, rfl, e4⟩ := hQ4
  rw [List.append_nil] at X4
  refine og st4 ?_
  refine og (fun _ k => XS.ishr X4.here hx rfl (hb hby d42_54_9) rfl k) ?_
  show OGo p e below _ T4 (mkF m 10 #[.val (.ref a)] [(.int ((Int32.ofNat us.length) >>> ((0 : Int32) &&& 31)))])
  rw [own_shr0]
  show OGo p e below _ T4 (mkF m 10 #[.val (.ref a)] [(.int (Int32.ofNat us.length))])
  exact OGo.ret X4 hx (t := .int) hret hlk rfl (Or.inl ⟨rfl, by simp, _, rfl⟩) (hb hby d42_54_10) (by decide) (by decide) ⟨rfl, rfl, e4⟩
theorem d42_154_0 : DK jdk_42_method_154_code 0 (.getstatic 38) 3 := by decide +kernel
theorem d42_154_3 : DK jdk_42_method_154_code 3 (.ifCond .eq 14) 3 := by decide +kernel
theorem d42_154_6 : DK jdk_42_method_154_code 6 (.aload_n 0) 1 := by decide +kernel
theorem d42_154_7 : DK jdk_42_method_154_code 7 (.getfield 15) 3 := by decide +kernel
theorem d42_154_10 : DK jdk_42_method_154_code 10 (.ifCond .ne 7) 3 := by decide +kernel
theorem d42_154_13 : DK jdk_42_method_154_code 13 (.iconst 1) 1 := by decide +kernel
theorem d42_154_14 : DK jdk_42_method_154_code 14 (.goto 4) 3 := by decide +kernel
theorem d42_154_18 : DK jdk_42_method_154_code 18 .ireturn 1 := by decide +kernel
theorem opl_rm_isLatin1 : plainFor (⟨"java/lang/String", "isLatin1", "()Z"⟩ : MethodName) = true := plainFor_of_name (by first | (simp [plainName, overriddenIn]; done) | decide +kernel)
theorem rm_isLatin1 (l : Launch) (Z : State) (a0 : Array Value) (hw : ∀ d ∈ tables_1, d.before a0 Z = true) (ws : List Jvm.Cond) (a : Addr) (zc : Int32) (wf : Value) (n0 : Nat) (h0 : Heap) (SS : own_SS Z zc wf) (O : Old Z n0 h0) (C : Fld Z h0 a "java/lang/String" "coder" "B" (.int (0 : Int32))) :
    Con l Z (⟨"java/lang/String", "isLatin1", "()Z"⟩ : MethodName) jdk_42_method_154_code 1 (some .boolean) ws ({ frames := 0, cells := 0, slots := 0, locals := 0 } : Room) #[(.ref a)] h0 (fun v h L => v = some (.int (1 : Int32)) ∧ L = [] ∧ h = h0) := by
  refine Con.intro opl_rm_isLatin1 ?_
  intro p e s m below meth c s₁ hx hby hml hown hret hlk hZ hnm X0 e0
  obtain ⟨hzc, SC, hwf, SF⟩ := SS
  have Z0 : n0 ≤ h0.size := O.1 ▸ O.2.1
  have N0 := Fr.nil n0
  refine OGo.cast (g' := (mkF m 0 #[.val (.ref a)] [])) (by first | (simp [entryFrame, mkF, argsToLocals, Value.category]; done) | rfl) ?_
  obtain ⟨T5, X5, e5, st5⟩ := getS2 X0 hx hZ hown (host := "") (Or.inl (own_g hw 14 rfl)) Via.refl e0 (SC.ext O.2) (g := (mkF m 0 #[.val (.ref a)] [])) rfl (hb hby d42_154_0)
  refine og st5 ?_
  refine og (fun _ k => XS.ifNo X5.here hx rfl (hb hby d42_154_3) rfl ((if0 _ _).trans (feq hzc).1) k) ?_
  refine og (fun _ k => XS.aloadN X5.here hx rfl (hb hby d42_154_6) rfl rfl k) ?_
  obtain ⟨T6, X6, e6, st6⟩ := getF X5 hx hZ hown (host := "") (Or.inl (own_g hw 26 rfl)) Via.refl e5 C (g := (mkF m 7 #[.val (.ref a)] [(.ref a)])) rfl rfl (hb hby d42_154_7)
  refine og st6 ?_
  refine og (fun _ k => XS.ifNo X6.here hx rfl (hb hby d42_154_10) rfl ((if0 _ _).trans (teq (rfl : (0 : Int32) = 0)).2) k) ?_
  refine og (fun _ k => XS.iconst X6.here hx rfl (hb hby d42_154_13) k) ?_
  refine og (fun _ k => XS.goto X6.here hx rfl (pc0 := 14) (pc' := 18) rfl (hb hby d42_154_14) (by decide) (by decide) k) ?_
  show OGo p e below _ T6 (mkF m 18 #[.val (.ref a)] [(.int (1 : Int32))])
  exact OGo.ret X6 hx (t := .boolean) hret hlk rfl (Or.inl ⟨rfl, by simp, _, rfl⟩) (hb hby d42_154_18) (by decide) (by decide) ⟨rfl, rfl, e6⟩
theorem d41_11_0 : DK jdk_41_method_11_code 0 (.iload_n 0) 1 := by decide +kernel
theorem d41_11_1 : DK jdk_41_method_11_code 1 (.ifCond .lt 8) 3 := by decide +kernel
theorem d41_11_4 : DK jdk_41_method_11_code 4 (.iload_n 0) 1 := by decide +kernel
theorem d41_11_5 : DK jdk_41_method_11_code 5 (.iload_n 1) 1 := by decide +kernel
theorem d41_11_6 : DK jdk_41_method_11_code 6 (.if_icmp .lt 10) 3 := by decide +kernel
theorem d41_11_16 : DK jdk_41_method_11_code 16 (.iload_n 0) 1 := by decide +kernel
theorem d41_11_17 : DK jdk_41_method_11_code 17 .ireturn 1 := by decide +kernel
theorem opl_rm_pci : plainFor (⟨"jdk/internal/util/Preconditions", "checkIndex", "(IILjava/util/function/BiFunction;)I"⟩ : MethodName) = true := plainFor_of_name (by first | (simp [plainName, overriddenIn]; done) | decide +kernel)
theorem rm_pci (l : Launch) (Z : State) (a0 : Array Value) (hw : ∀ d ∈ tables_1, d.before a0 Z = true) (ws : List Jvm.Cond) (i n : Int32) (wf : Value) (h0 : Heap) (hwf : wf.isRef = true) (hi0 : ¬ i < 0) (hi1 : i < n) :
    Con l Z (⟨"jdk/internal/util/Preconditions", "checkIndex", "(IILjava/util/function/BiFunction;)I"⟩ : MethodName) jdk_41_method_11_code 3 (some .int) ws ({ frames := 0, cells := 0, slots := 0, locals := 0 } : Room) #[(.int i), (.int n), wf] h0 (fun v h L => v = some (.int i) ∧ L = [] ∧ h = h0) := by
  refine Con.intro opl_rm_pci ?_
  intro p e s m below meth c s₁ hx hby hml hown hret hlk hZ hnm X0 e0
  refine OGo.cast (g' := (mkF m 0 #[.val (.int i), .val (.int n), .val wf] [])) (by rcases ref_cases hwf with rfl | ⟨f, rfl⟩ <;> simp [entryFrame, mkF, argsToLocals, Value.category]) ?_
  refine og (fun _ k => XS.iloadN X0.here hx rfl (hb hby d41_11_0) rfl k) ?_
  refine og (fun _ k => XS.ifNo X0.here hx rfl (hb hby d41_11_1) rfl ((if0 _ _).trans (flt hi0).1) k) ?_
  refine og (fun _ k => XS.iloadN X0.here hx rfl (hb hby d41_11_4) rfl k) ?_
  refine og (fun _ k => XS.iloadN X0.here hx rfl (hb hby d41_11_5) rfl k) ?_
  refine og (fun _ k => XS.icmpYes X0.here hx rfl (pc0 := 6) (pc' := 16) rfl (hb hby d41_11_6) rfl (tlt hi1).1 (by decide) (by decide) k) ?_
  refine og (fun _ k => XS.iloadN X0.here hx rfl (hb hby d41_11_16) rfl k) ?_
  show OGo p e below _ s₁ (mkF m 17 #[.val (.int i), .val (.int n), .val wf] [(.int i)])
  exact OGo.ret X0 hx (t := .int) hret hlk rfl (Or.inl ⟨rfl, by simp, _, rfl⟩) (hb hby d41_11_17) (by decide) (by decide) ⟨rfl, rfl, e0⟩
theorem d42_155_0 : DK jdk_42_method_155_code 0 (.iload_n 0) 1 := by decide +kernel
theorem d42_155_1 : DK jdk_42_method_155_code 1 (.iload_n 1) 1 := by decide +kernel
theorem d42_155_2 : DK jdk_42_method_155_code 2 (.getstatic 1053) 3 := by decide +kernel
theorem opd_1 : parseMethodDescriptor "(IILjava/util/function/BiFunction;)I" = some ⟨[.int, .int, (.object "java/util/function/BiFunction")], some .int⟩ := by decide +kernel
theorem d42_155_5 : DK jdk_42_method_155_code 5 (.invokestatic 1059) 3 := by decide +kernel
theorem d42_155_8 : DK jdk_42_method_155_code 8 .pop 1 := by decide +kernel
theorem d42_155_9 : DK jdk_42_method_155_code 9 .return_ 1 := by decide +kernel
theorem opl_rm_sci : plainFor (⟨"java/lang/String", "checkIndex", "(II)V"⟩ : MethodName) = true := plainFor_of_name (by first | (simp [plainName, overriddenIn]; done) | decide +kernel)
theorem rm_sci (l : Launch) (Z : State) (a0 : Array Value) (hw : ∀ d ∈ tables_1, d.before a0 Z = true) (ws : List Jvm.Cond) (i n : Int32) (zc : Int32) (wf : Value) (n0 : Nat) (h0 : Heap) (SS : own_SS Z zc wf) (O : Old Z n0 h0) (hi0 : ¬ i < 0) (hi1 : i < n) :
    Con l Z (⟨"java/lang/String", "checkIndex", "(II)V"⟩ : MethodName) jdk_42_method_155_code 2 none ws ({ frames := 1, cells := 0, slots := 0, locals := 14 } : Room) #[(.int i), (.int n)] h0 (fun v h L => v = none ∧ L = [] ∧ h = h0) := by
  refine Con.intro opl_rm_sci ?_
  intro p e s m below meth c s₁ hx hby hml hown hret hlk hZ hnm X0 e0
  obtain ⟨hzc, SC, hwf, SF⟩ := SS
  have Z0 : n0 ≤ h0.size := O.1 ▸ O.2.1
  have N0 := Fr.nil n0
  refine OGo.cast (g' := (mkF m 0 #[.val (.int i), .val (.int n)] [])) (by first | (simp [entryFrame, mkF, argsToLocals, Value.category]; done) | rfl) ?_
  refine og (fun _ k => XS.iloadN X0.here hx rfl (hb hby d42_155_0) rfl k) ?_
  refine og (fun _ k => XS.iloadN X0.here hx rfl (hb hby d42_155_1) rfl k) ?_
  obtain ⟨T7, X7, e7, st7⟩ := getS2 X0 hx hZ hown (host := "") (Or.inl (own_g hw 271 rfl)) Via.refl e0 (SF.ext O.2) (g := (mkF m 2 #[.val (.int i), .val (.int n)] [(.int n), (.int i)])) rfl (hb hby d42_155_2)
  refine og st7 ?_
  obtain ⟨v8, T8, L8, X8, hQ8, st8⟩ := scall X7 hx hZ hown (own_g hw 273 rfl) (own_g hw 274 rfl) (own_g hw 272 rfl) (own_g hw 275 rfl) (by decide) (W := 0) (rm_pci l Z a0 hw [] i n wf h0 hwf hi0 hi1) e7 (by decide) (by decide) (by decide) (by decide) (g := (mkF m 5 #[.val (.int i), .val (.int n)] [wf, (.int n), (.int i)])) rfl (by rw [hml]; rfl) (argsL := [(.int i), (.int n), wf]) (rest := []) opd_1 rfl rfl rfl (by show 2 * 0 + _ ≤ _; exact Nat.le_of_eq rfl) (hb hby d42_155_5)
  obtain ⟨rfl, rfl, e8⟩ := hQ8
  rw [List.append_nil] at X8
  refine og st8 ?_
  refine og (fun _ k => XS.pop X8.here hx rfl (hb hby d42_155_8) rfl rfl k) ?_
  show OGo p e below _ T8 (mkF m 9 #[.val (.int i), .val (.int n)] [])
  exact OGo.retV X8 hx hret hlk (hb hby d42_155_9) (by decide) (by decide) ⟨rfl, rfl, e8⟩
theorem d43_2_0 : DK jdk_43_method_2_code 0 (.iload_n 1) 1 := by decide +kernel
theorem d43_2_1 : DK jdk_43_method_2_code 1 (.aload_n 0) 1 := by decide +kernel
theorem d43_2_2 : DK jdk_43_method_2_code 2 .arraylength 1 := by decide +kernel
theorem opd_2 : parseMethodDescriptor "(II)V" = some ⟨[.int, .int], none⟩ := by decide +kernel
theorem d43_2_3 : DK jdk_43_method_2_code 3 (.invokestatic 9) 3 := by decide +kernel
theorem d43_2_6 : DK jdk_43_method_2_code 6 (.aload_n 0) 1 := by decide +kernel
theorem d43_2_7 : DK jdk_43_method_2_code 7 (.iload_n 1) 1 := by decide +kernel
theorem d43_2_8 : DK jdk_43_method_2_code 8 .baload 1 := by decide +kernel
theorem d43_2_9 : DK jdk_43_method_2_code 9 (.sipush 255) 3 := by decide +kernel
theorem d43_2_12 : DK jdk_43_method_2_code 12 .iand 1 := by decide +kernel
theorem d43_2_13 : DK jdk_43_method_2_code 13 .i2c 1 := by decide +kernel
theorem d43_2_14 : DK jdk_43_method_2_code 14 .ireturn 1 := by decide +kernel
theorem opl_rm_lca : plainFor (⟨"java/lang/StringLatin1", "charAt", "([BI)C"⟩ : MethodName) = true := plainFor_of_name (by first | (simp [plainName, overriddenIn]; done) | decide +kernel)
theorem rm_lca (l : Launch) (Z : State) (a0 : Array Value) (hw : ∀ d ∈ tables_1, d.before a0 Z = true) (ws : List Jvm.Cond) (d : Addr) (k : ClassId) (z i b : Int32) (us : List Value) (zc : Int32) (wf : Value) (n0 : Nat) (h0 : Heap) (SS : own_SS Z zc wf) (O : Old Z n0 h0) (V : Arv Z h0 d k .byte z us (.int (0 : Int32))) (hi0 : ¬ i < 0) (hi1 : i < z) (hat : us.getD i.toNatClampNeg (.int (0 : Int32)) = .int b) :
    Con l Z (⟨"java/lang/StringLatin1", "charAt", "([BI)C"⟩ : MethodName) jdk_43_method_2_code 2 (some .char) ws ({ frames := 2, cells := 0, slots := 0, locals := 27 } : Room) #[(.ref d), (.int i)] h0 (fun v h L => v = some (.int (b &&& 255)) ∧ L = [] ∧ h = h0) := by
  refine Con.intro opl_rm_lca ?_
  intro p e s m below meth c s₁ hx hby hml hown hret hlk hZ hnm X0 e0
  have SS' := SS
  obtain ⟨hzc, SC, hwf, SF⟩ := SS
  have Z0 : n0 ≤ h0.size := O.1 ▸ O.2.1
  have N0 := Fr.nil n0
  refine OGo.cast (g' := (mkF m 0 #[.val (.ref d), .val (.int i)] [])) (by first | (simp [entryFrame, mkF, argsToLocals, Value.category]; done) | rfl) ?_
  refine og (fun _ k => XS.iloadN X0.here hx rfl (hb hby d43_2_0) rfl k) ?_
  refine og (fun _ k => XS.aloadN X0.here hx rfl (hb hby d43_2_1) rfl rfl k) ?_
  refine og (fun _ k => alenV X0 hx hZ e0 V (g := (mkF m 2 #[.val (.ref d), .val (.int i)] [(.ref d), (.int i)])) rfl rfl (hb hby d43_2_2) _ k) ?_
  obtain ⟨v9, T9, L9, X9, hQ9, st9⟩ := scall X0 hx hZ hown (own_g hw 268 rfl) (own_g hw 269 rfl) (own_g hw 2 rfl) (own_g hw 270 rfl) (by decide) (W := 0) (rm_sci l Z a0 hw [] i z zc wf n0 h0 SS' O hi0 hi1) e0 (by decide) (by decide) (by decide) (by decide) (g := (mkF m 3 #[.val (.ref d), .val (.int i)] [(.int z), (.int i)])) rfl (by rw [hml]; rfl) (argsL := [(.int i), (.int z)]) (rest := []) opd_2 rfl rfl rfl (by show 2 * 0 + _ ≤ _; exact Nat.le_of_eq rfl) (hb hby d43_2_3)
  obtain ⟨rfl, rfl, e9⟩ := hQ9
  rw [List.append_nil] at X9
  refine og st9 ?_
  refine og (fun _ k => XS.aloadN X9.here hx rfl (hb hby d43_2_6) rfl rfl k) ?_
  refine og (fun _ k => XS.iloadN X9.here hx rfl (hb hby d43_2_7) rfl k) ?_
  refine og (fun _ k => baloadV X9 hx hZ e9 V ⟨hi0, hi1⟩ hat (g := (mkF m 8 #[.val (.ref d), .val (.int i)] [(.int i), (.ref d)])) rfl rfl (hb hby d43_2_8) _ k) ?_
  refine og (fun _ k => XS.sipush X9.here hx rfl (hb hby d43_2_9) k) ?_
  refine og (fun _ k => XS.iand X9.here hx rfl (hb hby d43_2_12) rfl k) ?_
  refine og (fun _ k => XS.i2c X9.here hx rfl (hb hby d43_2_13) rfl k) ?_
  show OGo p e below _ T9 (mkF m 14 #[.val (.ref d), .val (.int i)] [(.int ((b &&& (255 : Int32)).toUInt32.toUInt16.toUInt32.toInt32))])
  exact OGo.ret X9 hx (t := .char) hret hlk (by rw [i2c_mask]; exact own_nar255 _) (Or.inl ⟨rfl, by simp, _, rfl⟩) (hb hby d43_2_14) (by decide) (by decide) ⟨by rw [i2c_mask], rfl, e9⟩
theorem d42_56_0 : DK jdk_42_method_56_code 0 (.aload_n 0) 1 := by decide +kernel
theorem opd_3 : parseMethodDescriptor "()Z" = some ⟨[], some .boolean⟩ := by decide +kernel
theorem d42_56_1 : DK jdk_42_method_56_code 1 (.invokevirtual 492) 3 := by decide +kernel
theorem d42_56_4 : DK jdk_42_method_56_code 4 (.ifCond .eq 12) 3 := by decide +kernel
theorem d42_56_7 : DK jdk_42_method_56_code 7 (.aload_n 0) 1 := by decide +kernel
theorem d42_56_8 : DK jdk_42_method_56_code 8 (.getfield 9) 3 := by decide +kernel
theorem d42_56_11 : DK jdk_42_method_56_code 11 (.iload_n 1) 1 := by decide +kernel
theorem opd_4 : parseMethodDescriptor "([BI)C" = some ⟨[(.array .byte), .int], some .char⟩ := by decide +kernel
theorem d42_56_12 : DK jdk_42_method_56_code 12 (.invokestatic 495) 3 := by decide +kernel
theorem d42_56_15 : DK jdk_42_method_56_code 15 .ireturn 1 := by decide +kernel
theorem opl_rm_charAt : plainFor (⟨"java/lang/String", "charAt", "(I)C"⟩ : MethodName) = true := plainFor_of_name (by first | (simp [plainName, overriddenIn]; done) | decide +kernel)
theorem rm_charAt (l : Launch) (Z : State) (a0 : Array Value) (hw : ∀ d ∈ tables_1, d.before a0 Z = true) (ws : List Jvm.Cond) (a d : Addr) (k : ClassId) (us : List Value) (i b : Int32) (zc : Int32) (wf : Value) (n0 : Nat) (h0 : Heap) (SS : own_SS Z zc wf) (O : Old Z n0 h0) (I : STI Z h0 a d k us) (hi0 : ¬ i < 0) (hi1 : i < Int32.ofNat us.length) (hat : us.getD i.toNatClampNeg (.int (0 : Int32)) = .int b) :
    Con l Z (⟨"java/lang/String", "charAt", "(I)C"⟩ : MethodName) jdk_42_method_56_code 2 (some .char) ws ({ frames := 3, cells := 0, slots := 0, locals := 40 } : Room) #[(.ref a), (.int i)] h0 (fun v h L => v = some (.int (b &&& 255)) ∧ L = [] ∧ h = h0) := by
  refine Con.intro opl_rm_charAt ?_
  intro p e s m below meth c s₁ hx hby hml hown hret hlk hZ hnm X0 e0
  have SS' := SS
  obtain ⟨hzc, SC, hwf, SF⟩ := SS
  have Z0 : n0 ≤ h0.size := O.1 ▸ O.2.1
  have N0 := Fr.nil n0
  obtain ⟨IE, IC, IF, IV⟩ := I
  refine OGo.cast (g' := (mkF m 0 #[.val (.ref a), .val (.int i)] [])) (by first | (simp [entryFrame, mkF, argsToLocals, Value.category]; done) | rfl) ?_
  refine og (fun _ k => XS.aloadN X0.here hx rfl (hb hby d42_56_0) rfl rfl k) ?_
  obtain ⟨v10, T10, L10, X10, hQ10, st10⟩ := vcall X0 hx hZ hown (own_g hw 260 rfl) (own_g hw 261 rfl) (own_g hw 263 rfl) rfl (own_g hw 263 rfl) (own_g hw 262 rfl) (own_g hw 2 rfl) (own_g hw 264 rfl) (by decide) (W := 0) (rm_isLatin1 l Z a0 hw [] a zc wf n0 h0 SS' O IC) e0 (by decide) (by decide) (by decide) (by decide) (g := (mkF m 1 #[.val (.ref a), .val (.int i)] [(.ref a)])) rfl (by rw [hml]; rfl) IE (argsL := []) (rest := []) opd_3 rfl rfl rfl (by show 2 * 0 + _ ≤ _; exact Nat.le_of_eq rfl) (hb hby d42_56_1)
  obtain ⟨rfl, rfl, e10⟩ := hQ10
  rw [List.append_nil] at X10
  refine og st10 ?_
  refine og (fun _ k => XS.ifNo X10.here hx rfl (hb hby d42_56_4) rfl ((if0 _ _).trans (feq (by decide : ¬ (1 : Int32) = 0)).1) k) ?_
  refine og (fun _ k => XS.aloadN X10.here hx rfl (hb hby d42_56_7) rfl rfl k) ?_
  obtain ⟨T11, X11, e11, st11⟩ := getF X10 hx hZ hown (host := "") (Or.inl (own_g hw 28 rfl)) Via.refl e10 IF (g := (mkF m 8 #[.val (.ref a), .val (.int i)] [(.ref a)])) rfl rfl (hb hby d42_56_8)
  refine og st11 ?_
  refine og (fun _ k => XS.iloadN X11.here hx rfl (hb hby d42_56_11) rfl k) ?_
  obtain ⟨v12, T12, L12, X12, hQ12, st12⟩ := scall X11 hx hZ hown (own_g hw 265 rfl) (own_g hw 266 rfl) (own_g hw 35 rfl) (own_g hw 267 rfl) (by decide) (W := 0) (rm_lca l Z a0 hw [] d k (Int32.ofNat us.length) i b us zc wf n0 h0 SS' O IV hi0 hi1 hat) e11 (by decide) (by decide) (by decide) (by decide) (g := (mkF m 12 #[.val (.ref a), .val (.int i)] [(.int i), (.ref d)])) rfl (by rw [hml]; rfl) (argsL := [(.ref d), (.int i)]) (rest := []) opd_4 rfl rfl rfl (by show 2 * 0 + _ ≤ _; exact Nat.le_of_eq rfl) (hb hby d42_56_12)
  obtain ⟨rfl, rfl, e12⟩ := hQ12
  rw [List.append_nil] at X12
  refine og st12 ?_
  show OGo p e below _ T12 (mkF m 15 #[.val (.ref a), .val (.int i)] [(.int (b &&& 255))])
  exact OGo.ret X12 hx (t := .char) hret hlk (own_nar255 _) (Or.inl ⟨rfl, by simp, _, rfl⟩) (hb hby d42_56_15) (by decide) (by decide) ⟨rfl, rfl, e12⟩
theorem d29_65_0 : DK jdk_29_method_65_code 0 (.iload_n 0) 1 := by decide +kernel
theorem d29_65_1 : DK jdk_29_method_65_code 1 (.iload_n 1) 1 := by decide +kernel
theorem d29_65_2 : DK jdk_29_method_65_code 2 (.if_icmp .lt 7) 3 := by decide +kernel
theorem d29_65_9 : DK jdk_29_method_65_code 9 (.iload_n 1) 1 := by decide +kernel
theorem d29_65_10 : DK jdk_29_method_65_code 10 .ireturn 1 := by decide +kernel
theorem d29_65_5 : DK jdk_29_method_65_code 5 (.iload_n 0) 1 := by decide +kernel
theorem d29_65_6 : DK jdk_29_method_65_code 6 (.goto 4) 3 := by decide +kernel
theorem opl_rm_max : plainFor (⟨"java/lang/Math", "max", "(II)I"⟩ : MethodName) = true := Jvm.Free.JP.mathPlain rfl (by decide +kernel)
theorem rm_max (l : Launch) (Z : State) (a0 : Array Value) (hw : ∀ d ∈ tables_1, d.before a0 Z = true) (ws : List Jvm.Cond) (a b : Int32) (h0 : Heap)  :
    Con l Z (⟨"java/lang/Math", "max", "(II)I"⟩ : MethodName) jdk_29_method_65_code 2 (some .int) ws ({ frames := 0, cells := 0, slots := 0, locals := 0 } : Room) #[(.int a), (.int b)] h0 (fun v h L => v = some (.int (if a < b then b else a)) ∧ L = [] ∧ h = h0) := by
  refine Con.intro opl_rm_max ?_
  intro p e s m below meth c s₁ hx hby hml hown hret hlk hZ hnm X0 e0
  refine OGo.cast (g' := (mkF m 0 #[.val (.int a), .val (.int b)] [])) (by first | (simp [entryFrame, mkF, argsToLocals, Value.category]; done) | rfl) ?_
  refine og (fun _ k => XS.iloadN X0.here hx rfl (hb hby d29_65_0) rfl k) ?_
  refine og (fun _ k => XS.iloadN X0.here hx rfl (hb hby d29_65_1) rfl k) ?_
  by_cases q : a < b
  · refine og (fun _ k => XS.icmpYes X0.here hx rfl (pc0 := 2) (pc' := 9) rfl (hb hby d29_65_2) rfl (tlt q).1 (by decide) (by decide) k) ?_
    refine og (fun _ k => XS.iloadN X0.here hx rfl (hb hby d29_65_9) rfl k) ?_
    show OGo p e below _ s₁ (mkF m 10 #[.val (.int a), .val (.int b)] [(.int b)])
    exact OGo.ret X0 hx (t := .int) hret hlk rfl (Or.inl ⟨rfl, by simp, _, rfl⟩) (hb hby d29_65_10) (by decide) (by decide) ⟨by rw [if_pos q], rfl, e0⟩
  refine og (fun _ k => XS.icmpNo X0.here hx rfl (hb hby d29_65_2) rfl (flt q).1 k) ?_
  refine og (fun _ k => XS.iloadN X0.here hx rfl (hb hby d29_65_5) rfl k) ?_
  refine og (fun _ k => XS.goto X0.here hx rfl (pc0 := 6) (pc' := 10) rfl (hb hby d29_65_6) (by decide) (by decide) k) ?_
  show OGo p e below _ s₁ (mkF m 10 #[.val (.int a), .val (.int b)] [(.int a)])
  exact OGo.ret X0 hx (t := .int) hret hlk rfl (Or.inl ⟨rfl, by simp, _, rfl⟩) (hb hby d29_65_10) (by decide) (by decide) ⟨by rw [if_neg q], rfl, e0⟩
theorem d29_69_0 : DK jdk_29_method_69_code 0 (.iload_n 0) 1 := by decide +kernel
theorem d29_69_1 : DK jdk_29_method_69_code 1 (.iload_n 1) 1 := by decide +kernel
theorem d29_69_2 : DK jdk_29_method_69_code 2 (.if_icmp .gt 7) 3 := by decide +kernel
theorem d29_69_5 : DK jdk_29_method_69_code 5 (.iload_n 0) 1 := by decide +kernel
theorem d29_69_6 : DK jdk_29_method_69_code 6 (.goto 4) 3 := by decide +kernel
theorem d29_69_10 : DK jdk_29_method_69_code 10 .ireturn 1 := by decide +kernel
theorem opl_rm_minA : plainFor (⟨"java/lang/Math", "min", "(II)I"⟩ : MethodName) = true := Jvm.Free.JP.mathPlain rfl (by decide +kernel)
theorem rm_minA (l : Launch) (Z : State) (a0 : Array Value) (hw : ∀ d ∈ tables_1, d.before a0 Z = true) (ws : List Jvm.Cond) (a b : Int32) (h0 : Heap) (hab : ¬ b < a) :
    Con l Z (⟨"java/lang/Math", "min", "(II)I"⟩ : MethodName) jdk_29_method_69_code 2 (some .int) ws ({ frames := 0, cells := 0, slots := 0, locals := 0 } : Room) #[(.int a), (.int b)] h0 (fun v h L => v = some (.int a) ∧ L = [] ∧ h = h0) := by
  refine Con.intro opl_rm_minA ?_
  intro p e s m below meth c s₁ hx hby hml hown hret hlk hZ hnm X0 e0
  refine OGo.cast (g' := (mkF m 0 #[.val (.int a), .val (.int b)] [])) (by first | (simp [entryFrame, mkF, argsToLocals, Value.category]; done) | rfl) ?_
  refine og (fun _ k => XS.iloadN X0.here hx rfl (hb hby d29_69_0) rfl k) ?_
  refine og (fun _ k => XS.iloadN X0.here hx rfl (hb hby d29_69_1) rfl k) ?_
  refine og (fun _ k => XS.icmpNo X0.here hx rfl (hb hby d29_69_2) rfl (flt hab).2.2.1 k) ?_
  refine og (fun _ k => XS.iloadN X0.here hx rfl (hb hby d29_69_5) rfl k) ?_
  refine og (fun _ k => XS.goto X0.here hx rfl (pc0 := 6) (pc' := 10) rfl (hb hby d29_69_6) (by decide) (by decide) k) ?_
  show OGo p e below _ s₁ (mkF m 10 #[.val (.int a), .val (.int b)] [(.int a)])
  exact OGo.ret X0 hx (t := .int) hret hlk rfl (Or.inl ⟨rfl, by simp, _, rfl⟩) (hb hby d29_69_10) (by decide) (by decide) ⟨rfl, rfl, e0⟩
theorem d48_27_0 : DK jdk_48_method_27_code 0 (.iload_n 0) 1 := by decide +kernel
theorem d48_27_1 : DK jdk_48_method_27_code 1 (.iload_n 1) 1 := by decide +kernel
theorem d48_27_2 : DK jdk_48_method_27_code 2 (.iload_n 2) 1 := by decide +kernel
theorem opd_5 : parseMethodDescriptor "(II)I" = some ⟨[.int, .int], some .int⟩ := by decide +kernel
theorem d48_27_3 : DK jdk_48_method_27_code 3 (.invokestatic 194) 3 := by decide +kernel
theorem d48_27_6 : DK jdk_48_method_27_code 6 .iadd 1 := by decide +kernel
theorem d48_27_7 : DK jdk_48_method_27_code 7 (.istore_n 3) 1 := by decide +kernel
theorem d48_27_8 : DK jdk_48_method_27_code 8 (.iconst 0) 1 := by decide +kernel
theorem d48_27_9 : DK jdk_48_method_27_code 9 (.iload_n 3) 1 := by decide +kernel
theorem d48_27_10 : DK jdk_48_method_27_code 10 (.if_icmp .ge 11) 3 := by decide +kernel
theorem d48_27_13 : DK jdk_48_method_27_code 13 (.iload_n 3) 1 := by decide +kernel
theorem d48_27_14 : DK jdk_48_method_27_code 14 (.ldc 200) 2 := by decide +kernel
theorem d48_27_16 : DK jdk_48_method_27_code 16 (.if_icmp .gt 5) 3 := by decide +kernel
theorem d48_27_19 : DK jdk_48_method_27_code 19 (.iload_n 3) 1 := by decide +kernel
theorem d48_27_20 : DK jdk_48_method_27_code 20 .ireturn 1 := by decide +kernel
theorem opl_rm_newLen : plainFor (⟨"jdk/internal/util/ArraysSupport", "newLength", "(III)I"⟩ : MethodName) = true := plainFor_of_name (by first | (simp [plainName, overriddenIn]; done) | decide +kernel)
theorem rm_newLen (l : Launch) (Z : State) (a0 : Array Value) (hw : ∀ d ∈ tables_1, d.before a0 Z = true) (ws : List Jvm.Cond) (zn g f : Nat) (h0 : Heap) (h1 : zn ≤ 1000000) (h2 : g ≤ 1000000) (h3 : f ≤ 1000000) (h4 : 1 ≤ f) :
    Con l Z (⟨"jdk/internal/util/ArraysSupport", "newLength", "(III)I"⟩ : MethodName) jdk_48_method_27_code 4 (some .int) ws ({ frames := 1, cells := 0, slots := 0, locals := 14 } : Room) #[(.int (Int32.ofNat zn)), (.int (Int32.ofNat g)), (.int (Int32.ofNat f))] h0 (fun v h L => v = some (.int (Int32.ofNat (zn + max g f))) ∧ L = [] ∧ h = h0) := by
  refine Con.intro opl_rm_newLen ?_
  intro p e s m below meth c s₁ hx hby hml hown hret hlk hZ hnm X0 e0
  refine OGo.cast (g' := (mkF m 0 #[.val (.int (Int32.ofNat zn)), .val (.int (Int32.ofNat g)), .val (.int (Int32.ofNat f)), .unset] [])) (by first | (simp [entryFrame, mkF, argsToLocals, Value.category]; done) | rfl) ?_
  refine og (fun _ k => XS.iloadN X0.here hx rfl (hb hby d48_27_0) rfl k) ?_
  refine og (fun _ k => XS.iloadN X0.here hx rfl (hb hby d48_27_1) rfl k) ?_
  refine og (fun _ k => XS.iloadN X0.here hx rfl (hb hby d48_27_2) rfl k) ?_
  obtain ⟨v13, T13, L13, X13, hQ13, st13⟩ := scall X0 hx hZ hown (own_g hw 149 rfl) (own_g hw 150 rfl) (own_g hw 151 rfl) (own_g hw 152 rfl) (by decide) (W := 1) (rm_max l Z a0 hw [] (Int32.ofNat g) (Int32.ofNat f) h0 ) e0 (by decide) (by decide) (by decide) (by decide) (g := (mkF m 3 #[.val (.int (Int32.ofNat zn)), .val (.int (Int32.ofNat g)), .val (.int (Int32.ofNat f)), .unset] [(.int (Int32.ofNat f)), (.int (Int32.ofNat g)), (.int (Int32.ofNat zn))])) rfl (by rw [hml]; rfl) (argsL := [(.int (Int32.ofNat g)), (.int (Int32.ofNat f))]) (rest := [(.int (Int32.ofNat zn))]) opd_5 rfl rfl rfl (by show 2 * 0 + _ ≤ _; exact Nat.le_of_eq rfl) (hb hby d48_27_3)
  obtain ⟨rfl, rfl, e13⟩ := hQ13
  rw [List.append_nil] at X13
  refine og st13 ?_
  have hm : (if Int32.ofNat g < Int32.ofNat f then Int32.ofNat f else Int32.ofNat g) = Int32.ofNat (max g f) := by
    split
    · next q => rw [own_lt (by omega) (by omega)] at q; rw [Nat.max_eq_right (by omega)]
    · next q => rw [own_lt (by omega) (by omega)] at q; rw [Nat.max_eq_left (by omega)]
  show OGo p e below _ T13 (mkF m 6 #[.val (.int (Int32.ofNat zn)), .val (.int (Int32.ofNat g)), .val (.int (Int32.ofNat f)), .unset] [(.int (if Int32.ofNat g < Int32.ofNat f then Int32.ofNat f else Int32.ofNat g)), (.int (Int32.ofNat zn))])
  rw [hm]
  refine og (fun _ k => XS.iadd X13.here hx rfl (hb hby d48_27_6) rfl k) ?_
  show OGo p e below _ T13 (mkF m 7 #[.val (.int (Int32.ofNat zn)), .val (.int (Int32.ofNat g)), .val (.int (Int32.ofNat f)), .unset] [(.int ((Int32.ofNat zn) + (Int32.ofNat (max g f))))])
  rw [own_addn]
  refine og (fun _ k => XS.istoreN X13.here hx rfl (hb hby d48_27_7) rfl (l' := #[.val (.int (Int32.ofNat zn)), .val (.int (Int32.ofNat g)), .val (.int (Int32.ofNat f)), .val (.int (Int32.ofNat (zn + max g f)))]) rfl k) ?_
  refine og (fun _ k => XS.iconst X13.here hx rfl (hb hby d48_27_8) k) ?_
  refine og (fun _ k => XS.iloadN X13.here hx rfl (hb hby d48_27_9) rfl k) ?_
  refine og (fun _ k => XS.icmpNo X13.here hx rfl (hb hby d48_27_10) rfl (tlt (show Int32.ofNat 0 < Int32.ofNat (zn + max g f) from (own_lt (by decide) (by omega)).mpr (by omega))).2.1 k) ?_
  refine og (fun _ k => XS.iloadN X13.here hx rfl (hb hby d48_27_13) rfl k) ?_
  refine og (fun _ k => Jvm.Stand.ldcI X13 hx hown (mvT hZ (own_g hw 153 rfl)) rfl (hb hby d48_27_14) k) ?_
  refine og (fun _ k => XS.icmpNo X13.here hx rfl (hb hby d48_27_16) rfl (flt (fun q => by have := (own_lt (a := 2147483639) (by decide) (by omega)).mp q; omega)).2.2.1 k) ?_
  refine og (fun _ k => XS.iloadN X13.here hx rfl (hb hby d48_27_19) rfl k) ?_
  show OGo p e below _ T13 (mkF m 20 #[.val (.int (Int32.ofNat zn)), .val (.int (Int32.ofNat g)), .val (.int (Int32.ofNat f)), .val (.int (Int32.ofNat (zn + max g f)))] [(.int (Int32.ofNat (zn + max g f)))])
  exact OGo.ret X13 hx (t := .int) hret hlk rfl (Or.inl ⟨rfl, by simp, _, rfl⟩) (hb hby d48_27_20) (by decide) (by decide) ⟨rfl, rfl, e13⟩
theorem d68_10_0 : DK jdk_68_method_10_code 0 (.aload_n 0) 1 := by decide +kernel
theorem d68_10_1 : DK jdk_68_method_10_code 1 (.getfield 15) 3 := by decide +kernel
theorem d68_10_4 : DK jdk_68_method_10_code 4 .arraylength 1 := by decide +kernel
theorem d68_10_5 : DK jdk_68_method_10_code 5 (.istore_n 2) 1 := by decide +kernel
theorem d68_10_6 : DK jdk_68_method_10_code 6 (.iload_n 1) 1 := by decide +kernel
theorem d68_10_7 : DK jdk_68_method_10_code 7 (.aload_n 0) 1 := by decide +kernel
theorem d68_10_8 : DK jdk_68_method_10_code 8 (.getfield 22) 3 := by decide +kernel
theorem d68_10_11 : DK jdk_68_method_10_code 11 .ishl 1 := by decide +kernel
theorem d68_10_12 : DK jdk_68_method_10_code 12 (.istore_n 3) 1 := by decide +kernel
theorem d68_10_13 : DK jdk_68_method_10_code 13 (.iload_n 3) 1 := by decide +kernel
theorem d68_10_14 : DK jdk_68_method_10_code 14 (.iload_n 2) 1 := by decide +kernel
theorem d68_10_15 : DK jdk_68_method_10_code 15 .isub 1 := by decide +kernel
theorem d68_10_16 : DK jdk_68_method_10_code 16 (.istore 4) 2 := by decide +kernel
theorem d68_10_18 : DK jdk_68_method_10_code 18 (.iload_n 2) 1 := by decide +kernel
theorem d68_10_19 : DK jdk_68_method_10_code 19 (.iload 4) 2 := by decide +kernel
theorem d68_10_21 : DK jdk_68_method_10_code 21 (.iload_n 2) 1 := by decide +kernel
theorem d68_10_22 : DK jdk_68_method_10_code 22 (.iconst 2) 1 := by decide +kernel
theorem d68_10_23 : DK jdk_68_method_10_code 23 (.aload_n 0) 1 := by decide +kernel
theorem d68_10_24 : DK jdk_68_method_10_code 24 (.getfield 22) 3 := by decide +kernel
theorem d68_10_27 : DK jdk_68_method_10_code 27 .ishl 1 := by decide +kernel
theorem d68_10_28 : DK jdk_68_method_10_code 28 .iadd 1 := by decide +kernel
theorem opd_6 : parseMethodDescriptor "(III)I" = some ⟨[.int, .int, .int], some .int⟩ := by decide +kernel
theorem d68_10_29 : DK jdk_68_method_10_code 29 (.invokestatic 114) 3 := by decide +kernel
theorem d68_10_32 : DK jdk_68_method_10_code 32 (.istore 5) 2 := by decide +kernel
theorem d68_10_34 : DK jdk_68_method_10_code 34 (.iload 5) 2 := by decide +kernel
theorem d68_10_36 : DK jdk_68_method_10_code 36 (.ldc 39) 2 := by decide +kernel
theorem d68_10_38 : DK jdk_68_method_10_code 38 (.if_icmp .ne 13) 3 := by decide +kernel
theorem d68_10_51 : DK jdk_68_method_10_code 51 (.iload 5) 2 := by decide +kernel
theorem d68_10_53 : DK jdk_68_method_10_code 53 (.aload_n 0) 1 := by decide +kernel
theorem d68_10_54 : DK jdk_68_method_10_code 54 (.getfield 22) 3 := by decide +kernel
theorem d68_10_57 : DK jdk_68_method_10_code 57 .ishr 1 := by decide +kernel
theorem d68_10_58 : DK jdk_68_method_10_code 58 .ireturn 1 := by decide +kernel
theorem opl_rm_newCap : plainFor (⟨"java/lang/AbstractStringBuilder", "newCapacity", "(I)I"⟩ : MethodName) = true := plainFor_of_name (by first | (simp [plainName, overriddenIn]; done) | decide +kernel)
theorem rm_newCap (l : Launch) (Z : State) (a0 : Array Value) (hw : ∀ d ∈ tables_1, d.before a0 Z = true) (ws : List Jvm.Cond) (b d : Addr) (k : ClassId) (zn : Nat) (bs : List Value) (nd : Nat) (zc : Int32) (wf : Value) (n0 : Nat) (h0 : Heap) (SS : own_SS Z zc wf) (O : Old Z n0 h0) (J : SBI Z h0 b d k (Int32.ofNat zn) bs) (hzn : zn ≤ 70) (hbz : bs.length ≤ zn) (hnd : nd ≤ 70) (hlt : zn < nd) :
    Con l Z (⟨"java/lang/AbstractStringBuilder", "newCapacity", "(I)I"⟩ : MethodName) jdk_68_method_10_code 6 (some .int) ws ({ frames := 2, cells := 0, slots := 0, locals := 29 } : Room) #[(.ref b), (.int (Int32.ofNat nd))] h0 (fun v h L => v = some (.int (Int32.ofNat (own_cap zn nd))) ∧ L = [] ∧ h = h0) := by
  refine Con.intro opl_rm_newCap ?_
  intro p e s m below meth c s₁ hx hby hml hown hret hlk hZ hnm X0 e0
  have SS' := SS
  obtain ⟨hzc, SC, hwf, SF⟩ := SS
  have Z0 : n0 ≤ h0.size := O.1 ▸ O.2.1
  have N0 := Fr.nil n0
  obtain ⟨JE, JF, JC, JN, JV, JX⟩ := J
  refine OGo.cast (g' := (mkF m 0 #[.val (.ref b), .val (.int (Int32.ofNat nd)), .unset, .unset, .unset, .unset] [])) (by first | (simp [entryFrame, mkF, argsToLocals, Value.category]; done) | rfl) ?_
  refine og (fun _ k => XS.aloadN X0.here hx rfl (hb hby d68_10_0) rfl rfl k) ?_
  obtain ⟨T14, X14, e14, st14⟩ := getF X0 hx hZ hown (host := "") (Or.inl (own_g hw 87 rfl)) Via.refl e0 JF (g := (mkF m 1 #[.val (.ref b), .val (.int (Int32.ofNat nd)), .unset, .unset, .unset, .unset] [(.ref b)])) rfl rfl (hb hby d68_10_1)
  refine og st14 ?_
  refine og (fun _ k => alenV X14 hx hZ e14 JV (g := (mkF m 4 #[.val (.ref b), .val (.int (Int32.ofNat nd)), .unset, .unset, .unset, .unset] [(.ref d)])) rfl rfl (hb hby d68_10_4) _ k) ?_
  refine og (fun _ k => XS.istoreN X14.here hx rfl (hb hby d68_10_5) rfl (l' := #[.val (.ref b), .val (.int (Int32.ofNat nd)), .val (.int (Int32.ofNat zn)), .unset, .unset, .unset]) rfl k) ?_
  refine og (fun _ k => XS.iloadN X14.here hx rfl (hb hby d68_10_6) rfl k) ?_
  refine og (fun _ k => XS.aloadN X14.here hx rfl (hb hby d68_10_7) rfl rfl k) ?_
  obtain ⟨T15, X15, e15, st15⟩ := getF X14 hx hZ hown (host := "") (Or.inl (own_g hw 89 rfl)) Via.refl e14 JC (g := (mkF m 8 #[.val (.ref b), .val (.int (Int32.ofNat nd)), .val (.int (Int32.ofNat zn)), .unset, .unset, .unset] [(.ref b), (.int (Int32.ofNat nd))])) rfl rfl (hb hby d68_10_8)
  refine og st15 ?_
  refine og (fun _ k => XS.ishl X15.here hx rfl (hb hby d68_10_11) rfl k) ?_
  show OGo p e below _ T15 (mkF m 12 #[.val (.ref b), .val (.int (Int32.ofNat nd)), .val (.int (Int32.ofNat zn)), .unset, .unset, .unset] [(.int ((Int32.ofNat nd) <<< ((0 : Int32) &&& 31)))])
  rw [own_shl0]
  refine og (fun _ k => XS.istoreN X15.here hx rfl (hb hby d68_10_12) rfl (l' := #[.val (.ref b), .val (.int (Int32.ofNat nd)), .val (.int (Int32.ofNat zn)), .val (.int (Int32.ofNat nd)), .unset, .unset]) rfl k) ?_
  refine og (fun _ k => XS.iloadN X15.here hx rfl (hb hby d68_10_13) rfl k) ?_
  refine og (fun _ k => XS.iloadN X15.here hx rfl (hb hby d68_10_14) rfl k) ?_
  refine og (fun _ k => XS.isub X15.here hx rfl (hb hby d68_10_15) rfl k) ?_
  show OGo p e below _ T15 (mkF m 16 #[.val (.ref b), .val (.int (Int32.ofNat nd)), .val (.int (Int32.ofNat zn)), .val (.int (Int32.ofNat nd)), .unset, .unset] [(.int ((Int32.ofNat nd) - (Int32.ofNat zn)))])
  rw [own_subn (Nat.le_of_lt hlt) (by omega)]
  refine og (fun _ k => XS.istore X15.here hx rfl (hb hby d68_10_16) rfl (l' := #[.val (.ref b), .val (.int (Int32.ofNat nd)), .val (.int (Int32.ofNat zn)), .val (.int (Int32.ofNat nd)), .val (.int (Int32.ofNat (nd - zn))), .unset]) rfl k) ?_
  refine og (fun _ k => XS.iloadN X15.here hx rfl (hb hby d68_10_18) rfl k) ?_
  refine og (fun _ k => XS.iload X15.here hx rfl (hb hby d68_10_19) rfl k) ?_
  refine og (fun _ k => XS.iloadN X15.here hx rfl (hb hby d68_10_21) rfl k) ?_
  refine og (fun _ k => XS.iconst X15.here hx rfl (hb hby d68_10_22) k) ?_
  refine og (fun _ k => XS.aloadN X15.here hx rfl (hb hby d68_10_23) rfl rfl k) ?_
  obtain ⟨T16, X16, e16, st16⟩ := getF X15 hx hZ hown (host := "") (Or.inl (own_g hw 89 rfl)) Via.refl e15 JC (g := (mkF m 24 #[.val (.ref b), .val (.int (Int32.ofNat nd)), .val (.int (Int32.ofNat zn)), .val (.int (Int32.ofNat nd)), .val (.int (Int32.ofNat (nd - zn))), .unset] [(.ref b), (.int (2 : Int32)), (.int (Int32.ofNat zn)), (.int (Int32.ofNat (nd - zn))), (.int (Int32.ofNat zn))])) rfl rfl (hb hby d68_10_24)
  refine og st16 ?_
  refine og (fun _ k => XS.ishl X16.here hx rfl (hb hby d68_10_27) rfl k) ?_
  show OGo p e below _ T16 (mkF m 28 #[.val (.ref b), .val (.int (Int32.ofNat nd)), .val (.int (Int32.ofNat zn)), .val (.int (Int32.ofNat nd)), .val (.int (Int32.ofNat (nd - zn))), .unset] [(.int ((2 : Int32) <<< ((0 : Int32) &&& 31))), (.int (Int32.ofNat zn)), (.int (Int32.ofNat (nd - zn))), (.int (Int32.ofNat zn))])
  rw [own_shl0b]
  refine og (fun _ k => XS.iadd X16.here hx rfl (hb hby d68_10_28) rfl k) ?_
  show OGo p e below _ T16 (mkF m 29 #[.val (.ref b), .val (.int (Int32.ofNat nd)), .val (.int (Int32.ofNat zn)), .val (.int (Int32.ofNat nd)), .val (.int (Int32.ofNat (nd - zn))), .unset] [(.int ((Int32.ofNat zn) + (2 : Int32))), (.int (Int32.ofNat (nd - zn))), (.int (Int32.ofNat zn))])
  rw [own_addk]
  obtain ⟨v17, T17, L17, X17, hQ17, st17⟩ := scall X16 hx hZ hown (own_g hw 145 rfl) (own_g hw 146 rfl) (own_g hw 147 rfl) (own_g hw 148 rfl) (by decide) (W := 0) (rm_newLen l Z a0 hw [] zn (nd - zn) (zn + 2) h0 (by omega) (by omega) (by omega) (by omega)) e16 (by decide) (by decide) (by decide) (by decide) (g := (mkF m 29 #[.val (.ref b), .val (.int (Int32.ofNat nd)), .val (.int (Int32.ofNat zn)), .val (.int (Int32.ofNat nd)), .val (.int (Int32.ofNat (nd - zn))), .unset] [(.int (Int32.ofNat (zn + 2))), (.int (Int32.ofNat (nd - zn))), (.int (Int32.ofNat zn))])) rfl (by rw [hml]; rfl) (argsL := [(.int (Int32.ofNat zn)), (.int (Int32.ofNat (nd - zn))), (.int (Int32.ofNat (zn + 2)))]) (rest := []) opd_6 rfl rfl rfl (by show 2 * 0 + _ ≤ _; exact Nat.le_of_eq rfl) (hb hby d68_10_29)
  obtain ⟨rfl, rfl, e17⟩ := hQ17
  rw [List.append_nil] at X17
  refine og st17 ?_
  have hcp : zn + max (nd - zn) (zn + 2) = own_cap zn nd := by unfold own_cap; rw [if_neg (by omega)]; omega
  show OGo p e below _ T17 (mkF m 32 #[.val (.ref b), .val (.int (Int32.ofNat nd)), .val (.int (Int32.ofNat zn)), .val (.int (Int32.ofNat nd)), .val (.int (Int32.ofNat (nd - zn))), .unset] [(.int (Int32.ofNat (zn + max (nd - zn) (zn + 2))))])
  rw [hcp]
  have hcb : own_cap zn nd ≤ 142 := by rw [← hcp]; omega
  refine og (fun _ k => XS.istore X17.here hx rfl (hb hby d68_10_32) rfl (l' := #[.val (.ref b), .val (.int (Int32.ofNat nd)), .val (.int (Int32.ofNat zn)), .val (.int (Int32.ofNat nd)), .val (.int (Int32.ofNat (nd - zn))), .val (.int (Int32.ofNat (own_cap zn nd)))]) rfl k) ?_
  refine og (fun _ k => XS.iload X17.here hx rfl (hb hby d68_10_34) rfl k) ?_
  refine og (fun _ k => Jvm.Stand.ldcI X17 hx hown (mvT hZ (own_g hw 154 rfl)) rfl (hb hby d68_10_36) k) ?_
  show OGo p e below _ T17 (mkF m 38 #[.val (.ref b), .val (.int (Int32.ofNat nd)), .val (.int (Int32.ofNat zn)), .val (.int (Int32.ofNat nd)), .val (.int (Int32.ofNat (nd - zn))), .val (.int (Int32.ofNat (own_cap zn nd)))] [(.int (2147483647 : Int32)), (.int (Int32.ofNat (own_cap zn nd)))])
  refine og (fun _ k => XS.icmpYes X17.here hx rfl (pc0 := 38) (pc' := 51) rfl (hb hby d68_10_38) rfl (feq (fun q => absurd (congrArg Int32.toInt q) (by rw [own_toInt (by omega)]; show ¬ ((own_cap zn nd : Nat) : Int) = 2147483647; omega))).2 (by decide) (by decide) k) ?_
  refine og (fun _ k => XS.iload X17.here hx rfl (hb hby d68_10_51) rfl k) ?_
  refine og (fun _ k => XS.aloadN X17.here hx rfl (hb hby d68_10_53) rfl rfl k) ?_
  obtain ⟨T18, X18, e18, st18⟩ := getF X17 hx hZ hown (host := "") (Or.inl (own_g hw 89 rfl)) Via.refl e17 JC (g := (mkF m 54 #[.val (.ref b), .val (.int (Int32.ofNat nd)), .val (.int (Int32.ofNat zn)), .val (.int (Int32.ofNat nd)), .val (.int (Int32.ofNat (nd - zn))), .val (.int (Int32.ofNat (own_cap zn nd)))] [(.ref b), (.int (Int32.ofNat (own_cap zn nd)))])) rfl rfl (hb hby d68_10_54)
  refine og st18 ?_
  refine og (fun _ k => XS.ishr X18.here hx rfl (hb hby d68_10_57) rfl k) ?_
  show OGo p e below _ T18 (mkF m 58 #[.val (.ref b), .val (.int (Int32.ofNat nd)), .val (.int (Int32.ofNat zn)), .val (.int (Int32.ofNat nd)), .val (.int (Int32.ofNat (nd - zn))), .val (.int (Int32.ofNat (own_cap zn nd)))] [(.int ((Int32.ofNat (own_cap zn nd)) >>> ((0 : Int32) &&& 31)))])
  rw [own_shr0]
  show OGo p e below _ T18 (mkF m 58 #[.val (.ref b), .val (.int (Int32.ofNat nd)), .val (.int (Int32.ofNat zn)), .val (.int (Int32.ofNat nd)), .val (.int (Int32.ofNat (nd - zn))), .val (.int (Int32.ofNat (own_cap zn nd)))] [(.int (Int32.ofNat (own_cap zn nd)))])
  exact OGo.ret X18 hx (t := .int) hret hlk rfl (Or.inl ⟨rfl, by simp, _, rfl⟩) (hb hby d68_10_58) (by decide) (by decide) ⟨rfl, rfl, e18⟩
theorem d65_121_0 : DK jdk_65_method_121_code 0 (.iload_n 1) 1 := by decide +kernel
theorem d65_121_1 : DK jdk_65_method_121_code 1 (.aload_n 0) 1 := by decide +kernel
theorem d65_121_2 : DK jdk_65_method_121_code 2 .arraylength 1 := by decide +kernel
theorem d65_121_3 : DK jdk_65_method_121_code 3 (.if_icmp .ne 11) 3 := by decide +kernel
theorem d65_121_14 : DK jdk_65_method_121_code 14 (.iload_n 1) 1 := by decide +kernel
theorem d65_121_15 : DK jdk_65_method_121_code 15 (.newarray .byte) 2 := by decide +kernel
theorem d65_121_17 : DK jdk_65_method_121_code 17 (.astore_n 2) 1 := by decide +kernel
theorem d65_121_18 : DK jdk_65_method_121_code 18 (.aload_n 0) 1 := by decide +kernel
theorem d65_121_19 : DK jdk_65_method_121_code 19 (.iconst 0) 1 := by decide +kernel
theorem d65_121_20 : DK jdk_65_method_121_code 20 (.aload_n 2) 1 := by decide +kernel
theorem d65_121_21 : DK jdk_65_method_121_code 21 (.iconst 0) 1 := by decide +kernel
theorem d65_121_22 : DK jdk_65_method_121_code 22 (.aload_n 0) 1 := by decide +kernel
theorem d65_121_23 : DK jdk_65_method_121_code 23 .arraylength 1 := by decide +kernel
theorem d65_121_24 : DK jdk_65_method_121_code 24 (.iload_n 1) 1 := by decide +kernel
theorem d65_121_25 : DK jdk_65_method_121_code 25 (.invokestatic 304) 3 := by decide +kernel
theorem d65_121_28 : DK jdk_65_method_121_code 28 (.invokestatic 150) 3 := by decide +kernel
theorem d65_121_31 : DK jdk_65_method_121_code 31 (.aload_n 2) 1 := by decide +kernel
theorem d65_121_32 : DK jdk_65_method_121_code 32 .areturn 1 := by decide +kernel
theorem opl_rm_copyOf : plainFor (⟨"java/util/Arrays", "copyOf", "([BI)[B"⟩ : MethodName) = true := plainFor_of_name (by first | (simp [plainName, overriddenIn]; done) | decide +kernel)
theorem rm_copyOf (l : Launch) (Z : State) (a0 : Array Value) (hw : ∀ d ∈ tables_1, d.before a0 Z = true) (ws : List Jvm.Cond) (d : Addr) (k : ClassId) (zn n : Nat) (bs : List Value) (zc : Int32) (wf : Value) (n0 : Nat) (h0 : Heap) (SS : own_SS Z zc wf) (O : Old Z n0 h0) (V : Arv Z h0 d k .byte (Int32.ofNat zn) bs (.int (0 : Int32))) (hzn : zn ≤ 70) (hnc : n ≤ 142) (hlt : zn < n) (hbz : bs.length ≤ zn) :
    Con l Z (⟨"java/util/Arrays", "copyOf", "([BI)[B"⟩ : MethodName) jdk_65_method_121_code 3 (some (.array .byte)) ws ({ frames := 1, cells := 1, slots := 142, locals := 29 } : Room) #[(.ref d), (.int (Int32.ofNat n))] h0 (fun v h L => ∃ r k', v = some (.ref r) ∧ h0.size ≤ r ∧ Fr n0 L ∧ Keep h0 h [] ∧ Arv Z h r k' .byte (Int32.ofNat n) bs (.int (0 : Int32)) ∧ Exa Z h r "[B") := by
  refine Con.intro opl_rm_copyOf ?_
  intro p e s m below meth c s₁ hx hby hml hown hret hlk hZ hnm X0 e0
  obtain ⟨hzc, SC, hwf, SF⟩ := SS
  have Z0 : n0 ≤ h0.size := O.1 ▸ O.2.1
  have N0 := Fr.nil n0
  refine OGo.cast (g' := (mkF m 0 #[.val (.ref d), .val (.int (Int32.ofNat n)), .unset] [])) (by first | (simp [entryFrame, mkF, argsToLocals, Value.category]; done) | rfl) ?_
  refine og (fun _ k => XS.iloadN X0.here hx rfl (hb hby d65_121_0) rfl k) ?_
  refine og (fun _ k => XS.aloadN X0.here hx rfl (hb hby d65_121_1) rfl rfl k) ?_
  refine og (fun _ k => alenV X0 hx hZ e0 V (g := (mkF m 2 #[.val (.ref d), .val (.int (Int32.ofNat n)), .unset] [(.ref d), (.int (Int32.ofNat n))])) rfl rfl (hb hby d65_121_2) _ k) ?_
  show OGo p e below _ s₁ (mkF m 3 #[.val (.ref d), .val (.int (Int32.ofNat n)), .unset] [(.int (Int32.ofNat zn)), (.int (Int32.ofNat n))])
  refine og (fun _ k => XS.icmpYes X0.here hx rfl (pc0 := 3) (pc' := 14) rfl (hb hby d65_121_3) rfl (feq (fun q => absurd ((own_lt (by omega) (by omega)).mpr hlt) (by rw [q]; exact Int32.lt_irrefl))).2 (by decide) (by decide) k) ?_
  refine og (fun _ k => XS.iloadN X0.here hx rfl (hb hby d65_121_14) rfl k) ?_
  obtain ⟨T19, h19, k19, X19, e19, E19, A19, AE19, st19⟩ := newPE X0 hx hZ (own_g hw 19 rfl) e0 (g := (mkF m 15 #[.val (.ref d), .val (.int (Int32.ofNat n)), .unset] [(.int (Int32.ofNat n))])) rfl (hb hby d65_121_15) rfl (own_nn (by omega)) (cap := 142) (by rw [own_cl (by omega)]; exact hnc) (by decide) (by decide) (by decide) (ad := "[B") (by decide)
  obtain ⟨b19, g19⟩ : ∃ z, z = h0.size := ⟨_, rfl⟩
  rw [← g19] at A19 AE19 st19
  have sz_b19 : h0.size ≤ b19 := Nat.le_trans (Keep.refl h0 []).1 (Nat.le_of_eq g19.symm)
  have KK19 : Keep h0 h19 [] := (Keep.refl h0 []).ext E19
  have V19 : Arv Z h19 b19 k19 .byte (Int32.ofNat n) [] (.int (0 : Int32)) := Arv.new A19 (own_nn (by omega))
  refine og st19 ?_
  refine og (fun _ k => XS.astoreN X19.here hx rfl (hb hby d65_121_17) rfl rfl (l' := #[.val (.ref d), .val (.int (Int32.ofNat n)), .val (.ref b19)]) rfl k) ?_
  refine og (fun _ k => XS.aloadN X19.here hx rfl (hb hby d65_121_18) rfl rfl k) ?_
  refine og (fun _ k => XS.iconst X19.here hx rfl (hb hby d65_121_19) k) ?_
  refine og (fun _ k => XS.aloadN X19.here hx rfl (hb hby d65_121_20) rfl rfl k) ?_
  refine og (fun _ k => XS.iconst X19.here hx rfl (hb hby d65_121_21) k) ?_
  refine og (fun _ k => XS.aloadN X19.here hx rfl (hb hby d65_121_22) rfl rfl k) ?_
  refine og (fun _ k => alenV X19 hx hZ e19 (V.ext E19) (g := (mkF m 23 #[.val (.ref d), .val (.int (Int32.ofNat n)), .val (.ref b19)] [(.ref d), (.int (0 : Int32)), (.ref b19), (.int (0 : Int32)), (.ref d)])) rfl rfl (hb hby d65_121_23) _ k) ?_
  refine og (fun _ k => XS.iloadN X19.here hx rfl (hb hby d65_121_24) rfl k) ?_
  obtain ⟨v20, T20, L20, X20, hQ20, st20⟩ := scall X19 hx hZ hown (own_g hw 159 rfl) (own_g hw 160 rfl) (own_g hw 151 rfl) (own_g hw 161 rfl) (by decide) (W := 4) (rm_minA l Z a0 hw [] (Int32.ofNat zn) (Int32.ofNat n) h19 (own_gelt (by omega) (by omega) (Nat.le_of_lt hlt) |> fun h q => absurd ((own_lt (by omega) (by omega)).mp q) (by omega))) e19 (by decide) (by decide) (by decide) (by decide) (g := (mkF m 25 #[.val (.ref d), .val (.int (Int32.ofNat n)), .val (.ref b19)] [(.int (Int32.ofNat n)), (.int (Int32.ofNat zn)), (.int (0 : Int32)), (.ref b19), (.int (0 : Int32)), (.ref d)])) rfl (by rw [hml]; rfl) (argsL := [(.int (Int32.ofNat zn)), (.int (Int32.ofNat n))]) (rest := [(.int (0 : Int32)), (.ref b19), (.int (0 : Int32)), (.ref d)]) opd_5 rfl rfl rfl (by show 2 * 0 + _ ≤ _; exact Nat.le_of_eq rfl) (hb hby d65_121_25)
  obtain ⟨rfl, rfl, e20⟩ := hQ20
  rw [List.append_nil] at X20
  refine og st20 ?_
  have hl : (bs ++ List.replicate (zn - bs.length) (Value.int (0 : Int32))).length = zn := by rw [List.length_append, List.length_replicate]; omega
  have Vp : Arv Z h19 d k .byte (Int32.ofNat zn) (bs ++ List.replicate (zn - bs.length) (Value.int (0 : Int32))) (.int (0 : Int32)) := (V.ext E19).pad (pad_rep _ _ _)
  obtain ⟨T21, h21, L21, X21, e21, N21, K21, V21, st21⟩ := own_cp X20 hx hZ hown (own_g hw 162 rfl) (own_g hw 138 rfl) (own_g hw 136 rfl) (own_g hw 137 rfl) e20 Vp V19 (by rw [hl, own_cl (by omega)]; exact Nat.le_refl _) (by rw [hl, own_cl (by omega)]; show 0 + zn ≤ n; omega) (by rw [hl]; omega) (by decide) N0 (Nat.le_trans Z0 sz_b19) (g := (mkF m 28 #[.val (.ref d), .val (.int (Int32.ofNat n)), .val (.ref b19)] [(.int (Int32.ofNat zn)), (.int (0 : Int32)), (.ref b19), (.int (0 : Int32)), (.ref d)])) rfl (by rw [hml]; rfl) (rest := []) (by rw [hl]; rfl) (hb hby d65_121_28) (by decide) (W := 0) (by show 2 * 0 + _ ≤ _; exact Nat.le_of_eq rfl) (by decide)
  have KK21 : Keep h0 h21 [] := KK19.trans K21 (allS (Or.inr sz_b19) all0)
  refine og st21 ?_
  refine og (fun _ k => XS.aloadN X21.here hx rfl (hb hby d65_121_31) rfl rfl k) ?_
  have Vf : Arv Z h21 b19 k19 .byte (Int32.ofNat n) bs (.int (0 : Int32)) := Arv.pad V21 (fun i => (pad_rep bs (.int (0 : Int32)) (zn - bs.length) i).symm)
  show OGo p e below _ T21 (mkF m 32 #[.val (.ref d), .val (.int (Int32.ofNat n)), .val (.ref b19)] [(.ref b19)])
  exact OGo.ret X21 hx (t := (.array .byte)) hret hlk rfl (Or.inr (Or.inr (Or.inr (Or.inr ⟨rfl, rfl, rfl⟩)))) (hb hby d65_121_32) (by decide) (by decide) (by rw [e21]; exact ⟨b19, _, rfl, sz_b19, N21, KK21, Vf, (AE19.keep K21)⟩)
theorem d68_9_0 : DK jdk_68_method_9_code 0 (.aload_n 0) 1 := by decide +kernel
theorem d68_9_1 : DK jdk_68_method_9_code 1 (.getfield 15) 3 := by decide +kernel
theorem d68_9_4 : DK jdk_68_method_9_code 4 .arraylength 1 := by decide +kernel
theorem d68_9_5 : DK jdk_68_method_9_code 5 (.aload_n 0) 1 := by decide +kernel
theorem d68_9_6 : DK jdk_68_method_9_code 6 (.getfield 22) 3 := by decide +kernel
theorem d68_9_9 : DK jdk_68_method_9_code 9 .ishr 1 := by decide +kernel
theorem d68_9_10 : DK jdk_68_method_9_code 10 (.istore_n 2) 1 := by decide +kernel
theorem d68_9_11 : DK jdk_68_method_9_code 11 (.iload_n 1) 1 := by decide +kernel
theorem d68_9_12 : DK jdk_68_method_9_code 12 (.iload_n 2) 1 := by decide +kernel
theorem d68_9_13 : DK jdk_68_method_9_code 13 .isub 1 := by decide +kernel
theorem d68_9_14 : DK jdk_68_method_9_code 14 (.ifCond .le 24) 3 := by decide +kernel
theorem d68_9_17 : DK jdk_68_method_9_code 17 (.aload_n 0) 1 := by decide +kernel
theorem d68_9_18 : DK jdk_68_method_9_code 18 (.aload_n 0) 1 := by decide +kernel
theorem d68_9_19 : DK jdk_68_method_9_code 19 (.getfield 15) 3 := by decide +kernel
theorem d68_9_22 : DK jdk_68_method_9_code 22 (.aload_n 0) 1 := by decide +kernel
theorem d68_9_23 : DK jdk_68_method_9_code 23 (.iload_n 1) 1 := by decide +kernel
theorem opd_7 : parseMethodDescriptor "(I)I" = some ⟨[.int], some .int⟩ := by decide +kernel
theorem d68_9_24 : DK jdk_68_method_9_code 24 (.invokevirtual 104) 3 := by decide +kernel
theorem d68_9_27 : DK jdk_68_method_9_code 27 (.aload_n 0) 1 := by decide +kernel
theorem d68_9_28 : DK jdk_68_method_9_code 28 (.getfield 22) 3 := by decide +kernel
theorem d68_9_31 : DK jdk_68_method_9_code 31 .ishl 1 := by decide +kernel
theorem opd_8 : parseMethodDescriptor "([BI)[B" = some ⟨[(.array .byte), .int], some (.array .byte)⟩ := by decide +kernel
theorem d68_9_32 : DK jdk_68_method_9_code 32 (.invokestatic 108) 3 := by decide +kernel
theorem d68_9_35 : DK jdk_68_method_9_code 35 (.putfield 15) 3 := by decide +kernel
theorem d68_9_38 : DK jdk_68_method_9_code 38 .return_ 1 := by decide +kernel
theorem opl_rm_ensG : plainFor (⟨"java/lang/AbstractStringBuilder", "ensureCapacityInternal", "(I)V"⟩ : MethodName) = true := plainFor_of_name (by first | (simp [plainName, overriddenIn]; done) | decide +kernel)
theorem rm_ensG (l : Launch) (Z : State) (a0 : Array Value) (hw : ∀ d ∈ tables_1, d.before a0 Z = true) (ws : List Jvm.Cond) (b d : Addr) (k : ClassId) (zn : Nat) (bs : List Value) (nd : Nat) (zc : Int32) (wf : Value) (n0 : Nat) (h0 : Heap) (SS : own_SS Z zc wf) (O : Old Z n0 h0) (J : SBI Z h0 b d k (Int32.ofNat zn) bs) (hzn : zn ≤ 70) (hbz : bs.length ≤ zn) (hnd : nd ≤ 70) (g_b : n0 ≤ b) :
    Con l Z (⟨"java/lang/AbstractStringBuilder", "ensureCapacityInternal", "(I)V"⟩ : MethodName) jdk_68_method_9_code 3 none ws ({ frames := 3, cells := 1, slots := 142, locals := 48 } : Room) #[(.ref b), (.int (Int32.ofNat nd))] h0 (fun v h L => v = none ∧ Fr n0 L ∧ Keep h0 h [b] ∧ ∃ d' k', (d' = d ∨ h0.size ≤ d') ∧ SBI Z h b d' k' (Int32.ofNat (own_cap zn nd)) bs) := by
  refine Con.intro opl_rm_ensG ?_
  intro p e s m below meth c s₁ hx hby hml hown hret hlk hZ hnm X0 e0
  have SS' := SS
  obtain ⟨hzc, SC, hwf, SF⟩ := SS
  have Z0 : n0 ≤ h0.size := O.1 ▸ O.2.1
  have N0 := Fr.nil n0
  obtain ⟨JE, JF, JC, JN, JV, JX⟩ := J
  refine OGo.cast (g' := (mkF m 0 #[.val (.ref b), .val (.int (Int32.ofNat nd)), .unset] [])) (by first | (simp [entryFrame, mkF, argsToLocals, Value.category]; done) | rfl) ?_
  refine og (fun _ k => XS.aloadN X0.here hx rfl (hb hby d68_9_0) rfl rfl k) ?_
  obtain ⟨T22, X22, e22, st22⟩ := getF X0 hx hZ hown (host := "") (Or.inl (own_g hw 87 rfl)) Via.refl e0 JF (g := (mkF m 1 #[.val (.ref b), .val (.int (Int32.ofNat nd)), .unset] [(.ref b)])) rfl rfl (hb hby d68_9_1)
  refine og st22 ?_
  refine og (fun _ k => alenV X22 hx hZ e22 JV (g := (mkF m 4 #[.val (.ref b), .val (.int (Int32.ofNat nd)), .unset] [(.ref d)])) rfl rfl (hb hby d68_9_4) _ k) ?_
  refine og (fun _ k => XS.aloadN X22.here hx rfl (hb hby d68_9_5) rfl rfl k) ?_
  obtain ⟨T23, X23, e23, st23⟩ := getF X22 hx hZ hown (host := "") (Or.inl (own_g hw 89 rfl)) Via.refl e22 JC (g := (mkF m 6 #[.val (.ref b), .val (.int (Int32.ofNat nd)), .unset] [(.ref b), (.int (Int32.ofNat zn))])) rfl rfl (hb hby d68_9_6)
  refine og st23 ?_
  refine og (fun _ k => XS.ishr X23.here hx rfl (hb hby d68_9_9) rfl k) ?_
  show OGo p e below _ T23 (mkF m 10 #[.val (.ref b), .val (.int (Int32.ofNat nd)), .unset] [(.int ((Int32.ofNat zn) >>> ((0 : Int32) &&& 31)))])
  rw [own_shr0]
  refine og (fun _ k => XS.istoreN X23.here hx rfl (hb hby d68_9_10) rfl (l' := #[.val (.ref b), .val (.int (Int32.ofNat nd)), .val (.int (Int32.ofNat zn))]) rfl k) ?_
  refine og (fun _ k => XS.iloadN X23.here hx rfl (hb hby d68_9_11) rfl k) ?_
  refine og (fun _ k => XS.iloadN X23.here hx rfl (hb hby d68_9_12) rfl k) ?_
  refine og (fun _ k => XS.isub X23.here hx rfl (hb hby d68_9_13) rfl k) ?_
  by_cases q : zn < nd
  · refine og (fun _ k => XS.ifNo X23.here hx rfl (hb hby d68_9_14) rfl ((if0 _ _).trans (tlt ((own_nd (by omega) (by omega)).mpr q)).2.2.2) k) ?_
    refine og (fun _ k => XS.aloadN X23.here hx rfl (hb hby d68_9_17) rfl rfl k) ?_
    refine og (fun _ k => XS.aloadN X23.here hx rfl (hb hby d68_9_18) rfl rfl k) ?_
    obtain ⟨T24, X24, e24, st24⟩ := getF X23 hx hZ hown (host := "") (Or.inl (own_g hw 87 rfl)) Via.refl e23 JF (g := (mkF m 19 #[.val (.ref b), .val (.int (Int32.ofNat nd)), .val (.int (Int32.ofNat zn))] [(.ref b), (.ref b)])) rfl rfl (hb hby d68_9_19)
    refine og st24 ?_
    refine og (fun _ k => XS.aloadN X24.here hx rfl (hb hby d68_9_22) rfl rfl k) ?_
    refine og (fun _ k => XS.iloadN X24.here hx rfl (hb hby d68_9_23) rfl k) ?_
    obtain ⟨v25, T25, L25, X25, hQ25, st25⟩ := pcall X24 hx hZ hown (own_g hw 140 rfl) (own_g hw 141 rfl) (own_g hw 143 rfl) (own_g hw 142 rfl) (own_g hw 83 rfl) (own_g hw 144 rfl) (by decide) (W := 2) (rm_newCap l Z a0 hw [] b d k zn bs nd zc wf n0 h0 SS' O ⟨JE, JF, JC, JN, JV, JX⟩ hzn hbz hnd q) e24 (by decide) (by decide) (by decide) (by decide) (g := (mkF m 24 #[.val (.ref b), .val (.int (Int32.ofNat nd)), .val (.int (Int32.ofNat zn))] [(.int (Int32.ofNat nd)), (.ref b), (.ref d), (.ref b)])) rfl (by rw [hml]; rfl) JE (argsL := [(.int (Int32.ofNat nd))]) (rest := [(.ref d), (.ref b)]) opd_7 rfl rfl rfl (by show 2 * 0 + _ ≤ _; exact Nat.le_of_eq rfl) (hb hby d68_9_24)
    obtain ⟨rfl, rfl, e25⟩ := hQ25
    rw [List.append_nil] at X25
    refine og st25 ?_
    refine og (fun _ k => XS.aloadN X25.here hx rfl (hb hby d68_9_27) rfl rfl k) ?_
    obtain ⟨T26, X26, e26, st26⟩ := getF X25 hx hZ hown (host := "") (Or.inl (own_g hw 89 rfl)) Via.refl e25 JC (g := (mkF m 28 #[.val (.ref b), .val (.int (Int32.ofNat nd)), .val (.int (Int32.ofNat zn))] [(.ref b), (.int (Int32.ofNat (own_cap zn nd))), (.ref d), (.ref b)])) rfl rfl (hb hby d68_9_28)
    refine og st26 ?_
    refine og (fun _ k => XS.ishl X26.here hx rfl (hb hby d68_9_31) rfl k) ?_
    show OGo p e below _ T26 (mkF m 32 #[.val (.ref b), .val (.int (Int32.ofNat nd)), .val (.int (Int32.ofNat zn))] [(.int ((Int32.ofNat (own_cap zn nd)) <<< ((0 : Int32) &&& 31))), (.ref d), (.ref b)])
    rw [own_shl0]
    have hc1 : own_cap zn nd ≤ 142 ∧ zn < own_cap zn nd := by unfold own_cap; rw [if_neg (by omega)]; omega
    obtain ⟨v27, T27, L27, X27, hQ27, st27⟩ := scall X26 hx hZ hown (own_g hw 155 rfl) (own_g hw 156 rfl) (own_g hw 157 rfl) (own_g hw 158 rfl) (by decide) (W := 1) (rm_copyOf l Z a0 hw [] d k zn (own_cap zn nd) bs zc wf n0 h0 SS' O JV hzn hc1.1 hc1.2 hbz) e26 (by decide) (by decide) (by decide) (by decide) (g := (mkF m 32 #[.val (.ref b), .val (.int (Int32.ofNat nd)), .val (.int (Int32.ofNat zn))] [(.int (Int32.ofNat (own_cap zn nd))), (.ref d), (.ref b)])) rfl (by rw [hml]; rfl) (argsL := [(.ref d), (.int (Int32.ofNat (own_cap zn nd)))]) (rest := [(.ref b)]) opd_8 rfl rfl rfl (by show 2 * 0 + _ ≤ _; exact Nat.le_of_eq rfl) (hb hby d68_9_32)
    obtain ⟨r27, kr27, rfl, sr27, N27, K27, V27, VX27⟩ := hQ27
    have NN27 := Fr.app N0 N27
    have KK27 : Keep h0 T27.heap [b] := (Keep.refl h0 [b]).trans K27 all0
    have sz_r27 : h0.size ≤ r27 := Nat.le_trans (Keep.refl h0 [b]).1 sr27
    refine og st27 ?_
    obtain ⟨T28, h28, X28, e28, W28, st28⟩ := putF X27 hx hZ hown (host := "") (Or.inl (own_g hw 87 rfl)) Via.refl rfl (JF.keep K27 nin0) (JE.keep K27) (Or.inl (own_g hw 88 rfl)) (own_g hw 74 rfl) (ty := (.array .byte)) (by decide) rfl rfl (g := (mkF m 35 #[.val (.ref b), .val (.int (Int32.ofNat nd)), .val (.int (Int32.ofNat zn))] [(.ref r27), (.ref b)])) rfl rfl (hb hby d68_9_35)
    have Fw28 := (JF.keep K27 nin0).same W28
    have N28 := Fr.snoc X28 NN27 g_b
    have KK28 : Keep h0 h28 [b] := KK27.wr W28 (Or.inl (List.mem_of_getElem? (i := 0) rfl))
    refine og st28 ?_
    have q29 := ((JC.keep K27 nin0).other W28 (Or.inr (slot_ne (Or.inl (own_g hw 90 rfl)) (Or.inl (own_g hw 88 rfl)) (by decide) (t := .byte) (t' := (.array .byte)) (by decide) (by decide))))
    have q30 := ((JN.keep K27 nin0).other W28 (Or.inr (slot_ne (Or.inl (own_g hw 113 rfl)) (Or.inl (own_g hw 88 rfl)) (by decide) (t := .int) (t' := (.array .byte)) (by decide) (by decide))))
    have ne31 : r27 ≠ b := (Ne.symm (Nat.ne_of_lt (Nat.lt_of_lt_of_le JE.lt sz_r27)))
    show OGo p e below _ T28 (mkF m 38 #[.val (.ref b), .val (.int (Int32.ofNat nd)), .val (.int (Int32.ofNat zn))] [])
    exact OGo.retV X28 hx hret hlk (hb hby d68_9_38) (by decide) (by decide) (by rw [e28]; exact ⟨rfl, N28, KK28, r27, _, Or.inr sz_r27, ⟨((JE.keep K27).wr W28), Fw28, q29, q30, (V27.other W28 ne31), (VX27.wr W28)⟩⟩)
  refine og (fun _ k => XS.ifYes X23.here hx rfl (pc0 := 14) (pc' := 38) rfl (hb hby d68_9_14) rfl ((if0 _ _).trans (flt (fun p => q ((own_nd (by omega) (by omega)).mp p))).2.2.2) (by decide) (by decide) k) ?_
  have hc1 : own_cap zn nd = zn := by unfold own_cap; rw [if_pos (by omega)]
  show OGo p e below _ T23 (mkF m 38 #[.val (.ref b), .val (.int (Int32.ofNat nd)), .val (.int (Int32.ofNat zn))] [])
  exact OGo.retV X23 hx hret hlk (hb hby d68_9_38) (by decide) (by decide) (by rw [e23, hc1]; exact ⟨rfl, N0, Keep.refl _ _, d, k, Or.inl rfl, ⟨JE, JF, JC, JN, JV, JX⟩⟩)
theorem d68_71_0 : DK jdk_68_method_71_code 0 (.getstatic 18) 3 := by decide +kernel
theorem d68_71_3 : DK jdk_68_method_71_code 3 (.ifCond .eq 18) 3 := by decide +kernel
theorem d68_71_6 : DK jdk_68_method_71_code 6 (.aload_n 0) 1 := by decide +kernel
theorem d68_71_7 : DK jdk_68_method_71_code 7 (.getfield 22) 3 := by decide +kernel
theorem d68_71_10 : DK jdk_68_method_71_code 10 (.aload_n 1) 1 := by decide +kernel
theorem d68_71_11 : DK jdk_68_method_71_code 11 (.invokevirtual 40) 3 := by decide +kernel
theorem d68_71_14 : DK jdk_68_method_71_code 14 (.if_icmp .eq 7) 3 := by decide +kernel
theorem d68_71_21 : DK jdk_68_method_71_code 21 .return_ 1 := by decide +kernel
theorem opl_rm_infl : plainFor (⟨"java/lang/AbstractStringBuilder", "inflateIfNeededFor", "(Ljava/lang/String;)V"⟩ : MethodName) = true := plainFor_of_name (by first | (simp [plainName, overriddenIn]; done) | decide +kernel)
theorem rm_infl (l : Launch) (Z : State) (a0 : Array Value) (hw : ∀ d ∈ tables_1, d.before a0 Z = true) (ws : List Jvm.Cond) (b d : Addr) (k : ClassId) (z : Int32) (bs : List Value) (a e2 : Addr) (k2 : ClassId) (us : List Value) (zc : Int32) (wf : Value) (n0 : Nat) (h0 : Heap) (SS : own_SS Z zc wf) (O : Old Z n0 h0) (J : SBI Z h0 b d k z bs) (I : STI Z h0 a e2 k2 us) :
    Con l Z (⟨"java/lang/AbstractStringBuilder", "inflateIfNeededFor", "(Ljava/lang/String;)V"⟩ : MethodName) jdk_68_method_71_code 2 none ws ({ frames := 1, cells := 0, slots := 0, locals := 13 } : Room) #[(.ref b), (.ref a)] h0 (fun v h L => v = none ∧ L = [] ∧ h = h0) := by
  refine Con.intro opl_rm_infl ?_
  intro p e s m below meth c s₁ hx hby hml hown hret hlk hZ hnm X0 e0
  have SS' := SS
  obtain ⟨hzc, SC, hwf, SF⟩ := SS
  have Z0 : n0 ≤ h0.size := O.1 ▸ O.2.1
  have N0 := Fr.nil n0
  obtain ⟨JE, JF, JC, JN, JV, JX⟩ := J
  obtain ⟨IE, IC, IF, IV⟩ := I
  refine OGo.cast (g' := (mkF m 0 #[.val (.ref b), .val (.ref a)] [])) (by first | (simp [entryFrame, mkF, argsToLocals, Value.category]; done) | rfl) ?_
  obtain ⟨T32, X32, e32, st32⟩ := getS2 X0 hx hZ hown (host := "") (Or.inl (own_g hw 86 rfl)) Via.refl e0 (SC.ext O.2) (g := (mkF m 0 #[.val (.ref b), .val (.ref a)] [])) rfl (hb hby d68_71_0)
  refine og st32 ?_
  refine og (fun _ k => XS.ifNo X32.here hx rfl (hb hby d68_71_3) rfl ((if0 _ _).trans (feq hzc).1) k) ?_
  refine og (fun _ k => XS.aloadN X32.here hx rfl (hb hby d68_71_6) rfl rfl k) ?_
  obtain ⟨T33, X33, e33, st33⟩ := getF X32 hx hZ hown (host := "") (Or.inl (own_g hw 89 rfl)) Via.refl e32 JC (g := (mkF m 7 #[.val (.ref b), .val (.ref a)] [(.ref b)])) rfl rfl (hb hby d68_71_7)
  refine og st33 ?_
  refine og (fun _ k => XS.aloadN X33.here hx rfl (hb hby d68_71_10) rfl rfl k) ?_
  obtain ⟨v34, T34, L34, X34, hQ34, st34⟩ := vcall X33 hx hZ hown (own_g hw 129 rfl) (own_g hw 108 rfl) (own_g hw 110 rfl) rfl (own_g hw 110 rfl) (own_g hw 109 rfl) (own_g hw 2 rfl) (own_g hw 111 rfl) (by decide) (W := 1) (rm_coder l Z a0 hw [] a zc wf n0 h0 SS' O IC) e33 (by decide) (by decide) (by decide) (by decide) (g := (mkF m 11 #[.val (.ref b), .val (.ref a)] [(.ref a), (.int (0 : Int32))])) rfl (by rw [hml]; rfl) IE (argsL := []) (rest := [(.int (0 : Int32))]) opd_0 rfl rfl rfl (by show 2 * 0 + _ ≤ _; exact Nat.le_of_eq rfl) (hb hby d68_71_11)
  obtain ⟨rfl, rfl, e34⟩ := hQ34
  rw [List.append_nil] at X34
  refine og st34 ?_
  refine og (fun _ k => XS.icmpYes X34.here hx rfl (pc0 := 14) (pc' := 21) rfl (hb hby d68_71_14) rfl (teq (rfl : (0 : Int32) = 0)).1 (by decide) (by decide) k) ?_
  show OGo p e below _ T34 (mkF m 21 #[.val (.ref b), .val (.ref a)] [])
  exact OGo.retV X34 hx hret hlk (hb hby d68_71_21) (by decide) (by decide) ⟨rfl, rfl, e34⟩
theorem d42_147_0 : DK jdk_42_method_147_code 0 (.aload_n 0) 1 := by decide +kernel
theorem d42_147_1 : DK jdk_42_method_147_code 1 (.invokevirtual 335) 3 := by decide +kernel
theorem d42_147_4 : DK jdk_42_method_147_code 4 (.iload_n 3) 1 := by decide +kernel
theorem d42_147_5 : DK jdk_42_method_147_code 5 (.if_icmp .ne 23) 3 := by decide +kernel
theorem d42_147_8 : DK jdk_42_method_147_code 8 (.aload_n 0) 1 := by decide +kernel
theorem d42_147_9 : DK jdk_42_method_147_code 9 (.getfield 9) 3 := by decide +kernel
theorem d42_147_12 : DK jdk_42_method_147_code 12 (.iconst 0) 1 := by decide +kernel
theorem d42_147_13 : DK jdk_42_method_147_code 13 (.aload_n 1) 1 := by decide +kernel
theorem d42_147_14 : DK jdk_42_method_147_code 14 (.iload_n 2) 1 := by decide +kernel
theorem d42_147_15 : DK jdk_42_method_147_code 15 (.iload_n 3) 1 := by decide +kernel
theorem d42_147_16 : DK jdk_42_method_147_code 16 .ishl 1 := by decide +kernel
theorem d42_147_17 : DK jdk_42_method_147_code 17 (.aload_n 0) 1 := by decide +kernel
theorem d42_147_18 : DK jdk_42_method_147_code 18 (.getfield 9) 3 := by decide +kernel
theorem d42_147_21 : DK jdk_42_method_147_code 21 .arraylength 1 := by decide +kernel
theorem d42_147_22 : DK jdk_42_method_147_code 22 (.invokestatic 212) 3 := by decide +kernel
theorem d42_147_25 : DK jdk_42_method_147_code 25 (.goto 18) 3 := by decide +kernel
theorem d42_147_43 : DK jdk_42_method_147_code 43 .return_ 1 := by decide +kernel
theorem opl_rm_getB : plainFor (⟨"java/lang/String", "getBytes", "([BIB)V"⟩ : MethodName) = true := plainFor_of_name (by first | (simp [plainName, overriddenIn]; done) | decide +kernel)
theorem rm_getB (l : Launch) (Z : State) (a0 : Array Value) (hw : ∀ d ∈ tables_1, d.before a0 Z = true) (ws : List Jvm.Cond) (d : Addr) (k : ClassId) (z : Int32) (bs : List Value) (a e2 : Addr) (k2 : ClassId) (us : List Value) (zc : Int32) (wf : Value) (n0 : Nat) (h0 : Heap) (SS : own_SS Z zc wf) (O : Old Z n0 h0) (V : Arv Z h0 d k .byte z bs (.int (0 : Int32))) (I : STI Z h0 a e2 k2 us) (g_d : n0 ≤ d) (hs2 : bs.length + us.length ≤ z.toNatClampNeg) (hb1 : us.length < 2147483648) (hb2 : bs.length < 2147483648) :
    Con l Z (⟨"java/lang/String", "getBytes", "([BIB)V"⟩ : MethodName) jdk_42_method_147_code 4 none ws ({ frames := 1, cells := 0, slots := 0, locals := 29 } : Room) #[(.ref a), (.ref d), (.int (Int32.ofNat bs.length)), (.int (0 : Int32))] h0 (fun v h L => v = none ∧ Fr n0 L ∧ Keep h0 h [d] ∧ Arv Z h d k .byte z (bs ++ us) (.int (0 : Int32))) := by
  refine Con.intro opl_rm_getB ?_
  intro p e s m below meth c s₁ hx hby hml hown hret hlk hZ hnm X0 e0
  have SS' := SS
  obtain ⟨hzc, SC, hwf, SF⟩ := SS
  have Z0 : n0 ≤ h0.size := O.1 ▸ O.2.1
  have N0 := Fr.nil n0
  obtain ⟨IE, IC, IF, IV⟩ := I
  refine OGo.cast (g' := (mkF m 0 #[.val (.ref a), .val (.ref d), .val (.int (Int32.ofNat bs.length)), .val (.int (0 : Int32))] [])) (by first | (simp [entryFrame, mkF, argsToLocals, Value.category]; done) | rfl) ?_
  refine og (fun _ k => XS.aloadN X0.here hx rfl (hb hby d42_147_0) rfl rfl k) ?_
  obtain ⟨v35, T35, L35, X35, hQ35, st35⟩ := vcall X0 hx hZ hown (own_g hw 107 rfl) (own_g hw 108 rfl) (own_g hw 110 rfl) rfl (own_g hw 110 rfl) (own_g hw 109 rfl) (own_g hw 2 rfl) (own_g hw 111 rfl) (by decide) (W := 0) (rm_coder l Z a0 hw [] a zc wf n0 h0 SS' O IC) e0 (by decide) (by decide) (by decide) (by decide) (g := (mkF m 1 #[.val (.ref a), .val (.ref d), .val (.int (Int32.ofNat bs.length)), .val (.int (0 : Int32))] [(.ref a)])) rfl (by rw [hml]; rfl) IE (argsL := []) (rest := []) opd_0 rfl rfl rfl (by show 2 * 0 + _ ≤ _; exact Nat.le_of_eq rfl) (hb hby d42_147_1)
  obtain ⟨rfl, rfl, e35⟩ := hQ35
  rw [List.append_nil] at X35
  refine og st35 ?_
  refine og (fun _ k => XS.iloadN X35.here hx rfl (hb hby d42_147_4) rfl k) ?_
  refine og (fun _ k => XS.icmpNo X35.here hx rfl (hb hby d42_147_5) rfl (teq (rfl : (0 : Int32) = 0)).2 k) ?_
  refine og (fun _ k => XS.aloadN X35.here hx rfl (hb hby d42_147_8) rfl rfl k) ?_
  obtain ⟨T36, X36, e36, st36⟩ := getF X35 hx hZ hown (host := "") (Or.inl (own_g hw 28 rfl)) Via.refl e35 IF (g := (mkF m 9 #[.val (.ref a), .val (.ref d), .val (.int (Int32.ofNat bs.length)), .val (.int (0 : Int32))] [(.ref a)])) rfl rfl (hb hby d42_147_9)
  refine og st36 ?_
  refine og (fun _ k => XS.iconst X36.here hx rfl (hb hby d42_147_12) k) ?_
  refine og (fun _ k => XS.aloadN X36.here hx rfl (hb hby d42_147_13) rfl rfl k) ?_
  refine og (fun _ k => XS.iloadN X36.here hx rfl (hb hby d42_147_14) rfl k) ?_
  refine og (fun _ k => XS.iloadN X36.here hx rfl (hb hby d42_147_15) rfl k) ?_
  refine og (fun _ k => XS.ishl X36.here hx rfl (hb hby d42_147_16) rfl k) ?_
  show OGo p e below _ T36 (mkF m 17 #[.val (.ref a), .val (.ref d), .val (.int (Int32.ofNat bs.length)), .val (.int (0 : Int32))] [(.int ((Int32.ofNat bs.length) <<< ((0 : Int32) &&& 31))), (.ref d), (.int (0 : Int32)), (.ref e2)])
  rw [own_shl0]
  refine og (fun _ k => XS.aloadN X36.here hx rfl (hb hby d42_147_17) rfl rfl k) ?_
  obtain ⟨T37, X37, e37, st37⟩ := getF X36 hx hZ hown (host := "") (Or.inl (own_g hw 28 rfl)) Via.refl e36 IF (g := (mkF m 18 #[.val (.ref a), .val (.ref d), .val (.int (Int32.ofNat bs.length)), .val (.int (0 : Int32))] [(.ref a), (.int (Int32.ofNat bs.length)), (.ref d), (.int (0 : Int32)), (.ref e2)])) rfl rfl (hb hby d42_147_18)
  refine og st37 ?_
  refine og (fun _ k => alenV X37 hx hZ e37 IV (g := (mkF m 21 #[.val (.ref a), .val (.ref d), .val (.int (Int32.ofNat bs.length)), .val (.int (0 : Int32))] [(.ref e2), (.int (Int32.ofNat bs.length)), (.ref d), (.int (0 : Int32)), (.ref e2)])) rfl rfl (hb hby d42_147_21) _ k) ?_
  obtain ⟨T38, h38, L38, X38, e38, N38, K38, V38, st38⟩ := own_cp X37 hx hZ hown (own_g hw 135 rfl) (own_g hw 138 rfl) (own_g hw 136 rfl) (own_g hw 137 rfl) e37 IV V (by rw [own_cl hb1]; exact Nat.le_refl _) hs2 hb1 hb2 N0 g_d (g := (mkF m 22 #[.val (.ref a), .val (.ref d), .val (.int (Int32.ofNat bs.length)), .val (.int (0 : Int32))] [(.int (Int32.ofNat us.length)), (.int (Int32.ofNat bs.length)), (.ref d), (.int (0 : Int32)), (.ref e2)])) rfl (by rw [hml]; rfl) (rest := []) rfl (hb hby d42_147_22) (by decide) (W := 0) (by show 2 * 0 + _ ≤ _; exact Nat.le_of_eq rfl) (by decide)
  have KK38 : Keep h0 h38 [d] := (Keep.refl h0 [d]).trans K38 (allS (Or.inl (List.mem_of_getElem? (i := 0) rfl)) all0)
  refine og st38 ?_
  refine og (fun _ k => XS.goto X38.here hx rfl (pc0 := 25) (pc' := 43) rfl (hb hby d42_147_25) (by decide) (by decide) k) ?_
  show OGo p e below _ T38 (mkF m 43 #[.val (.ref a), .val (.ref d), .val (.int (Int32.ofNat bs.length)), .val (.int (0 : Int32))] [])
  exact OGo.retV X38 hx hret hlk (hb hby d42_147_43) (by decide) (by decide) (by rw [e38]; exact ⟨rfl, N38, KK38, V38⟩)
theorem d68_73_0 : DK jdk_68_method_73_code 0 (.aload_n 0) 1 := by decide +kernel
theorem d68_73_1 : DK jdk_68_method_73_code 1 (.aload_n 2) 1 := by decide +kernel
theorem opd_9 : parseMethodDescriptor "(Ljava/lang/String;)V" = some ⟨[(.object "java/lang/String")], none⟩ := by decide +kernel
theorem d68_73_2 : DK jdk_68_method_73_code 2 (.invokevirtual 397) 3 := by decide +kernel
theorem d68_73_5 : DK jdk_68_method_73_code 5 (.aload_n 2) 1 := by decide +kernel
theorem d68_73_6 : DK jdk_68_method_73_code 6 (.aload_n 0) 1 := by decide +kernel
theorem d68_73_7 : DK jdk_68_method_73_code 7 (.getfield 15) 3 := by decide +kernel
theorem d68_73_10 : DK jdk_68_method_73_code 10 (.iload_n 1) 1 := by decide +kernel
theorem d68_73_11 : DK jdk_68_method_73_code 11 (.aload_n 0) 1 := by decide +kernel
theorem d68_73_12 : DK jdk_68_method_73_code 12 (.getfield 22) 3 := by decide +kernel
theorem opd_10 : parseMethodDescriptor "([BIB)V" = some ⟨[(.array .byte), .int, .byte], none⟩ := by decide +kernel
theorem d68_73_15 : DK jdk_68_method_73_code 15 (.invokevirtual 399) 3 := by decide +kernel
theorem d68_73_18 : DK jdk_68_method_73_code 18 .return_ 1 := by decide +kernel
theorem opl_rm_put : plainFor (⟨"java/lang/AbstractStringBuilder", "putStringAt", "(ILjava/lang/String;)V"⟩ : MethodName) = true := plainFor_of_name (by first | (simp [plainName, overriddenIn]; done) | decide +kernel)
theorem rm_put (l : Launch) (Z : State) (a0 : Array Value) (hw : ∀ d ∈ tables_1, d.before a0 Z = true) (ws : List Jvm.Cond) (b d : Addr) (k : ClassId) (z : Int32) (bs : List Value) (a e2 : Addr) (k2 : ClassId) (us : List Value) (zc : Int32) (wf : Value) (n0 : Nat) (h0 : Heap) (SS : own_SS Z zc wf) (O : Old Z n0 h0) (J : SBI Z h0 b d k z bs) (I : STI Z h0 a e2 k2 us) (g_b : n0 ≤ b) (g_d : n0 ≤ d) (hs2 : bs.length + us.length ≤ z.toNatClampNeg) (hb1 : us.length < 2147483648) (hb2 : bs.length < 2147483648) (nde : e2 ≠ d) (nab : a ≠ b) :
    Con l Z (⟨"java/lang/AbstractStringBuilder", "putStringAt", "(ILjava/lang/String;)V"⟩ : MethodName) jdk_68_method_73_code 3 none ws ({ frames := 2, cells := 0, slots := 0, locals := 44 } : Room) #[(.ref b), (.int (Int32.ofNat bs.length)), (.ref a)] h0 (fun v h L => v = none ∧ Fr n0 L ∧ Keep h0 h [d] ∧ Arv Z h d k .byte z (bs ++ us) (.int (0 : Int32))) := by
  refine Con.intro opl_rm_put ?_
  intro p e s m below meth c s₁ hx hby hml hown hret hlk hZ hnm X0 e0
  have SS' := SS
  obtain ⟨hzc, SC, hwf, SF⟩ := SS
  have Z0 : n0 ≤ h0.size := O.1 ▸ O.2.1
  have N0 := Fr.nil n0
  obtain ⟨JE, JF, JC, JN, JV, JX⟩ := J
  obtain ⟨IE, IC, IF, IV⟩ := I
  refine OGo.cast (g' := (mkF m 0 #[.val (.ref b), .val (.int (Int32.ofNat bs.length)), .val (.ref a)] [])) (by first | (simp [entryFrame, mkF, argsToLocals, Value.category]; done) | rfl) ?_
  refine og (fun _ k => XS.aloadN X0.here hx rfl (hb hby d68_73_0) rfl rfl k) ?_
  refine og (fun _ k => XS.aloadN X0.here hx rfl (hb hby d68_73_1) rfl rfl k) ?_
  obtain ⟨v39, T39, L39, X39, hQ39, st39⟩ := pcall X0 hx hZ hown (own_g hw 124 rfl) (own_g hw 125 rfl) (own_g hw 127 rfl) (own_g hw 126 rfl) (own_g hw 83 rfl) (own_g hw 128 rfl) (by decide) (W := 0) (rm_infl l Z a0 hw [] b d k z bs a e2 k2 us zc wf n0 h0 SS' O ⟨JE, JF, JC, JN, JV, JX⟩ ⟨IE, IC, IF, IV⟩) e0 (by decide) (by decide) (by decide) (by decide) (g := (mkF m 2 #[.val (.ref b), .val (.int (Int32.ofNat bs.length)), .val (.ref a)] [(.ref a), (.ref b)])) rfl (by rw [hml]; rfl) JE (argsL := [(.ref a)]) (rest := []) opd_9 rfl rfl rfl (by show 2 * 0 + _ ≤ _; exact Nat.le_of_eq rfl) (hb hby d68_73_2)
  obtain ⟨rfl, rfl, e39⟩ := hQ39
  rw [List.append_nil] at X39
  refine og st39 ?_
  refine og (fun _ k => XS.aloadN X39.here hx rfl (hb hby d68_73_5) rfl rfl k) ?_
  refine og (fun _ k => XS.aloadN X39.here hx rfl (hb hby d68_73_6) rfl rfl k) ?_
  obtain ⟨T40, X40, e40, st40⟩ := getF X39 hx hZ hown (host := "") (Or.inl (own_g hw 87 rfl)) Via.refl e39 JF (g := (mkF m 7 #[.val (.ref b), .val (.int (Int32.ofNat bs.length)), .val (.ref a)] [(.ref b), (.ref a)])) rfl rfl (hb hby d68_73_7)
  refine og st40 ?_
  refine og (fun _ k => XS.iloadN X40.here hx rfl (hb hby d68_73_10) rfl k) ?_
  refine og (fun _ k => XS.aloadN X40.here hx rfl (hb hby d68_73_11) rfl rfl k) ?_
  obtain ⟨T41, X41, e41, st41⟩ := getF X40 hx hZ hown (host := "") (Or.inl (own_g hw 89 rfl)) Via.refl e40 JC (g := (mkF m 12 #[.val (.ref b), .val (.int (Int32.ofNat bs.length)), .val (.ref a)] [(.ref b), (.int (Int32.ofNat bs.length)), (.ref d), (.ref a)])) rfl rfl (hb hby d68_73_12)
  refine og st41 ?_
  obtain ⟨v42, T42, L42, X42, hQ42, st42⟩ := vcall X41 hx hZ hown (own_g hw 130 rfl) (own_g hw 131 rfl) (own_g hw 133 rfl) rfl (own_g hw 133 rfl) (own_g hw 132 rfl) (own_g hw 2 rfl) (own_g hw 134 rfl) (by decide) (W := 0) (rm_getB l Z a0 hw [] d k z bs a e2 k2 us zc wf n0 h0 SS' O JV ⟨IE, IC, IF, IV⟩ g_d hs2 hb1 hb2) e41 (by decide) (by decide) (by decide) (by decide) (g := (mkF m 15 #[.val (.ref b), .val (.int (Int32.ofNat bs.length)), .val (.ref a)] [(.int (0 : Int32)), (.int (Int32.ofNat bs.length)), (.ref d), (.ref a)])) rfl (by rw [hml]; rfl) IE (argsL := [(.ref d), (.int (Int32.ofNat bs.length)), (.int (0 : Int32))]) (rest := []) opd_10 rfl rfl rfl (by show 2 * 0 + _ ≤ _; exact Nat.le_of_eq rfl) (hb hby d68_73_15)
  obtain ⟨rfl, N42, K42, V42⟩ := hQ42
  have NN42 := Fr.app N0 N42
  have KK42 : Keep h0 T42.heap [d] := (Keep.refl h0 [d]).trans K42 (allS (Or.inl (List.mem_of_getElem? (i := 0) rfl)) all0)
  refine og st42 ?_
  show OGo p e below _ T42 (mkF m 18 #[.val (.ref b), .val (.int (Int32.ofNat bs.length)), .val (.ref a)] [])
  exact OGo.retV X42 hx hret hlk (hb hby d68_73_18) (by decide) (by decide) ⟨rfl, NN42, KK42, V42⟩
theorem d68_22_0 : DK jdk_68_method_22_code 0 (.aload_n 1) 1 := by decide +kernel
theorem d68_22_1 : DK jdk_68_method_22_code 1 (.ifnonnull 8) 3 := by decide +kernel
theorem d68_22_9 : DK jdk_68_method_22_code 9 (.aload_n 1) 1 := by decide +kernel
theorem opd_11 : parseMethodDescriptor "()I" = some ⟨[], some .int⟩ := by decide +kernel
theorem d68_22_10 : DK jdk_68_method_22_code 10 (.invokevirtual 32) 3 := by decide +kernel
theorem d68_22_13 : DK jdk_68_method_22_code 13 (.istore_n 2) 1 := by decide +kernel
theorem d68_22_14 : DK jdk_68_method_22_code 14 (.aload_n 0) 1 := by decide +kernel
theorem d68_22_15 : DK jdk_68_method_22_code 15 (.aload_n 0) 1 := by decide +kernel
theorem d68_22_16 : DK jdk_68_method_22_code 16 (.getfield 79) 3 := by decide +kernel
theorem d68_22_19 : DK jdk_68_method_22_code 19 (.iload_n 2) 1 := by decide +kernel
theorem d68_22_20 : DK jdk_68_method_22_code 20 .iadd 1 := by decide +kernel
theorem opd_12 : parseMethodDescriptor "(I)V" = some ⟨[.int], none⟩ := by decide +kernel
theorem d68_22_21 : DK jdk_68_method_22_code 21 (.invokevirtual 100) 3 := by decide +kernel
theorem d68_22_24 : DK jdk_68_method_22_code 24 (.aload_n 0) 1 := by decide +kernel
theorem d68_22_25 : DK jdk_68_method_22_code 25 (.aload_n 0) 1 := by decide +kernel
theorem d68_22_26 : DK jdk_68_method_22_code 26 (.getfield 79) 3 := by decide +kernel
theorem d68_22_29 : DK jdk_68_method_22_code 29 (.aload_n 1) 1 := by decide +kernel
theorem opd_13 : parseMethodDescriptor "(ILjava/lang/String;)V" = some ⟨[.int, (.object "java/lang/String")], none⟩ := by decide +kernel
theorem d68_22_30 : DK jdk_68_method_22_code 30 (.invokevirtual 208) 3 := by decide +kernel
theorem d68_22_33 : DK jdk_68_method_22_code 33 (.aload_n 0) 1 := by decide +kernel
theorem d68_22_34 : DK jdk_68_method_22_code 34 .dup 1 := by decide +kernel
theorem d68_22_35 : DK jdk_68_method_22_code 35 (.getfield 79) 3 := by decide +kernel
theorem d68_22_38 : DK jdk_68_method_22_code 38 (.iload_n 2) 1 := by decide +kernel
theorem d68_22_39 : DK jdk_68_method_22_code 39 .iadd 1 := by decide +kernel
theorem d68_22_40 : DK jdk_68_method_22_code 40 (.putfield 79) 3 := by decide +kernel
theorem d68_22_43 : DK jdk_68_method_22_code 43 (.aload_n 0) 1 := by decide +kernel
theorem d68_22_44 : DK jdk_68_method_22_code 44 .areturn 1 := by decide +kernel
theorem opl_rm_asbAppG : plainFor (⟨"java/lang/AbstractStringBuilder", "append", "(Ljava/lang/String;)Ljava/lang/AbstractStringBuilder;"⟩ : MethodName) = true := plainFor_of_name (by first | (simp [plainName, overriddenIn]; done) | decide +kernel)
theorem rm_asbAppG (l : Launch) (Z : State) (a0 : Array Value) (hw : ∀ d ∈ tables_1, d.before a0 Z = true) (ws : List Jvm.Cond) (b d : Addr) (k : ClassId) (zn : Nat) (bs : List Value) (a e2 : Addr) (k2 : ClassId) (us : List Value) (zc : Int32) (wf : Value) (n0 : Nat) (h0 : Heap) (SS : own_SS Z zc wf) (O : Old Z n0 h0) (J : SBI Z h0 b d k (Int32.ofNat zn) bs) (hzn : zn ≤ 70) (hbz : bs.length ≤ zn) (I : STI Z h0 a e2 k2 us) (g_b : n0 ≤ b) (g_d : n0 ≤ d) (hsm : bs.length + us.length ≤ 70) (nde : e2 ≠ d) (nab : a ≠ b) :
    Con l Z (⟨"java/lang/AbstractStringBuilder", "append", "(Ljava/lang/String;)Ljava/lang/AbstractStringBuilder;"⟩ : MethodName) jdk_68_method_22_code 3 (some (.object "java/lang/AbstractStringBuilder")) ws ({ frames := 4, cells := 1, slots := 142, locals := 62 } : Room) #[(.ref b), (.ref a)] h0 (fun v h L => v = some (.ref b) ∧ Fr n0 L ∧ Keep h0 h [b, d] ∧ ∃ d' k', (d' = d ∨ h0.size ≤ d') ∧ SBI Z h b d' k' (Int32.ofNat (own_cap zn (bs.length + us.length))) (bs ++ us)) := by
  refine Con.intro opl_rm_asbAppG ?_
  intro p e s m below meth c s₁ hx hby hml hown hret hlk hZ hnm X0 e0
  have SS' := SS
  obtain ⟨hzc, SC, hwf, SF⟩ := SS
  have Z0 : n0 ≤ h0.size := O.1 ▸ O.2.1
  have N0 := Fr.nil n0
  obtain ⟨JE, JF, JC, JN, JV, JX⟩ := J
  obtain ⟨IE, IC, IF, IV⟩ := I
  have nbd : b ≠ d := JE.neArv JV (own_g hw 74 rfl)
  have neb : e2 ≠ b := Ne.symm (JE.neArv IV (own_g hw 74 rfl))
  refine OGo.cast (g' := (mkF m 0 #[.val (.ref b), .val (.ref a), .unset] [])) (by first | (simp [entryFrame, mkF, argsToLocals, Value.category]; done) | rfl) ?_
  refine og (fun _ k => XS.aloadN X0.here hx rfl (hb hby d68_22_0) rfl rfl k) ?_
  refine og (fun _ k => XS.ifnonnullYes X0.here hx rfl (pc0 := 1) (pc' := 9) rfl (hb hby d68_22_1) rfl (by decide) (by decide) k) ?_
  refine og (fun _ k => XS.aloadN X0.here hx rfl (hb hby d68_22_9) rfl rfl k) ?_
  obtain ⟨v43, T43, L43, X43, hQ43, st43⟩ := vcall X0 hx hZ hown (own_g hw 102 rfl) (own_g hw 103 rfl) (own_g hw 105 rfl) rfl (own_g hw 105 rfl) (own_g hw 104 rfl) (own_g hw 2 rfl) (own_g hw 106 rfl) (by decide) (W := 0) (rm_length l Z a0 hw [] a e2 k2 us zc wf n0 h0 SS' O ⟨IE, IC, IF, IV⟩) e0 (by decide) (by decide) (by decide) (by decide) (g := (mkF m 10 #[.val (.ref b), .val (.ref a), .unset] [(.ref a)])) rfl (by rw [hml]; rfl) IE (argsL := []) (rest := []) opd_11 rfl rfl rfl (by show 2 * 0 + _ ≤ _; exact Nat.le_of_eq rfl) (hb hby d68_22_10)
  obtain ⟨rfl, rfl, e43⟩ := hQ43
  rw [List.append_nil] at X43
  refine og st43 ?_
  refine og (fun _ k => XS.istoreN X43.here hx rfl (hb hby d68_22_13) rfl (l' := #[.val (.ref b), .val (.ref a), .val (.int (Int32.ofNat us.length))]) rfl k) ?_
  refine og (fun _ k => XS.aloadN X43.here hx rfl (hb hby d68_22_14) rfl rfl k) ?_
  refine og (fun _ k => XS.aloadN X43.here hx rfl (hb hby d68_22_15) rfl rfl k) ?_
  obtain ⟨T44, X44, e44, st44⟩ := getF X43 hx hZ hown (host := "") (Or.inl (own_g hw 112 rfl)) Via.refl e43 JN (g := (mkF m 16 #[.val (.ref b), .val (.ref a), .val (.int (Int32.ofNat us.length))] [(.ref b), (.ref b)])) rfl rfl (hb hby d68_22_16)
  refine og st44 ?_
  refine og (fun _ k => XS.iloadN X44.here hx rfl (hb hby d68_22_19) rfl k) ?_
  refine og (fun _ k => XS.iadd X44.here hx rfl (hb hby d68_22_20) rfl k) ?_
  show OGo p e below _ T44 (mkF m 21 #[.val (.ref b), .val (.ref a), .val (.int (Int32.ofNat us.length))] [(.int ((Int32.ofNat bs.length) + (Int32.ofNat us.length))), (.ref b)])
  rw [own_addn]
  obtain ⟨v45, T45, L45, X45, hQ45, st45⟩ := pcall X44 hx hZ hown (own_g hw 114 rfl) (own_g hw 115 rfl) (own_g hw 117 rfl) (own_g hw 116 rfl) (own_g hw 83 rfl) (own_g hw 118 rfl) (by decide) (W := 0) (rm_ensG l Z a0 hw [] b d k zn bs (bs.length + us.length) zc wf n0 h0 SS' O ⟨JE, JF, JC, JN, JV, JX⟩ hzn hbz hsm g_b) e44 (by decide) (by decide) (by decide) (by decide) (g := (mkF m 21 #[.val (.ref b), .val (.ref a), .val (.int (Int32.ofNat us.length))] [(.int (Int32.ofNat (bs.length + us.length))), (.ref b)])) rfl (by rw [hml]; rfl) JE (argsL := [(.int (Int32.ofNat (bs.length + us.length)))]) (rest := []) opd_12 rfl rfl rfl (by show 2 * 0 + _ ≤ _; exact Nat.le_of_eq rfl) (hb hby d68_22_21)
  obtain ⟨rfl, N45, K45, d45, k45, hd45, J45⟩ := hQ45
  have NN45 := Fr.app N0 N45
  have KK45 : Keep h0 T45.heap [b, d] := (Keep.refl h0 [b, d]).trans K45 (allS (Or.inl (List.mem_of_getElem? (i := 0) rfl)) all0)
  refine og st45 ?_
  have g_d45 : n0 ≤ d45 := hd45.elim (fun q => q ▸ g_d) (fun q => Nat.le_trans (Nat.le_trans Z0 (Keep.refl h0 [b, d]).1) q)
  have sz_d45 : d45 ∈ [b, d] ∨ h0.size ≤ d45 := hd45.elim (fun q => Or.inl (q ▸ List.mem_of_getElem? (i := 1) rfl)) Or.inr
  obtain ⟨JE45, JF45, JC45, JN45, JV45, JX45⟩ := J45
  have nb2 : b ≠ d45 := JE45.neArv JV45 (own_g hw 74 rfl)
  have hcb : own_cap zn (bs.length + us.length) ≤ 142 := by unfold own_cap; split <;> omega
  have hcg := own_cap_ge zn (bs.length + us.length)
  refine og (fun _ k => XS.aloadN X45.here hx rfl (hb hby d68_22_24) rfl rfl k) ?_
  refine og (fun _ k => XS.aloadN X45.here hx rfl (hb hby d68_22_25) rfl rfl k) ?_
  obtain ⟨T46, X46, e46, st46⟩ := getF X45 hx hZ hown (host := "") (Or.inl (own_g hw 112 rfl)) Via.refl rfl JN45 (g := (mkF m 26 #[.val (.ref b), .val (.ref a), .val (.int (Int32.ofNat us.length))] [(.ref b), (.ref b)])) rfl rfl (hb hby d68_22_26)
  refine og st46 ?_
  refine og (fun _ k => XS.aloadN X46.here hx rfl (hb hby d68_22_29) rfl rfl k) ?_
  obtain ⟨v47, T47, L47, X47, hQ47, st47⟩ := pcall X46 hx hZ hown (own_g hw 119 rfl) (own_g hw 120 rfl) (own_g hw 122 rfl) (own_g hw 121 rfl) (own_g hw 83 rfl) (own_g hw 123 rfl) (by decide) (W := 0) (rm_put l Z a0 hw [] b d45 k45 (Int32.ofNat (own_cap zn (bs.length + us.length))) bs a e2 k2 us zc wf n0 T45.heap SS' (O.keep K45 (allS g_b all0)) ⟨JE45, JF45, JC45, JN45, JV45, JX45⟩ ⟨(IE.keep K45), (IC.keep K45 (ninS nab nin0)), (IF.keep K45 (ninS nab nin0)), (IV.keep K45 (ninS neb nin0))⟩ g_b g_d45 (by rw [own_cl (by omega)]; exact hcg) (by omega) (by omega) (own_nen IV.lt nde hd45) nab) e46 (by decide) (by decide) (by decide) (by decide) (g := (mkF m 30 #[.val (.ref b), .val (.ref a), .val (.int (Int32.ofNat us.length))] [(.ref a), (.int (Int32.ofNat bs.length)), (.ref b)])) rfl (by rw [hml]; rfl) JE45 (argsL := [(.int (Int32.ofNat bs.length)), (.ref a)]) (rest := []) opd_13 rfl rfl rfl (by show 2 * 0 + _ ≤ _; exact Nat.le_of_eq rfl) (hb hby d68_22_30)
  obtain ⟨rfl, N47, K47, V47⟩ := hQ47
  have NN47 := Fr.app NN45 N47
  have KK47 : Keep h0 T47.heap [b, d] := KK45.trans K47 (allS sz_d45 all0)
  refine og st47 ?_
  refine og (fun _ k => XS.aloadN X47.here hx rfl (hb hby d68_22_33) rfl rfl k) ?_
  refine og (fun _ k => XS.dup X47.here hx rfl (hb hby d68_22_34) rfl rfl k) ?_
  obtain ⟨T48, X48, e48, st48⟩ := getF X47 hx hZ hown (host := "") (Or.inl (own_g hw 112 rfl)) Via.refl rfl (JN45.keep K47 (ninS nb2 nin0)) (g := (mkF m 35 #[.val (.ref b), .val (.ref a), .val (.int (Int32.ofNat us.length))] [(.ref b), (.ref b)])) rfl rfl (hb hby d68_22_35)
  refine og st48 ?_
  refine og (fun _ k => XS.iloadN X48.here hx rfl (hb hby d68_22_38) rfl k) ?_
  refine og (fun _ k => XS.iadd X48.here hx rfl (hb hby d68_22_39) rfl k) ?_
  show OGo p e below _ T48 (mkF m 40 #[.val (.ref b), .val (.ref a), .val (.int (Int32.ofNat us.length))] [(.int ((Int32.ofNat bs.length) + (Int32.ofNat us.length))), (.ref b)])
  rw [own_addln]
  obtain ⟨T49, h49, X49, e49, W49, st49⟩ := putF X48 hx hZ hown (host := "") (Or.inl (own_g hw 112 rfl)) Via.refl e48 (JN45.keep K47 (ninS nb2 nin0)) (JE45.keep K47) (Or.inl (own_g hw 113 rfl)) (own_g hw 74 rfl) (ty := .int) (by decide) rfl rfl (g := (mkF m 40 #[.val (.ref b), .val (.ref a), .val (.int (Int32.ofNat us.length))] [(.int (Int32.ofNat (bs ++ us).length)), (.ref b)])) rfl rfl (hb hby d68_22_40)
  have Fw49 := (JN45.keep K47 (ninS nb2 nin0)).same W49
  have N49 := Fr.snoc X49 NN47 g_b
  have KK49 : Keep h0 h49 [b, d] := KK47.wr W49 (Or.inl (List.mem_of_getElem? (i := 0) rfl))
  refine og st49 ?_
  refine og (fun _ k => XS.aloadN X49.here hx rfl (hb hby d68_22_43) rfl rfl k) ?_
  have q50 := ((JF45.keep K47 (ninS nb2 nin0)).other W49 (Or.inr (slot_ne (Or.inl (own_g hw 88 rfl)) (Or.inl (own_g hw 113 rfl)) (by decide) (t := (.array .byte)) (t' := .int) (by decide) (by decide))))
  have q51 := ((JC45.keep K47 (ninS nb2 nin0)).other W49 (Or.inr (slot_ne (Or.inl (own_g hw 90 rfl)) (Or.inl (own_g hw 113 rfl)) (by decide) (t := .byte) (t' := .int) (by decide) (by decide))))
  show OGo p e below _ T49 (mkF m 44 #[.val (.ref b), .val (.ref a), .val (.int (Int32.ofNat us.length))] [(.ref b)])
  exact OGo.ret X49 hx (t := (.object "java/lang/AbstractStringBuilder")) hret hlk rfl (Or.inr (Or.inr (Or.inr (Or.inr ⟨rfl, rfl, rfl⟩)))) (hb hby d68_22_44) (by decide) (by decide) (by rw [e49]; exact ⟨rfl, N49, KK49, d45, _, hd45, ⟨((JE45.keep K47).wr W49), q50, q51, Fw49, (V47.other W49 (Ne.symm nb2)), ((JX45.keep K47).wr W49)⟩⟩)
theorem d67_7_0 : DK jdk_67_method_7_code 0 (.aload_n 0) 1 := by decide +kernel
theorem d67_7_1 : DK jdk_67_method_7_code 1 (.aload_n 1) 1 := by decide +kernel
theorem opd_14 : parseMethodDescriptor "(Ljava/lang/String;)Ljava/lang/AbstractStringBuilder;" = some ⟨[(.object "java/lang/String")], some (.object "java/lang/AbstractStringBuilder")⟩ := by decide +kernel
theorem d67_7_2 : DK jdk_67_method_7_code 2 (.invokespecial 29) 3 := by decide +kernel
theorem d67_7_5 : DK jdk_67_method_7_code 5 .pop 1 := by decide +kernel
theorem d67_7_6 : DK jdk_67_method_7_code 6 (.aload_n 0) 1 := by decide +kernel
theorem d67_7_7 : DK jdk_67_method_7_code 7 .areturn 1 := by decide +kernel
theorem opl_rm_sbAppG : plainFor (⟨"java/lang/StringBuilder", "append", "(Ljava/lang/String;)Ljava/lang/StringBuilder;"⟩ : MethodName) = true := plainFor_of_name (by first | (simp [plainName, overriddenIn]; done) | decide +kernel)
theorem rm_sbAppG (l : Launch) (Z : State) (a0 : Array Value) (hw : ∀ d ∈ tables_1, d.before a0 Z = true) (ws : List Jvm.Cond) (b d : Addr) (k : ClassId) (zn : Nat) (bs : List Value) (a e2 : Addr) (k2 : ClassId) (us : List Value) (zc : Int32) (wf : Value) (n0 : Nat) (h0 : Heap) (SS : own_SS Z zc wf) (O : Old Z n0 h0) (J : SBI Z h0 b d k (Int32.ofNat zn) bs) (hzn : zn ≤ 70) (hbz : bs.length ≤ zn) (I : STI Z h0 a e2 k2 us) (g_b : n0 ≤ b) (g_d : n0 ≤ d) (hsm : bs.length + us.length ≤ 70) (nde : e2 ≠ d) (nab : a ≠ b) :
    Con l Z (⟨"java/lang/StringBuilder", "append", "(Ljava/lang/String;)Ljava/lang/StringBuilder;"⟩ : MethodName) jdk_67_method_7_code 2 (some (.object "java/lang/StringBuilder")) ws ({ frames := 5, cells := 1, slots := 142, locals := 76 } : Room) #[(.ref b), (.ref a)] h0 (fun v h L => v = some (.ref b) ∧ Fr n0 L ∧ Keep h0 h [b, d] ∧ ∃ d' k', (d' = d ∨ h0.size ≤ d') ∧ SBI Z h b d' k' (Int32.ofNat (own_cap zn (bs.length + us.length))) (bs ++ us)) := by
  refine Con.intro opl_rm_sbAppG ?_
  intro p e s m below meth c s₁ hx hby hml hown hret hlk hZ hnm X0 e0
  have SS' := SS
  obtain ⟨hzc, SC, hwf, SF⟩ := SS
  have Z0 : n0 ≤ h0.size := O.1 ▸ O.2.1
  have N0 := Fr.nil n0
  obtain ⟨JE, JF, JC, JN, JV, JX⟩ := J
  obtain ⟨IE, IC, IF, IV⟩ := I
  have nbd : b ≠ d := JE.neArv JV (own_g hw 74 rfl)
  have neb : e2 ≠ b := Ne.symm (JE.neArv IV (own_g hw 74 rfl))
  refine OGo.cast (g' := (mkF m 0 #[.val (.ref b), .val (.ref a)] [])) (by first | (simp [entryFrame, mkF, argsToLocals, Value.category]; done) | rfl) ?_
  refine og (fun _ k => XS.aloadN X0.here hx rfl (hb hby d67_7_0) rfl rfl k) ?_
  refine og (fun _ k => XS.aloadN X0.here hx rfl (hb hby d67_7_1) rfl rfl k) ?_
  obtain ⟨v52, T52, L52, X52, hQ52, st52⟩ := ucall X0 hx hZ hown (own_g hw 97 rfl) (own_same (own_g hw 117 rfl) rfl (own_g hw 98 rfl) (by decide)) (own_g hw 98 rfl) (own_g hw 99 rfl) (own_g hw 83 rfl) (own_g hw 101 rfl) (by decide) (W := 0) (rm_asbAppG l Z a0 hw [] b d k zn bs a e2 k2 us zc wf n0 h0 SS' O ⟨JE, JF, JC, JN, JV, JX⟩ hzn hbz ⟨IE, IC, IF, IV⟩ g_b g_d hsm nde nab) e0 (by decide) (by decide) (by decide) (by decide) (g := (mkF m 2 #[.val (.ref b), .val (.ref a)] [(.ref a), (.ref b)])) rfl (by rw [hml]; rfl) JE (argsL := [(.ref a)]) (rest := []) opd_14 rfl rfl rfl (by show 2 * 0 + _ ≤ _; exact Nat.le_of_eq rfl) (hb hby d67_7_2)
  obtain ⟨rfl, N52, K52, d52, k52, hd52, J52⟩ := hQ52
  have NN52 := Fr.app N0 N52
  have KK52 : Keep h0 T52.heap [b, d] := (Keep.refl h0 [b, d]).trans K52 (allS (Or.inl (List.mem_of_getElem? (i := 0) rfl)) (allS (Or.inl (List.mem_of_getElem? (i := 1) rfl)) all0))
  refine og st52 ?_
  refine og (fun _ k => XS.pop X52.here hx rfl (hb hby d67_7_5) rfl rfl k) ?_
  refine og (fun _ k => XS.aloadN X52.here hx rfl (hb hby d67_7_6) rfl rfl k) ?_
  show OGo p e below _ T52 (mkF m 7 #[.val (.ref b), .val (.ref a)] [(.ref b)])
  exact OGo.ret X52 hx (t := (.object "java/lang/StringBuilder")) hret hlk rfl (Or.inr (Or.inr (Or.inr (Or.inr ⟨rfl, rfl, rfl⟩)))) (hb hby d67_7_7) (by decide) (by decide) ⟨rfl, NN52, KK52, d52, _, hd52, J52⟩
theorem d68_2_0 : DK jdk_68_method_2_code 0 (.aload_n 0) 1 := by decide +kernel
theorem d68_2_1 : DK jdk_68_method_2_code 1 (.invokespecial 3) 3 := by decide +kernel
theorem d68_2_4 : DK jdk_68_method_2_code 4 (.getstatic 18) 3 := by decide +kernel
theorem d68_2_7 : DK jdk_68_method_2_code 7 (.ifCond .eq 18) 3 := by decide +kernel
theorem d68_2_10 : DK jdk_68_method_2_code 10 (.aload_n 0) 1 := by decide +kernel
theorem d68_2_11 : DK jdk_68_method_2_code 11 (.iload_n 1) 1 := by decide +kernel
theorem d68_2_12 : DK jdk_68_method_2_code 12 (.newarray .byte) 2 := by decide +kernel
theorem d68_2_14 : DK jdk_68_method_2_code 14 (.putfield 15) 3 := by decide +kernel
theorem d68_2_17 : DK jdk_68_method_2_code 17 (.aload_n 0) 1 := by decide +kernel
theorem d68_2_18 : DK jdk_68_method_2_code 18 (.iconst 0) 1 := by decide +kernel
theorem d68_2_19 : DK jdk_68_method_2_code 19 (.putfield 22) 3 := by decide +kernel
theorem d68_2_22 : DK jdk_68_method_2_code 22 (.goto 16) 3 := by decide +kernel
theorem d68_2_38 : DK jdk_68_method_2_code 38 .return_ 1 := by decide +kernel
theorem opl_rm_asbInit : plainFor (⟨"java/lang/AbstractStringBuilder", "<init>", "(I)V"⟩ : MethodName) = true := plainFor_of_name (by first | (simp [plainName, overriddenIn]; done) | decide +kernel)
theorem rm_asbInit (l : Launch) (Z : State) (a0 : Array Value) (hw : ∀ d ∈ tables_1, d.before a0 Z = true) (ws : List Jvm.Cond) (b : Addr) (zc : Int32) (wf : Value) (n0 : Nat) (h0 : Heap) (SS : own_SS Z zc wf) (O : Old Z n0 h0) (E : Exa Z h0 b "java/lang/StringBuilder") (Fv : Fld Z h0 b "java/lang/AbstractStringBuilder" "value" "[B" .null) (Fc : Fld Z h0 b "java/lang/AbstractStringBuilder" "coder" "B" (.int (0 : Int32))) (Fn : Fld Z h0 b "java/lang/AbstractStringBuilder" "count" "I" (.int (0 : Int32))) (g_b : n0 ≤ b) :
    Con l Z (⟨"java/lang/AbstractStringBuilder", "<init>", "(I)V"⟩ : MethodName) jdk_68_method_2_code 2 none ws ({ frames := 1, cells := 1, slots := 16, locals := 12 } : Room) #[(.ref b), (.int (16 : Int32))] h0 (fun v h L => v = none ∧ Fr n0 L ∧ Keep h0 h [b] ∧ ∃ d k, h0.size ≤ d ∧ SBI Z h b d k (Int32.ofNat 16) []) := by
  refine Con.intro opl_rm_asbInit ?_
  intro p e s m below meth c s₁ hx hby hml hown hret hlk hZ hnm X0 e0
  obtain ⟨hzc, SC, hwf, SF⟩ := SS
  have Z0 : n0 ≤ h0.size := O.1 ▸ O.2.1
  have N0 := Fr.nil n0
  refine OGo.cast (g' := (mkF m 0 #[.val (.ref b), .val (.int (16 : Int32))] [])) (by first | (simp [entryFrame, mkF, argsToLocals, Value.category]; done) | rfl) ?_
  refine og (fun _ k => XS.aloadN X0.here hx rfl (hb hby d68_2_0) rfl rfl k) ?_
  obtain ⟨T53, X53, e53, st53⟩ := initO X0 hx hZ hown (own_g hw 85 rfl) (own_g hw 12 rfl) (own_g hw 13 rfl) e0 (g := (mkF m 1 #[.val (.ref b), .val (.int (16 : Int32))] [(.ref b)])) rfl (by rw [hml]; rfl) rfl (hb hby d68_2_1) (by decide) (W := 0) (by show 2 * 0 + _ ≤ _; exact Nat.le_of_eq rfl) (by decide)
  refine og st53 ?_
  obtain ⟨T54, X54, e54, st54⟩ := getS2 X53 hx hZ hown (host := "") (Or.inl (own_g hw 86 rfl)) Via.refl e53 (SC.ext O.2) (g := (mkF m 4 #[.val (.ref b), .val (.int (16 : Int32))] [])) rfl (hb hby d68_2_4)
  refine og st54 ?_
  refine og (fun _ k => XS.ifNo X54.here hx rfl (hb hby d68_2_7) rfl ((if0 _ _).trans (feq hzc).1) k) ?_
  refine og (fun _ k => XS.aloadN X54.here hx rfl (hb hby d68_2_10) rfl rfl k) ?_
  refine og (fun _ k => XS.iloadN X54.here hx rfl (hb hby d68_2_11) rfl k) ?_
  obtain ⟨T55, h55, k55, X55, e55, E55, A55, AE55, st55⟩ := newPE X54 hx hZ (own_g hw 19 rfl) e54 (g := (mkF m 12 #[.val (.ref b), .val (.int (16 : Int32))] [(.int (16 : Int32)), (.ref b)])) rfl (hb hby d68_2_12) rfl (by decide) (cap := 16) (by decide) (by decide) (by decide) (by decide) (ad := "[B") (by decide)
  obtain ⟨b55, g55⟩ : ∃ z, z = h0.size := ⟨_, rfl⟩
  rw [← g55] at A55 AE55 st55
  have sz_b55 : h0.size ≤ b55 := Nat.le_trans (Keep.refl h0 [b]).1 (Nat.le_of_eq g55.symm)
  have KK55 : Keep h0 h55 [b] := (Keep.refl h0 [b]).ext E55
  have V55 : Arv Z h55 b55 k55 .byte (16 : Int32) [] (.int (0 : Int32)) := Arv.new A55 (by decide)
  refine og st55 ?_
  obtain ⟨T56, h56, X56, e56, W56, st56⟩ := putF X55 hx hZ hown (host := "") (Or.inl (own_g hw 87 rfl)) Via.refl e55 (Fv.ext E55) (E.ext E55) (Or.inl (own_g hw 88 rfl)) (own_g hw 74 rfl) (ty := (.array .byte)) (by decide) rfl rfl (g := (mkF m 14 #[.val (.ref b), .val (.int (16 : Int32))] [(.ref b55), (.ref b)])) rfl rfl (hb hby d68_2_14)
  have Fw56 := (Fv.ext E55).same W56
  have N56 := Fr.snoc X56 N0 g_b
  have KK56 : Keep h0 h56 [b] := KK55.wr W56 (Or.inl (List.mem_of_getElem? (i := 0) rfl))
  refine og st56 ?_
  refine og (fun _ k => XS.aloadN X56.here hx rfl (hb hby d68_2_17) rfl rfl k) ?_
  refine og (fun _ k => XS.iconst X56.here hx rfl (hb hby d68_2_18) k) ?_
  have q58 := ((Fc.ext E55).other W56 (Or.inr (slot_ne (Or.inl (own_g hw 90 rfl)) (Or.inl (own_g hw 88 rfl)) (by decide) (t := .byte) (t' := (.array .byte)) (by decide) (by decide))))
  obtain ⟨T57, h57, X57, e57, W57, st57⟩ := putFN X56 hx hZ hown (own_g hw 89 rfl) Via.refl e56 q58 ((E.ext E55).wr W56) (Or.inl (own_g hw 90 rfl)) (own_g hw 74 rfl) (ty := .byte) (v' := (.int (0 : Int32))) (by decide) rfl rfl (g := (mkF m 19 #[.val (.ref b), .val (.int (16 : Int32))] [(.int (0 : Int32)), (.ref b)])) rfl rfl (hb hby d68_2_19)
  have Fw57 := q58.same W57
  have N57 := Fr.snoc X57 N56 g_b
  have KK57 : Keep h0 h57 [b] := KK56.wr W57 (Or.inl (List.mem_of_getElem? (i := 0) rfl))
  refine og st57 ?_
  refine og (fun _ k => XS.goto X57.here hx rfl (pc0 := 22) (pc' := 38) rfl (hb hby d68_2_22) (by decide) (by decide) k) ?_
  refine OGo.cast rfl ?_
  have q59 := (Fw56.other W57 (Or.inr (slot_ne (Or.inl (own_g hw 88 rfl)) (Or.inl (own_g hw 90 rfl)) (by decide) (t := (.array .byte)) (t' := .byte) (by decide) (by decide))))
  have q60 := (((Fn.ext E55).other W56 (Or.inr (slot_ne (Or.inl (own_g hw 113 rfl)) (Or.inl (own_g hw 88 rfl)) (by decide) (t := .int) (t' := (.array .byte)) (by decide) (by decide)))).other W57 (Or.inr (slot_ne (Or.inl (own_g hw 113 rfl)) (Or.inl (own_g hw 90 rfl)) (by decide) (t := .int) (t' := .byte) (by decide) (by decide))))
  have ne61 : b55 ≠ b := (Ne.symm (Nat.ne_of_lt (Nat.lt_of_lt_of_le E.lt sz_b55)))
  show OGo p e below _ T57 (mkF m 38 #[.val (.ref b), .val (.int (16 : Int32))] [])
  exact OGo.retV X57 hx hret hlk (hb hby d68_2_38) (by decide) (by decide) (by rw [e57]; exact ⟨rfl, N57, KK57, b55, _, sz_b55, ⟨(((E.ext E55).wr W56).wr W57), q59, Fw57, q60, ((V55.other W56 ne61).other W57 ne61), ((AE55.wr W56).wr W57)⟩⟩)
theorem d67_1_0 : DK jdk_67_method_1_code 0 (.aload_n 0) 1 := by decide +kernel
theorem d67_1_1 : DK jdk_67_method_1_code 1 (.bipush 16) 2 := by decide +kernel
theorem d67_1_3 : DK jdk_67_method_1_code 3 (.invokespecial 1) 3 := by decide +kernel
theorem d67_1_6 : DK jdk_67_method_1_code 6 .return_ 1 := by decide +kernel
theorem opl_rm_sbInit : plainFor (⟨"java/lang/StringBuilder", "<init>", "()V"⟩ : MethodName) = true := plainFor_of_name (by first | (simp [plainName, overriddenIn]; done) | decide +kernel)
theorem rm_sbInit (l : Launch) (Z : State) (a0 : Array Value) (hw : ∀ d ∈ tables_1, d.before a0 Z = true) (ws : List Jvm.Cond) (b : Addr) (zc : Int32) (wf : Value) (n0 : Nat) (h0 : Heap) (SS : own_SS Z zc wf) (O : Old Z n0 h0) (E : Exa Z h0 b "java/lang/StringBuilder") (Fv : Fld Z h0 b "java/lang/AbstractStringBuilder" "value" "[B" .null) (Fc : Fld Z h0 b "java/lang/AbstractStringBuilder" "coder" "B" (.int (0 : Int32))) (Fn : Fld Z h0 b "java/lang/AbstractStringBuilder" "count" "I" (.int (0 : Int32))) (g_b : n0 ≤ b) :
    Con l Z (⟨"java/lang/StringBuilder", "<init>", "()V"⟩ : MethodName) jdk_67_method_1_code 1 none ws ({ frames := 2, cells := 1, slots := 16, locals := 25 } : Room) #[(.ref b)] h0 (fun v h L => v = none ∧ Fr n0 L ∧ Keep h0 h [b] ∧ ∃ d k, h0.size ≤ d ∧ SBI Z h b d k (Int32.ofNat 16) []) := by
  refine Con.intro opl_rm_sbInit ?_
  intro p e s m below meth c s₁ hx hby hml hown hret hlk hZ hnm X0 e0
  have SS' := SS
  obtain ⟨hzc, SC, hwf, SF⟩ := SS
  have Z0 : n0 ≤ h0.size := O.1 ▸ O.2.1
  have N0 := Fr.nil n0
  refine OGo.cast (g' := (mkF m 0 #[.val (.ref b)] [])) (by first | (simp [entryFrame, mkF, argsToLocals, Value.category]; done) | rfl) ?_
  refine og (fun _ k => XS.aloadN X0.here hx rfl (hb hby d67_1_0) rfl rfl k) ?_
  refine og (fun _ k => XS.bipush X0.here hx rfl (hb hby d67_1_1) k) ?_
  obtain ⟨v62, T62, L62, X62, hQ62, st62⟩ := icall X0 hx hZ rfl hown (own_g hw 79 rfl) (own_g hw 80 rfl) (own_g hw 83 rfl) (own_g hw 84 rfl) (by decide) (W := 0) (rm_asbInit l Z a0 hw [] b zc wf n0 h0 SS' O E Fv Fc Fn g_b) e0 (by decide) (by decide) (by decide) (by decide) (g := (mkF m 3 #[.val (.ref b)] [(.int (16 : Int32)), (.ref b)])) rfl (by rw [hml]; rfl) (a := b) (argsL := [(.int (16 : Int32))]) (rest := []) opd_12 rfl rfl rfl (by show 2 * 0 + _ ≤ _; exact Nat.le_of_eq rfl) (hb hby d67_1_3)
  obtain ⟨rfl, N62, K62, d62, k62, sd62, I62⟩ := hQ62
  have NN62 := Fr.app N0 N62
  have KK62 : Keep h0 T62.heap [b] := (Keep.refl h0 [b]).trans K62 (allS (Or.inl (List.mem_of_getElem? (i := 0) rfl)) all0)
  refine og st62 ?_
  show OGo p e below _ T62 (mkF m 6 #[.val (.ref b)] [])
  exact OGo.retV X62 hx hret hlk (hb hby d67_1_6) (by decide) (by decide) ⟨rfl, NN62, KK62, d62, k62, sd62, I62⟩
theorem d68_64_0 : DK jdk_68_method_64_code 0 (.aload_n 0) 1 := by decide +kernel
theorem d68_64_1 : DK jdk_68_method_64_code 1 (.getfield 15) 3 := by decide +kernel
theorem d68_64_4 : DK jdk_68_method_64_code 4 .areturn 1 := by decide +kernel
theorem opl_rm_getV : plainFor (⟨"java/lang/AbstractStringBuilder", "getValue", "()[B"⟩ : MethodName) = true := plainFor_of_name (by first | (simp [plainName, overriddenIn]; done) | decide +kernel)
theorem rm_getV (l : Launch) (Z : State) (a0 : Array Value) (hw : ∀ d ∈ tables_1, d.before a0 Z = true) (ws : List Jvm.Cond) (b d : Addr) (k : ClassId) (zn : Nat) (bs : List Value) (zc : Int32) (wf : Value) (n0 : Nat) (h0 : Heap) (SS : own_SS Z zc wf) (O : Old Z n0 h0) (J : SBI Z h0 b d k (Int32.ofNat zn) bs) :
    Con l Z (⟨"java/lang/AbstractStringBuilder", "getValue", "()[B"⟩ : MethodName) jdk_68_method_64_code 1 (some (.array .byte)) ws ({ frames := 0, cells := 0, slots := 0, locals := 0 } : Room) #[(.ref b)] h0 (fun v h L => v = some (.ref d) ∧ L = [] ∧ h = h0) := by
  refine Con.intro opl_rm_getV ?_
  intro p e s m below meth c s₁ hx hby hml hown hret hlk hZ hnm X0 e0
  have SS' := SS
  obtain ⟨hzc, SC, hwf, SF⟩ := SS
  have Z0 : n0 ≤ h0.size := O.1 ▸ O.2.1
  have N0 := Fr.nil n0
  obtain ⟨JE, JF, JC, JN, JV, JX⟩ := J
  refine OGo.cast (g' := (mkF m 0 #[.val (.ref b)] [])) (by first | (simp [entryFrame, mkF, argsToLocals, Value.category]; done) | rfl) ?_
  refine og (fun _ k => XS.aloadN X0.here hx rfl (hb hby d68_64_0) rfl rfl k) ?_
  obtain ⟨T63, X63, e63, st63⟩ := getF X0 hx hZ hown (host := "") (Or.inl (own_g hw 87 rfl)) Via.refl e0 JF (g := (mkF m 1 #[.val (.ref b)] [(.ref b)])) rfl rfl (hb hby d68_64_1)
  refine og st63 ?_
  show OGo p e below _ T63 (mkF m 4 #[.val (.ref b)] [(.ref d)])
  exact OGo.ret X63 hx (t := (.array .byte)) hret hlk rfl (Or.inr (Or.inr (Or.inr (Or.inr ⟨rfl, rfl, rfl⟩)))) (hb hby d68_64_4) (by decide) (by decide) ⟨rfl, rfl, e63⟩
theorem d68_6_0 : DK jdk_68_method_6_code 0 (.aload_n 0) 1 := by decide +kernel
theorem d68_6_1 : DK jdk_68_method_6_code 1 (.getfield 79) 3 := by decide +kernel
theorem d68_6_4 : DK jdk_68_method_6_code 4 .ireturn 1 := by decide +kernel
theorem opl_rm_asbLen : plainFor (⟨"java/lang/AbstractStringBuilder", "length", "()I"⟩ : MethodName) = true := plainFor_of_name (by first | (simp [plainName, overriddenIn]; done) | decide +kernel)
theorem rm_asbLen (l : Launch) (Z : State) (a0 : Array Value) (hw : ∀ d ∈ tables_1, d.before a0 Z = true) (ws : List Jvm.Cond) (b d : Addr) (k : ClassId) (zn : Nat) (bs : List Value) (zc : Int32) (wf : Value) (n0 : Nat) (h0 : Heap) (SS : own_SS Z zc wf) (O : Old Z n0 h0) (J : SBI Z h0 b d k (Int32.ofNat zn) bs) :
    Con l Z (⟨"java/lang/AbstractStringBuilder", "length", "()I"⟩ : MethodName) jdk_68_method_6_code 1 (some .int) ws ({ frames := 0, cells := 0, slots := 0, locals := 0 } : Room) #[(.ref b)] h0 (fun v h L => v = some (.int (Int32.ofNat bs.length)) ∧ L = [] ∧ h = h0) := by
  refine Con.intro opl_rm_asbLen ?_
  intro p e s m below meth c s₁ hx hby hml hown hret hlk hZ hnm X0 e0
  have SS' := SS
  obtain ⟨hzc, SC, hwf, SF⟩ := SS
  have Z0 : n0 ≤ h0.size := O.1 ▸ O.2.1
  have N0 := Fr.nil n0
  obtain ⟨JE, JF, JC, JN, JV, JX⟩ := J
  refine OGo.cast (g' := (mkF m 0 #[.val (.ref b)] [])) (by first | (simp [entryFrame, mkF, argsToLocals, Value.category]; done) | rfl) ?_
  refine og (fun _ k => XS.aloadN X0.here hx rfl (hb hby d68_6_0) rfl rfl k) ?_
  obtain ⟨T64, X64, e64, st64⟩ := getF X0 hx hZ hown (host := "") (Or.inl (own_g hw 112 rfl)) Via.refl e0 JN (g := (mkF m 1 #[.val (.ref b)] [(.ref b)])) rfl rfl (hb hby d68_6_1)
  refine og st64 ?_
  show OGo p e below _ T64 (mkF m 4 #[.val (.ref b)] [(.int (Int32.ofNat bs.length))])
  exact OGo.ret X64 hx (t := .int) hret hlk rfl (Or.inl ⟨rfl, by simp, _, rfl⟩) (hb hby d68_6_4) (by decide) (by decide) ⟨rfl, rfl, e64⟩
theorem d67_93_0 : DK jdk_67_method_93_code 0 (.aload_n 0) 1 := by decide +kernel
theorem d67_93_1 : DK jdk_67_method_93_code 1 (.invokespecial 343) 3 := by decide +kernel
theorem d67_93_4 : DK jdk_67_method_93_code 4 .ireturn 1 := by decide +kernel
theorem opl_rm_sbLen : plainFor (⟨"java/lang/StringBuilder", "length", "()I"⟩ : MethodName) = true := plainFor_of_name (by first | (simp [plainName, overriddenIn]; done) | decide +kernel)
theorem rm_sbLen (l : Launch) (Z : State) (a0 : Array Value) (hw : ∀ d ∈ tables_1, d.before a0 Z = true) (ws : List Jvm.Cond) (b d : Addr) (k : ClassId) (zn : Nat) (bs : List Value) (zc : Int32) (wf : Value) (n0 : Nat) (h0 : Heap) (SS : own_SS Z zc wf) (O : Old Z n0 h0) (J : SBI Z h0 b d k (Int32.ofNat zn) bs) :
    Con l Z (⟨"java/lang/StringBuilder", "length", "()I"⟩ : MethodName) jdk_67_method_93_code 1 (some .int) ws ({ frames := 1, cells := 0, slots := 0, locals := 12 } : Room) #[(.ref b)] h0 (fun v h L => v = some (.int (Int32.ofNat bs.length)) ∧ L = [] ∧ h = h0) := by
  refine Con.intro opl_rm_sbLen ?_
  intro p e s m below meth c s₁ hx hby hml hown hret hlk hZ hnm X0 e0
  have SS' := SS
  obtain ⟨hzc, SC, hwf, SF⟩ := SS
  have Z0 : n0 ≤ h0.size := O.1 ▸ O.2.1
  have N0 := Fr.nil n0
  obtain ⟨JE, JF, JC, JN, JV, JX⟩ := J
  refine OGo.cast (g' := (mkF m 0 #[.val (.ref b)] [])) (by first | (simp [entryFrame, mkF, argsToLocals, Value.category]; done) | rfl) ?_
  refine og (fun _ k => XS.aloadN X0.here hx rfl (hb hby d67_93_0) rfl rfl k) ?_
  obtain ⟨v65, T65, L65, X65, hQ65, st65⟩ := ucall X0 hx hZ hown (own_g hw 214 rfl) (own_same (own_g hw 117 rfl) rfl (own_g hw 210 rfl) (by decide)) (own_g hw 210 rfl) (own_g hw 99 rfl) (own_g hw 83 rfl) (own_g hw 215 rfl) (by decide) (W := 0) (rm_asbLen l Z a0 hw [] b d k zn bs zc wf n0 h0 SS' O ⟨JE, JF, JC, JN, JV, JX⟩) e0 (by decide) (by decide) (by decide) (by decide) (g := (mkF m 1 #[.val (.ref b)] [(.ref b)])) rfl (by rw [hml]; rfl) JE (argsL := []) (rest := []) opd_11 rfl rfl rfl (by show 2 * 0 + _ ≤ _; exact Nat.le_of_eq rfl) (hb hby d67_93_1)
  obtain ⟨rfl, rfl, e65⟩ := hQ65
  rw [List.append_nil] at X65
  refine og st65 ?_
  show OGo p e below _ T65 (mkF m 4 #[.val (.ref b)] [(.int (Int32.ofNat bs.length))])
  exact OGo.ret X65 hx (t := .int) hret hlk rfl (Or.inl ⟨rfl, by simp, _, rfl⟩) (hb hby d67_93_4) (by decide) (by decide) ⟨rfl, rfl, e65⟩
theorem d68_68_0 : DK jdk_68_method_68_code 0 (.getstatic 18) 3 := by decide +kernel
theorem d68_68_3 : DK jdk_68_method_68_code 3 (.ifCond .eq 14) 3 := by decide +kernel
theorem d68_68_6 : DK jdk_68_method_68_code 6 (.aload_n 0) 1 := by decide +kernel
theorem d68_68_7 : DK jdk_68_method_68_code 7 (.getfield 22) 3 := by decide +kernel
theorem d68_68_10 : DK jdk_68_method_68_code 10 (.ifCond .ne 7) 3 := by decide +kernel
theorem d68_68_13 : DK jdk_68_method_68_code 13 (.iconst 1) 1 := by decide +kernel
theorem d68_68_14 : DK jdk_68_method_68_code 14 (.goto 4) 3 := by decide +kernel
theorem d68_68_18 : DK jdk_68_method_68_code 18 .ireturn 1 := by decide +kernel
theorem opl_rm_asbL1 : plainFor (⟨"java/lang/AbstractStringBuilder", "isLatin1", "()Z"⟩ : MethodName) = true := plainFor_of_name (by first | (simp [plainName, overriddenIn]; done) | decide +kernel)
theorem rm_asbL1 (l : Launch) (Z : State) (a0 : Array Value) (hw : ∀ d ∈ tables_1, d.before a0 Z = true) (ws : List Jvm.Cond) (b d : Addr) (k : ClassId) (zn : Nat) (bs : List Value) (zc : Int32) (wf : Value) (n0 : Nat) (h0 : Heap) (SS : own_SS Z zc wf) (O : Old Z n0 h0) (J : SBI Z h0 b d k (Int32.ofNat zn) bs) :
    Con l Z (⟨"java/lang/AbstractStringBuilder", "isLatin1", "()Z"⟩ : MethodName) jdk_68_method_68_code 1 (some .boolean) ws ({ frames := 0, cells := 0, slots := 0, locals := 0 } : Room) #[(.ref b)] h0 (fun v h L => v = some (.int (1 : Int32)) ∧ L = [] ∧ h = h0) := by
  refine Con.intro opl_rm_asbL1 ?_
  intro p e s m below meth c s₁ hx hby hml hown hret hlk hZ hnm X0 e0
  have SS' := SS
  obtain ⟨hzc, SC, hwf, SF⟩ := SS
  have Z0 : n0 ≤ h0.size := O.1 ▸ O.2.1
  have N0 := Fr.nil n0
  obtain ⟨JE, JF, JC, JN, JV, JX⟩ := J
  refine OGo.cast (g' := (mkF m 0 #[.val (.ref b)] [])) (by first | (simp [entryFrame, mkF, argsToLocals, Value.category]; done) | rfl) ?_
  obtain ⟨T66, X66, e66, st66⟩ := getS2 X0 hx hZ hown (host := "") (Or.inl (own_g hw 86 rfl)) Via.refl e0 (SC.ext O.2) (g := (mkF m 0 #[.val (.ref b)] [])) rfl (hb hby d68_68_0)
  refine og st66 ?_
  refine og (fun _ k => XS.ifNo X66.here hx rfl (hb hby d68_68_3) rfl ((if0 _ _).trans (feq hzc).1) k) ?_
  refine og (fun _ k => XS.aloadN X66.here hx rfl (hb hby d68_68_6) rfl rfl k) ?_
  obtain ⟨T67, X67, e67, st67⟩ := getF X66 hx hZ hown (host := "") (Or.inl (own_g hw 89 rfl)) Via.refl e66 JC (g := (mkF m 7 #[.val (.ref b)] [(.ref b)])) rfl rfl (hb hby d68_68_7)
  refine og st67 ?_
  refine og (fun _ k => XS.ifNo X67.here hx rfl (hb hby d68_68_10) rfl ((if0 _ _).trans (teq (rfl : (0 : Int32) = 0)).2) k) ?_
  refine og (fun _ k => XS.iconst X67.here hx rfl (hb hby d68_68_13) k) ?_
  refine og (fun _ k => XS.goto X67.here hx rfl (pc0 := 14) (pc' := 18) rfl (hb hby d68_68_14) (by decide) (by decide) k) ?_
  show OGo p e below _ T67 (mkF m 18 #[.val (.ref b)] [(.int (1 : Int32))])
  exact OGo.ret X67 hx (t := .boolean) hret hlk rfl (Or.inl ⟨rfl, by simp, _, rfl⟩) (hb hby d68_68_18) (by decide) (by decide) ⟨rfl, rfl, e67⟩
theorem d65_131_0 : DK jdk_65_method_131_code 0 (.iload_n 1) 1 := by decide +kernel
theorem d65_131_1 : DK jdk_65_method_131_code 1 (.iload_n 0) 1 := by decide +kernel
theorem d65_131_2 : DK jdk_65_method_131_code 2 (.if_icmp .ge 35) 3 := by decide +kernel
theorem d65_131_37 : DK jdk_65_method_131_code 37 .return_ 1 := by decide +kernel
theorem opl_rm_chk : plainFor (⟨"java/util/Arrays", "checkLength", "(II)V"⟩ : MethodName) = true := plainFor_of_name (by first | (simp [plainName, overriddenIn]; done) | decide +kernel)
theorem rm_chk (l : Launch) (Z : State) (a0 : Array Value) (hw : ∀ d ∈ tables_1, d.before a0 Z = true) (ws : List Jvm.Cond) (f t : Int32) (h0 : Heap) (hft : ¬ t < f) :
    Con l Z (⟨"java/util/Arrays", "checkLength", "(II)V"⟩ : MethodName) jdk_65_method_131_code 2 none ws ({ frames := 0, cells := 0, slots := 0, locals := 0 } : Room) #[(.int f), (.int t)] h0 (fun v h L => v = none ∧ L = [] ∧ h = h0) := by
  refine Con.intro opl_rm_chk ?_
  intro p e s m below meth c s₁ hx hby hml hown hret hlk hZ hnm X0 e0
  refine OGo.cast (g' := (mkF m 0 #[.val (.int f), .val (.int t)] [])) (by first | (simp [entryFrame, mkF, argsToLocals, Value.category]; done) | rfl) ?_
  refine og (fun _ k => XS.iloadN X0.here hx rfl (hb hby d65_131_0) rfl k) ?_
  refine og (fun _ k => XS.iloadN X0.here hx rfl (hb hby d65_131_1) rfl k) ?_
  refine og (fun _ k => XS.icmpYes X0.here hx rfl (pc0 := 2) (pc' := 37) rfl (hb hby d65_131_2) rfl (flt hft).2.1 (by decide) (by decide) k) ?_
  show OGo p e below _ s₁ (mkF m 37 #[.val (.int f), .val (.int t)] [])
  exact OGo.retV X0 hx hret hlk (hb hby d65_131_37) (by decide) (by decide) ⟨rfl, rfl, e0⟩
theorem d29_69_9 : DK jdk_29_method_69_code 9 (.iload_n 1) 1 := by decide +kernel
theorem opl_rm_min : plainFor (⟨"java/lang/Math", "min", "(II)I"⟩ : MethodName) = true := Jvm.Free.JP.mathPlain rfl (by decide +kernel)
theorem rm_min (l : Launch) (Z : State) (a0 : Array Value) (hw : ∀ d ∈ tables_1, d.before a0 Z = true) (ws : List Jvm.Cond) (a b : Int32) (h0 : Heap) (hba : b < a) :
    Con l Z (⟨"java/lang/Math", "min", "(II)I"⟩ : MethodName) jdk_29_method_69_code 2 (some .int) ws ({ frames := 0, cells := 0, slots := 0, locals := 0 } : Room) #[(.int a), (.int b)] h0 (fun v h L => v = some (.int b) ∧ L = [] ∧ h = h0) := by
  refine Con.intro opl_rm_min ?_
  intro p e s m below meth c s₁ hx hby hml hown hret hlk hZ hnm X0 e0
  refine OGo.cast (g' := (mkF m 0 #[.val (.int a), .val (.int b)] [])) (by first | (simp [entryFrame, mkF, argsToLocals, Value.category]; done) | rfl) ?_
  refine og (fun _ k => XS.iloadN X0.here hx rfl (hb hby d29_69_0) rfl k) ?_
  refine og (fun _ k => XS.iloadN X0.here hx rfl (hb hby d29_69_1) rfl k) ?_
  refine og (fun _ k => XS.icmpYes X0.here hx rfl (pc0 := 2) (pc' := 9) rfl (hb hby d29_69_2) rfl (tlt hba).2.2.1 (by decide) (by decide) k) ?_
  refine og (fun _ k => XS.iloadN X0.here hx rfl (hb hby d29_69_9) rfl k) ?_
  show OGo p e below _ s₁ (mkF m 10 #[.val (.int a), .val (.int b)] [(.int b)])
  exact OGo.ret X0 hx (t := .int) hret hlk rfl (Or.inl ⟨rfl, by simp, _, rfl⟩) (hb hby d29_69_10) (by decide) (by decide) ⟨rfl, rfl, e0⟩
theorem d65_133_0 : DK jdk_65_method_133_code 0 (.iload_n 1) 1 := by decide +kernel
theorem d65_133_1 : DK jdk_65_method_133_code 1 (.iload_n 2) 1 := by decide +kernel
theorem d65_133_2 : DK jdk_65_method_133_code 2 (.invokestatic 343) 3 := by decide +kernel
theorem d65_133_5 : DK jdk_65_method_133_code 5 (.iload_n 2) 1 := by decide +kernel
theorem d65_133_6 : DK jdk_65_method_133_code 6 (.iload_n 1) 1 := by decide +kernel
theorem d65_133_7 : DK jdk_65_method_133_code 7 .isub 1 := by decide +kernel
theorem d65_133_8 : DK jdk_65_method_133_code 8 (.istore_n 3) 1 := by decide +kernel
theorem d65_133_9 : DK jdk_65_method_133_code 9 (.iload_n 3) 1 := by decide +kernel
theorem d65_133_10 : DK jdk_65_method_133_code 10 (.newarray .byte) 2 := by decide +kernel
theorem d65_133_12 : DK jdk_65_method_133_code 12 (.astore 4) 2 := by decide +kernel
theorem d65_133_14 : DK jdk_65_method_133_code 14 (.aload_n 0) 1 := by decide +kernel
theorem d65_133_15 : DK jdk_65_method_133_code 15 (.iload_n 1) 1 := by decide +kernel
theorem d65_133_16 : DK jdk_65_method_133_code 16 (.aload 4) 2 := by decide +kernel
theorem d65_133_18 : DK jdk_65_method_133_code 18 (.iconst 0) 1 := by decide +kernel
theorem d65_133_19 : DK jdk_65_method_133_code 19 (.aload_n 0) 1 := by decide +kernel
theorem d65_133_20 : DK jdk_65_method_133_code 20 .arraylength 1 := by decide +kernel
theorem d65_133_21 : DK jdk_65_method_133_code 21 (.iload_n 1) 1 := by decide +kernel
theorem d65_133_22 : DK jdk_65_method_133_code 22 .isub 1 := by decide +kernel
theorem d65_133_23 : DK jdk_65_method_133_code 23 (.iload_n 3) 1 := by decide +kernel
theorem d65_133_24 : DK jdk_65_method_133_code 24 (.invokestatic 304) 3 := by decide +kernel
theorem d65_133_27 : DK jdk_65_method_133_code 27 (.invokestatic 150) 3 := by decide +kernel
theorem d65_133_30 : DK jdk_65_method_133_code 30 (.aload 4) 2 := by decide +kernel
theorem d65_133_32 : DK jdk_65_method_133_code 32 .areturn 1 := by decide +kernel
theorem opl_rm_corb : plainFor (⟨"java/util/Arrays", "copyOfRangeByte", "([BII)[B"⟩ : MethodName) = true := plainFor_of_name (by first | (simp [plainName, overriddenIn]; done) | decide +kernel)
theorem rm_corb (l : Launch) (Z : State) (a0 : Array Value) (hw : ∀ d ∈ tables_1, d.before a0 Z = true) (ws : List Jvm.Cond) (d : Addr) (k : ClassId) (zn : Nat) (bs : List Value) (zc : Int32) (wf : Value) (n0 : Nat) (h0 : Heap) (SS : own_SS Z zc wf) (O : Old Z n0 h0) (V : Arv Z h0 d k .byte (Int32.ofNat zn) bs (.int (0 : Int32))) (hzn : zn ≤ 142) (hbz : bs.length < zn) (hbn : bs.length ≤ 70) :
    Con l Z (⟨"java/util/Arrays", "copyOfRangeByte", "([BII)[B"⟩ : MethodName) jdk_65_method_133_code 5 (some (.array .byte)) ws ({ frames := 1, cells := 1, slots := 70, locals := 29 } : Room) #[(.ref d), (.int (0 : Int32)), (.int (Int32.ofNat bs.length))] h0 (fun v h L => ∃ r k', v = some (.ref r) ∧ h0.size ≤ r ∧ Fr n0 L ∧ Keep h0 h [] ∧ Arv Z h r k' .byte (Int32.ofNat bs.length) bs (.int (0 : Int32))) := by
  refine Con.intro opl_rm_corb ?_
  intro p e s m below meth c s₁ hx hby hml hown hret hlk hZ hnm X0 e0
  obtain ⟨hzc, SC, hwf, SF⟩ := SS
  have Z0 : n0 ≤ h0.size := O.1 ▸ O.2.1
  have N0 := Fr.nil n0
  refine OGo.cast (g' := (mkF m 0 #[.val (.ref d), .val (.int (0 : Int32)), .val (.int (Int32.ofNat bs.length)), .unset, .unset] [])) (by first | (simp [entryFrame, mkF, argsToLocals, Value.category]; done) | rfl) ?_
  have hb2 : bs.length < 2147483648 := by omega
  refine og (fun _ k => XS.iloadN X0.here hx rfl (hb hby d65_133_0) rfl k) ?_
  refine og (fun _ k => XS.iloadN X0.here hx rfl (hb hby d65_133_1) rfl k) ?_
  obtain ⟨v68, T68, L68, X68, hQ68, st68⟩ := scall X0 hx hZ hown (own_g hw 223 rfl) (own_g hw 224 rfl) (own_g hw 157 rfl) (own_g hw 225 rfl) (by decide) (W := 0) (rm_chk l Z a0 hw [] (0 : Int32) (Int32.ofNat bs.length) h0 (own_nn hb2)) e0 (by decide) (by decide) (by decide) (by decide) (g := (mkF m 2 #[.val (.ref d), .val (.int (0 : Int32)), .val (.int (Int32.ofNat bs.length)), .unset, .unset] [(.int (Int32.ofNat bs.length)), (.int (0 : Int32))])) rfl (by rw [hml]; rfl) (argsL := [(.int (0 : Int32)), (.int (Int32.ofNat bs.length))]) (rest := []) opd_2 rfl rfl rfl (by show 2 * 0 + _ ≤ _; exact Nat.le_of_eq rfl) (hb hby d65_133_2)
  obtain ⟨rfl, rfl, e68⟩ := hQ68
  rw [List.append_nil] at X68
  refine og st68 ?_
  refine og (fun _ k => XS.iloadN X68.here hx rfl (hb hby d65_133_5) rfl k) ?_
  refine og (fun _ k => XS.iloadN X68.here hx rfl (hb hby d65_133_6) rfl k) ?_
  refine og (fun _ k => XS.isub X68.here hx rfl (hb hby d65_133_7) rfl k) ?_
  show OGo p e below _ T68 (mkF m 8 #[.val (.ref d), .val (.int (0 : Int32)), .val (.int (Int32.ofNat bs.length)), .unset, .unset] [(.int ((Int32.ofNat bs.length) - (0 : Int32)))])
  rw [own_sub0]
  refine og (fun _ k => XS.istoreN X68.here hx rfl (hb hby d65_133_8) rfl (l' := #[.val (.ref d), .val (.int (0 : Int32)), .val (.int (Int32.ofNat bs.length)), .val (.int (Int32.ofNat bs.length)), .unset]) rfl k) ?_
  refine og (fun _ k => XS.iloadN X68.here hx rfl (hb hby d65_133_9) rfl k) ?_
  obtain ⟨T69, h69, k69, X69, e69, E69, A69, AE69, st69⟩ := newPE X68 hx hZ (own_g hw 19 rfl) e68 (g := (mkF m 10 #[.val (.ref d), .val (.int (0 : Int32)), .val (.int (Int32.ofNat bs.length)), .val (.int (Int32.ofNat bs.length)), .unset] [(.int (Int32.ofNat bs.length))])) rfl (hb hby d65_133_10) rfl (own_nn hb2) (cap := 70) (by rw [own_cl hb2]; exact hbn) (by decide) (by decide) (by decide) (ad := "[B") (by decide)
  obtain ⟨b69, g69⟩ : ∃ z, z = h0.size := ⟨_, rfl⟩
  rw [← g69] at A69 AE69 st69
  have sz_b69 : h0.size ≤ b69 := Nat.le_trans (Keep.refl h0 []).1 (Nat.le_of_eq g69.symm)
  have KK69 : Keep h0 h69 [] := (Keep.refl h0 []).ext E69
  have V69 : Arv Z h69 b69 k69 .byte (Int32.ofNat bs.length) [] (.int (0 : Int32)) := Arv.new A69 (own_nn hb2)
  refine og st69 ?_
  refine og (fun _ k => XS.astore X69.here hx rfl (hb hby d65_133_12) rfl rfl (l' := #[.val (.ref d), .val (.int (0 : Int32)), .val (.int (Int32.ofNat bs.length)), .val (.int (Int32.ofNat bs.length)), .val (.ref b69)]) rfl k) ?_
  refine og (fun _ k => XS.aloadN X69.here hx rfl (hb hby d65_133_14) rfl rfl k) ?_
  refine og (fun _ k => XS.iloadN X69.here hx rfl (hb hby d65_133_15) rfl k) ?_
  refine og (fun _ k => XS.aload X69.here hx rfl (hb hby d65_133_16) rfl rfl k) ?_
  refine og (fun _ k => XS.iconst X69.here hx rfl (hb hby d65_133_18) k) ?_
  refine og (fun _ k => XS.aloadN X69.here hx rfl (hb hby d65_133_19) rfl rfl k) ?_
  refine og (fun _ k => alenV X69 hx hZ e69 (V.ext E69) (g := (mkF m 20 #[.val (.ref d), .val (.int (0 : Int32)), .val (.int (Int32.ofNat bs.length)), .val (.int (Int32.ofNat bs.length)), .val (.ref b69)] [(.ref d), (.int (0 : Int32)), (.ref b69), (.int (0 : Int32)), (.ref d)])) rfl rfl (hb hby d65_133_20) _ k) ?_
  refine og (fun _ k => XS.iloadN X69.here hx rfl (hb hby d65_133_21) rfl k) ?_
  refine og (fun _ k => XS.isub X69.here hx rfl (hb hby d65_133_22) rfl k) ?_
  show OGo p e below _ T69 (mkF m 23 #[.val (.ref d), .val (.int (0 : Int32)), .val (.int (Int32.ofNat bs.length)), .val (.int (Int32.ofNat bs.length)), .val (.ref b69)] [(.int ((Int32.ofNat zn) - (0 : Int32))), (.int (0 : Int32)), (.ref b69), (.int (0 : Int32)), (.ref d)])
  rw [own_sub0]
  refine og (fun _ k => XS.iloadN X69.here hx rfl (hb hby d65_133_23) rfl k) ?_
  obtain ⟨v70, T70, L70, X70, hQ70, st70⟩ := scall X69 hx hZ hown (own_g hw 159 rfl) (own_g hw 160 rfl) (own_g hw 151 rfl) (own_g hw 161 rfl) (by decide) (W := 4) (rm_min l Z a0 hw [] (Int32.ofNat zn) (Int32.ofNat bs.length) h69 ((own_lt hb2 (by omega)).mpr hbz)) e69 (by decide) (by decide) (by decide) (by decide) (g := (mkF m 24 #[.val (.ref d), .val (.int (0 : Int32)), .val (.int (Int32.ofNat bs.length)), .val (.int (Int32.ofNat bs.length)), .val (.ref b69)] [(.int (Int32.ofNat bs.length)), (.int (Int32.ofNat zn)), (.int (0 : Int32)), (.ref b69), (.int (0 : Int32)), (.ref d)])) rfl (by rw [hml]; rfl) (argsL := [(.int (Int32.ofNat zn)), (.int (Int32.ofNat bs.length))]) (rest := [(.int (0 : Int32)), (.ref b69), (.int (0 : Int32)), (.ref d)]) opd_5 rfl rfl rfl (by show 2 * 0 + _ ≤ _; exact Nat.le_of_eq rfl) (hb hby d65_133_24)
  obtain ⟨rfl, rfl, e70⟩ := hQ70
  rw [List.append_nil] at X70
  refine og st70 ?_
  obtain ⟨T71, h71, L71, X71, e71, N71, K71, V71, st71⟩ := own_cp X70 hx hZ hown (own_g hw 162 rfl) (own_g hw 138 rfl) (own_g hw 136 rfl) (own_g hw 137 rfl) e70 (V.ext E69) V69 (by rw [own_cl (by omega)]; omega) (by rw [own_cl hb2]; exact Nat.le_of_eq (Nat.zero_add _)) hb2 (by decide) N0 (Nat.le_trans Z0 sz_b69) (g := (mkF m 27 #[.val (.ref d), .val (.int (0 : Int32)), .val (.int (Int32.ofNat bs.length)), .val (.int (Int32.ofNat bs.length)), .val (.ref b69)] [(.int (Int32.ofNat bs.length)), (.int (0 : Int32)), (.ref b69), (.int (0 : Int32)), (.ref d)])) rfl (by rw [hml]; rfl) (rest := []) rfl (hb hby d65_133_27) (by decide) (W := 0) (by show 2 * 0 + _ ≤ _; exact Nat.le_of_eq rfl) (by decide)
  have KK71 : Keep h0 h71 [] := KK69.trans K71 (allS (Or.inr sz_b69) all0)
  refine og st71 ?_
  refine og (fun _ k => XS.aload X71.here hx rfl (hb hby d65_133_30) rfl rfl k) ?_
  show OGo p e below _ T71 (mkF m 32 #[.val (.ref d), .val (.int (0 : Int32)), .val (.int (Int32.ofNat bs.length)), .val (.int (Int32.ofNat bs.length)), .val (.ref b69)] [(.ref b69)])
  exact OGo.ret X71 hx (t := (.array .byte)) hret hlk rfl (Or.inr (Or.inr (Or.inr (Or.inr ⟨rfl, rfl, rfl⟩)))) (hb hby d65_133_32) (by decide) (by decide) (by rw [e71]; exact ⟨b69, _, rfl, sz_b69, N71, KK71, V71⟩)
theorem d65_132_0 : DK jdk_65_method_132_code 0 (.iload_n 1) 1 := by decide +kernel
theorem d65_132_1 : DK jdk_65_method_132_code 1 (.ifCond .ne 9) 3 := by decide +kernel
theorem d65_132_4 : DK jdk_65_method_132_code 4 (.iload_n 2) 1 := by decide +kernel
theorem d65_132_5 : DK jdk_65_method_132_code 5 (.aload_n 0) 1 := by decide +kernel
theorem d65_132_6 : DK jdk_65_method_132_code 6 .arraylength 1 := by decide +kernel
theorem d65_132_7 : DK jdk_65_method_132_code 7 (.if_icmp .eq 10) 3 := by decide +kernel
theorem d65_132_10 : DK jdk_65_method_132_code 10 (.aload_n 0) 1 := by decide +kernel
theorem d65_132_11 : DK jdk_65_method_132_code 11 (.iload_n 1) 1 := by decide +kernel
theorem d65_132_12 : DK jdk_65_method_132_code 12 (.iload_n 2) 1 := by decide +kernel
theorem opd_15 : parseMethodDescriptor "([BII)[B" = some ⟨[(.array .byte), .int, .int], some (.array .byte)⟩ := by decide +kernel
theorem d65_132_13 : DK jdk_65_method_132_code 13 (.invokestatic 339) 3 := by decide +kernel
theorem d65_132_16 : DK jdk_65_method_132_code 16 .areturn 1 := by decide +kernel
theorem opl_rm_cor : plainFor (⟨"java/util/Arrays", "copyOfRange", "([BII)[B"⟩ : MethodName) = true := plainFor_of_name (by first | (simp [plainName, overriddenIn]; done) | decide +kernel)
theorem rm_cor (l : Launch) (Z : State) (a0 : Array Value) (hw : ∀ d ∈ tables_1, d.before a0 Z = true) (ws : List Jvm.Cond) (d : Addr) (k : ClassId) (zn : Nat) (bs : List Value) (zc : Int32) (wf : Value) (n0 : Nat) (h0 : Heap) (SS : own_SS Z zc wf) (O : Old Z n0 h0) (V : Arv Z h0 d k .byte (Int32.ofNat zn) bs (.int (0 : Int32))) (hzn : zn ≤ 142) (hbz : bs.length < zn) (hbn : bs.length ≤ 70) (VX : Exa Z h0 d "[B") :
    Con l Z (⟨"java/util/Arrays", "copyOfRange", "([BII)[B"⟩ : MethodName) jdk_65_method_132_code 3 (some (.array .byte)) ws ({ frames := 2, cells := 1, slots := 70, locals := 45 } : Room) #[(.ref d), (.int (0 : Int32)), (.int (Int32.ofNat bs.length))] h0 (fun v h L => ∃ r k', v = some (.ref r) ∧ h0.size ≤ r ∧ Fr n0 L ∧ Keep h0 h [] ∧ Arv Z h r k' .byte (Int32.ofNat bs.length) bs (.int (0 : Int32))) := by
  refine Con.intro opl_rm_cor ?_
  intro p e s m below meth c s₁ hx hby hml hown hret hlk hZ hnm X0 e0
  have SS' := SS
  obtain ⟨hzc, SC, hwf, SF⟩ := SS
  have Z0 : n0 ≤ h0.size := O.1 ▸ O.2.1
  have N0 := Fr.nil n0
  refine OGo.cast (g' := (mkF m 0 #[.val (.ref d), .val (.int (0 : Int32)), .val (.int (Int32.ofNat bs.length))] [])) (by first | (simp [entryFrame, mkF, argsToLocals, Value.category]; done) | rfl) ?_
  refine og (fun _ k => XS.iloadN X0.here hx rfl (hb hby d65_132_0) rfl k) ?_
  refine og (fun _ k => XS.ifNo X0.here hx rfl (hb hby d65_132_1) rfl ((if0 _ _).trans (teq (rfl : (0 : Int32) = 0)).2) k) ?_
  refine og (fun _ k => XS.iloadN X0.here hx rfl (hb hby d65_132_4) rfl k) ?_
  refine og (fun _ k => XS.aloadN X0.here hx rfl (hb hby d65_132_5) rfl rfl k) ?_
  refine og (fun _ k => alenV X0 hx hZ e0 V (g := (mkF m 6 #[.val (.ref d), .val (.int (0 : Int32)), .val (.int (Int32.ofNat bs.length))] [(.ref d), (.int (Int32.ofNat bs.length))])) rfl rfl (hb hby d65_132_6) _ k) ?_
  refine og (fun _ k => XS.icmpNo X0.here hx rfl (hb hby d65_132_7) rfl (feq (fun p => by have e1 := congrArg Int32.toInt p; rw [own_toInt (by omega), own_toInt (by omega)] at e1; omega)).1 k) ?_
  refine og (fun _ k => XS.aloadN X0.here hx rfl (hb hby d65_132_10) rfl rfl k) ?_
  refine og (fun _ k => XS.iloadN X0.here hx rfl (hb hby d65_132_11) rfl k) ?_
  refine og (fun _ k => XS.iloadN X0.here hx rfl (hb hby d65_132_12) rfl k) ?_
  obtain ⟨v72, T72, L72, X72, hQ72, st72⟩ := scall X0 hx hZ hown (own_g hw 220 rfl) (own_g hw 221 rfl) (own_g hw 157 rfl) (own_g hw 222 rfl) (by decide) (W := 0) (rm_corb l Z a0 hw [] d k zn bs zc wf n0 h0 SS' O V hzn (by omega) hbn) e0 (by decide) (by decide) (by decide) (by decide) (g := (mkF m 13 #[.val (.ref d), .val (.int (0 : Int32)), .val (.int (Int32.ofNat bs.length))] [(.int (Int32.ofNat bs.length)), (.int (0 : Int32)), (.ref d)])) rfl (by rw [hml]; rfl) (argsL := [(.ref d), (.int (0 : Int32)), (.int (Int32.ofNat bs.length))]) (rest := []) opd_15 rfl rfl rfl (by show 2 * 0 + _ ≤ _; exact Nat.le_of_eq rfl) (hb hby d65_132_13)
  obtain ⟨r72, kr72, rfl, sr72, N72, K72, V72⟩ := hQ72
  have NN72 := Fr.app N0 N72
  have KK72 : Keep h0 T72.heap [] := (Keep.refl h0 []).trans K72 all0
  refine og st72 ?_
  show OGo p e below _ T72 (mkF m 16 #[.val (.ref d), .val (.int (0 : Int32)), .val (.int (Int32.ofNat bs.length))] [(.ref r72)])
  exact OGo.ret X72 hx (t := (.array .byte)) hret hlk rfl (Or.inr (Or.inr (Or.inr (Or.inr ⟨rfl, rfl, rfl⟩)))) (hb hby d65_132_16) (by decide) (by decide) ⟨r72, _, rfl, sr72, NN72, KK72, V72⟩
theorem d42_150_0 : DK jdk_42_method_150_code 0 (.aload_n 0) 1 := by decide +kernel
theorem d42_150_1 : DK jdk_42_method_150_code 1 (.invokespecial 1) 3 := by decide +kernel
theorem d42_150_4 : DK jdk_42_method_150_code 4 (.aload_n 1) 1 := by decide +kernel
theorem opd_16 : parseMethodDescriptor "()[B" = some ⟨[], some (.array .byte)⟩ := by decide +kernel
theorem d42_150_5 : DK jdk_42_method_150_code 5 (.invokevirtual 552) 3 := by decide +kernel
theorem d42_150_8 : DK jdk_42_method_150_code 8 (.astore_n 3) 1 := by decide +kernel
theorem d42_150_9 : DK jdk_42_method_150_code 9 (.aload_n 1) 1 := by decide +kernel
theorem d42_150_10 : DK jdk_42_method_150_code 10 (.invokevirtual 549) 3 := by decide +kernel
theorem d42_150_13 : DK jdk_42_method_150_code 13 (.istore 4) 2 := by decide +kernel
theorem d42_150_15 : DK jdk_42_method_150_code 15 (.aload_n 1) 1 := by decide +kernel
theorem d42_150_16 : DK jdk_42_method_150_code 16 (.invokevirtual 1047) 3 := by decide +kernel
theorem d42_150_19 : DK jdk_42_method_150_code 19 (.ifCond .eq 22) 3 := by decide +kernel
theorem d42_150_22 : DK jdk_42_method_150_code 22 (.aload_n 0) 1 := by decide +kernel
theorem d42_150_23 : DK jdk_42_method_150_code 23 (.iconst 0) 1 := by decide +kernel
theorem d42_150_24 : DK jdk_42_method_150_code 24 (.putfield 15) 3 := by decide +kernel
theorem d42_150_27 : DK jdk_42_method_150_code 27 (.aload_n 0) 1 := by decide +kernel
theorem d42_150_28 : DK jdk_42_method_150_code 28 (.aload_n 3) 1 := by decide +kernel
theorem d42_150_29 : DK jdk_42_method_150_code 29 (.iconst 0) 1 := by decide +kernel
theorem d42_150_30 : DK jdk_42_method_150_code 30 (.iload 4) 2 := by decide +kernel
theorem d42_150_32 : DK jdk_42_method_150_code 32 (.invokestatic 54) 3 := by decide +kernel
theorem d42_150_35 : DK jdk_42_method_150_code 35 (.putfield 9) 3 := by decide +kernel
theorem d42_150_38 : DK jdk_42_method_150_code 38 (.goto 59) 3 := by decide +kernel
theorem d42_150_97 : DK jdk_42_method_150_code 97 .return_ 1 := by decide +kernel
theorem opl_rm_sia : plainFor (⟨"java/lang/String", "<init>", "(Ljava/lang/AbstractStringBuilder;Ljava/lang/Void;)V"⟩ : MethodName) = true := plainFor_of_name (by first | (simp [plainName, overriddenIn]; done) | decide +kernel)
theorem rm_sia (l : Launch) (Z : State) (a0 : Array Value) (hw : ∀ d ∈ tables_1, d.before a0 Z = true) (ws : List Jvm.Cond) (a : Addr) (b d : Addr) (k : ClassId) (zn : Nat) (bs : List Value) (zc : Int32) (wf : Value) (n0 : Nat) (h0 : Heap) (SS : own_SS Z zc wf) (O : Old Z n0 h0) (J : SBI Z h0 b d k (Int32.ofNat zn) bs) (hzn : zn ≤ 142) (hbz : bs.length < zn) (hbn : bs.length ≤ 70) (E : Exa Z h0 a "java/lang/String") (Fc : Fld Z h0 a "java/lang/String" "coder" "B" (.int (0 : Int32))) (Fv : Fld Z h0 a "java/lang/String" "value" "[B" .null) (g_a : n0 ≤ a) (nba : b ≠ a) (nda : d ≠ a) :
    Con l Z (⟨"java/lang/String", "<init>", "(Ljava/lang/AbstractStringBuilder;Ljava/lang/Void;)V"⟩ : MethodName) jdk_42_method_150_code 5 none ws ({ frames := 3, cells := 1, slots := 70, locals := 60 } : Room) #[(.ref a), (.ref b), .null] h0 (fun v h L => v = none ∧ Fr n0 L ∧ Keep h0 h [a] ∧ ∃ r k', h0.size ≤ r ∧ STI Z h a r k' bs) := by
  refine Con.intro opl_rm_sia ?_
  intro p e s m below meth c s₁ hx hby hml hown hret hlk hZ hnm X0 e0
  have SS' := SS
  obtain ⟨hzc, SC, hwf, SF⟩ := SS
  have Z0 : n0 ≤ h0.size := O.1 ▸ O.2.1
  have N0 := Fr.nil n0
  obtain ⟨JE, JF, JC, JN, JV, JX⟩ := J
  refine OGo.cast (g' := (mkF m 0 #[.val (.ref a), .val (.ref b), .val .null, .unset, .unset] [])) (by first | (simp [entryFrame, mkF, argsToLocals, Value.category]; done) | rfl) ?_
  refine og (fun _ k => XS.aloadN X0.here hx rfl (hb hby d42_150_0) rfl rfl k) ?_
  obtain ⟨T73, X73, e73, st73⟩ := initO X0 hx hZ hown (own_g hw 11 rfl) (own_g hw 12 rfl) (own_g hw 13 rfl) e0 (g := (mkF m 1 #[.val (.ref a), .val (.ref b), .val .null, .unset, .unset] [(.ref a)])) rfl (by rw [hml]; rfl) rfl (hb hby d42_150_1) (by decide) (W := 0) (by show 2 * 0 + _ ≤ _; exact Nat.le_of_eq rfl) (by decide)
  refine og st73 ?_
  refine og (fun _ k => XS.aloadN X73.here hx rfl (hb hby d42_150_4) rfl rfl k) ?_
  obtain ⟨v74, T74, L74, X74, hQ74, st74⟩ := vcall X73 hx hZ hown (own_g hw 203 rfl) (own_g hw 204 rfl) (own_g hw 206 rfl) rfl (own_g hw 206 rfl) (own_g hw 205 rfl) (own_g hw 83 rfl) (own_g hw 207 rfl) (by decide) (W := 0) (rm_getV l Z a0 hw [] b d k zn bs zc wf n0 h0 SS' O ⟨JE, JF, JC, JN, JV, JX⟩) e73 (by decide) (by decide) (by decide) (by decide) (g := (mkF m 5 #[.val (.ref a), .val (.ref b), .val .null, .unset, .unset] [(.ref b)])) rfl (by rw [hml]; rfl) JE (argsL := []) (rest := []) opd_16 rfl rfl rfl (by show 2 * 0 + _ ≤ _; exact Nat.le_of_eq rfl) (hb hby d42_150_5)
  obtain ⟨rfl, rfl, e74⟩ := hQ74
  rw [List.append_nil] at X74
  refine og st74 ?_
  refine og (fun _ k => XS.astoreN X74.here hx rfl (hb hby d42_150_8) rfl rfl (l' := #[.val (.ref a), .val (.ref b), .val .null, .val (.ref d), .unset]) rfl k) ?_
  refine og (fun _ k => XS.aloadN X74.here hx rfl (hb hby d42_150_9) rfl rfl k) ?_
  obtain ⟨v75, T75, L75, X75, hQ75, st75⟩ := vcall X74 hx hZ hown (own_g hw 208 rfl) (own_g hw 209 rfl) (own_g hw 117 rfl) rfl (own_g hw 211 rfl) (own_g hw 212 rfl) (own_g hw 75 rfl) (own_g hw 213 rfl) (by decide) (W := 0) (rm_sbLen l Z a0 hw [] b d k zn bs zc wf n0 h0 SS' O ⟨JE, JF, JC, JN, JV, JX⟩) e74 (by decide) (by decide) (by decide) (by decide) (g := (mkF m 10 #[.val (.ref a), .val (.ref b), .val .null, .val (.ref d), .unset] [(.ref b)])) rfl (by rw [hml]; rfl) JE (argsL := []) (rest := []) opd_11 rfl rfl rfl (by show 2 * 0 + _ ≤ _; exact Nat.le_of_eq rfl) (hb hby d42_150_10)
  obtain ⟨rfl, rfl, e75⟩ := hQ75
  rw [List.append_nil] at X75
  refine og st75 ?_
  refine og (fun _ k => XS.istore X75.here hx rfl (hb hby d42_150_13) rfl (l' := #[.val (.ref a), .val (.ref b), .val .null, .val (.ref d), .val (.int (Int32.ofNat bs.length))]) rfl k) ?_
  refine og (fun _ k => XS.aloadN X75.here hx rfl (hb hby d42_150_15) rfl rfl k) ?_
  obtain ⟨v76, T76, L76, X76, hQ76, st76⟩ := vcall X75 hx hZ hown (own_g hw 216 rfl) (own_g hw 179 rfl) (own_g hw 181 rfl) rfl (own_g hw 181 rfl) (own_g hw 180 rfl) (own_g hw 83 rfl) (own_g hw 182 rfl) (by decide) (W := 0) (rm_asbL1 l Z a0 hw [] b d k zn bs zc wf n0 h0 SS' O ⟨JE, JF, JC, JN, JV, JX⟩) e75 (by decide) (by decide) (by decide) (by decide) (g := (mkF m 16 #[.val (.ref a), .val (.ref b), .val .null, .val (.ref d), .val (.int (Int32.ofNat bs.length))] [(.ref b)])) rfl (by rw [hml]; rfl) JE (argsL := []) (rest := []) opd_3 rfl rfl rfl (by show 2 * 0 + _ ≤ _; exact Nat.le_of_eq rfl) (hb hby d42_150_16)
  obtain ⟨rfl, rfl, e76⟩ := hQ76
  rw [List.append_nil] at X76
  refine og st76 ?_
  refine og (fun _ k => XS.ifNo X76.here hx rfl (hb hby d42_150_19) rfl ((if0 _ _).trans (feq (by decide : ¬ (1 : Int32) = 0)).1) k) ?_
  refine og (fun _ k => XS.aloadN X76.here hx rfl (hb hby d42_150_22) rfl rfl k) ?_
  refine og (fun _ k => XS.iconst X76.here hx rfl (hb hby d42_150_23) k) ?_
  obtain ⟨T77, h77, X77, e77, W77, st77⟩ := putFN X76 hx hZ hown (own_g hw 26 rfl) Via.refl e76 Fc E (Or.inr ⟨(own_g hw 27 rfl), rfl, hnm⟩) (own_g hw 1 rfl) (ty := .byte) (v' := (.int (0 : Int32))) (by decide) rfl rfl (g := (mkF m 24 #[.val (.ref a), .val (.ref b), .val .null, .val (.ref d), .val (.int (Int32.ofNat bs.length))] [(.int (0 : Int32)), (.ref a)])) rfl rfl (hb hby d42_150_24)
  have Fw77 := Fc.same W77
  have N77 := Fr.snoc X77 N0 g_a
  have KK77 : Keep h0 h77 [a] := (Keep.refl h0 [a]).wr W77 (Or.inl (List.mem_of_getElem? (i := 0) rfl))
  refine og st77 ?_
  refine og (fun _ k => XS.aloadN X77.here hx rfl (hb hby d42_150_27) rfl rfl k) ?_
  refine og (fun _ k => XS.aloadN X77.here hx rfl (hb hby d42_150_28) rfl rfl k) ?_
  refine og (fun _ k => XS.iconst X77.here hx rfl (hb hby d42_150_29) k) ?_
  refine og (fun _ k => XS.iload X77.here hx rfl (hb hby d42_150_30) rfl k) ?_
  obtain ⟨v78, T78, L78, X78, hQ78, st78⟩ := scall X77 hx hZ hown (own_g hw 217 rfl) (own_g hw 218 rfl) (own_g hw 157 rfl) (own_g hw 219 rfl) (by decide) (W := 1) (rm_cor l Z a0 hw [] d k zn bs zc wf n0 h77 SS' (O.wr W77 g_a) (JV.other W77 nda) hzn hbz hbn (JX.wr W77)) e77 (by decide) (by decide) (by decide) (by decide) (g := (mkF m 32 #[.val (.ref a), .val (.ref b), .val .null, .val (.ref d), .val (.int (Int32.ofNat bs.length))] [(.int (Int32.ofNat bs.length)), (.int (0 : Int32)), (.ref d), (.ref a)])) rfl (by rw [hml]; rfl) (argsL := [(.ref d), (.int (0 : Int32)), (.int (Int32.ofNat bs.length))]) (rest := [(.ref a)]) opd_15 rfl rfl rfl (by show 2 * 0 + _ ≤ _; exact Nat.le_of_eq rfl) (hb hby d42_150_32)
  obtain ⟨r78, kr78, rfl, sr78, N78, K78, V78⟩ := hQ78
  have NN78 := Fr.app N77 N78
  have KK78 : Keep h0 T78.heap [a] := KK77.trans K78 all0
  have sz_r78 : h0.size ≤ r78 := Nat.le_trans KK77.1 sr78
  refine og st78 ?_
  have q80 := ((Fv.other W77 (Or.inr (slot_ne (Or.inr (own_g hw 29 rfl)) (Or.inr (own_g hw 27 rfl)) (by decide) (t := (.array .byte)) (t' := .byte) (by decide) (by decide)))).keep K78 nin0)
  obtain ⟨T79, h79, X79, e79, W79, st79⟩ := putF X78 hx hZ hown (host := "") (Or.inl (own_g hw 28 rfl)) Via.refl rfl q80 ((E.wr W77).keep K78) (Or.inr ⟨(own_g hw 29 rfl), rfl, hnm⟩) (own_g hw 1 rfl) (ty := (.array .byte)) (by decide) rfl rfl (g := (mkF m 35 #[.val (.ref a), .val (.ref b), .val .null, .val (.ref d), .val (.int (Int32.ofNat bs.length))] [(.ref r78), (.ref a)])) rfl rfl (hb hby d42_150_35)
  have Fw79 := q80.same W79
  have N79 := Fr.snoc X79 NN78 g_a
  have KK79 : Keep h0 h79 [a] := KK78.wr W79 (Or.inl (List.mem_of_getElem? (i := 0) rfl))
  refine og st79 ?_
  refine og (fun _ k => XS.goto X79.here hx rfl (pc0 := 38) (pc' := 97) rfl (hb hby d42_150_38) (by decide) (by decide) k) ?_
  have q81 := ((Fw77.keep K78 nin0).other W79 (Or.inr (slot_ne (Or.inr (own_g hw 27 rfl)) (Or.inr (own_g hw 29 rfl)) (by decide) (t := .byte) (t' := (.array .byte)) (by decide) (by decide))))
  have ne82 : r78 ≠ a := (Ne.symm (Nat.ne_of_lt (Nat.lt_of_lt_of_le E.lt sz_r78)))
  show OGo p e below _ T79 (mkF m 97 #[.val (.ref a), .val (.ref b), .val .null, .val (.ref d), .val (.int (Int32.ofNat bs.length))] [])
  exact OGo.retV X79 hx hret hlk (hb hby d42_150_97) (by decide) (by decide) (by rw [e79]; exact ⟨rfl, N79, KK79, r78, _, sz_r78, ⟨(((E.wr W77).keep K78).wr W79), q81, Fw79, (V78.other W79 ne82)⟩⟩)
theorem d42_53_0 : DK jdk_42_method_53_code 0 (.aload_n 0) 1 := by decide +kernel
theorem d42_53_1 : DK jdk_42_method_53_code 1 (.aload_n 1) 1 := by decide +kernel
theorem d42_53_2 : DK jdk_42_method_53_code 2 .aconst_null 1 := by decide +kernel
theorem opd_17 : parseMethodDescriptor "(Ljava/lang/AbstractStringBuilder;Ljava/lang/Void;)V" = some ⟨[(.object "java/lang/AbstractStringBuilder"), (.object "java/lang/Void")], none⟩ := by decide +kernel
theorem d42_53_3 : DK jdk_42_method_53_code 3 (.invokespecial 489) 3 := by decide +kernel
theorem d42_53_6 : DK jdk_42_method_53_code 6 .return_ 1 := by decide +kernel
theorem opl_rm_sisb : plainFor (⟨"java/lang/String", "<init>", "(Ljava/lang/StringBuilder;)V"⟩ : MethodName) = true := plainFor_of_name (by first | (simp [plainName, overriddenIn]; done) | decide +kernel)
theorem rm_sisb (l : Launch) (Z : State) (a0 : Array Value) (hw : ∀ d ∈ tables_1, d.before a0 Z = true) (ws : List Jvm.Cond) (a : Addr) (b d : Addr) (k : ClassId) (zn : Nat) (bs : List Value) (zc : Int32) (wf : Value) (n0 : Nat) (h0 : Heap) (SS : own_SS Z zc wf) (O : Old Z n0 h0) (J : SBI Z h0 b d k (Int32.ofNat zn) bs) (hzn : zn ≤ 142) (hbz : bs.length < zn) (hbn : bs.length ≤ 70) (E : Exa Z h0 a "java/lang/String") (Fc : Fld Z h0 a "java/lang/String" "coder" "B" (.int (0 : Int32))) (Fv : Fld Z h0 a "java/lang/String" "value" "[B" .null) (g_a : n0 ≤ a) (nba : b ≠ a) (nda : d ≠ a) :
    Con l Z (⟨"java/lang/String", "<init>", "(Ljava/lang/StringBuilder;)V"⟩ : MethodName) jdk_42_method_53_code 2 none ws ({ frames := 4, cells := 1, slots := 70, locals := 76 } : Room) #[(.ref a), (.ref b)] h0 (fun v h L => v = none ∧ Fr n0 L ∧ Keep h0 h [a] ∧ ∃ r k', h0.size ≤ r ∧ STI Z h a r k' bs) := by
  refine Con.intro opl_rm_sisb ?_
  intro p e s m below meth c s₁ hx hby hml hown hret hlk hZ hnm X0 e0
  have SS' := SS
  obtain ⟨hzc, SC, hwf, SF⟩ := SS
  have Z0 : n0 ≤ h0.size := O.1 ▸ O.2.1
  have N0 := Fr.nil n0
  obtain ⟨JE, JF, JC, JN, JV, JX⟩ := J
  refine OGo.cast (g' := (mkF m 0 #[.val (.ref a), .val (.ref b)] [])) (by first | (simp [entryFrame, mkF, argsToLocals, Value.category]; done) | rfl) ?_
  refine og (fun _ k => XS.aloadN X0.here hx rfl (hb hby d42_53_0) rfl rfl k) ?_
  refine og (fun _ k => XS.aloadN X0.here hx rfl (hb hby d42_53_1) rfl rfl k) ?_
  refine og (fun _ k => XS.aconstNull X0.here hx rfl (hb hby d42_53_2) k) ?_
  obtain ⟨v83, T83, L83, X83, hQ83, st83⟩ := icall X0 hx hZ rfl hown (own_g hw 200 rfl) (own_g hw 201 rfl) (own_g hw 2 rfl) (own_g hw 202 rfl) (by decide) (W := 0) (rm_sia l Z a0 hw [] a b d k zn bs zc wf n0 h0 SS' O ⟨JE, JF, JC, JN, JV, JX⟩ hzn hbz hbn E Fc Fv g_a nba nda) e0 (by decide) (by decide) (by decide) (by decide) (g := (mkF m 3 #[.val (.ref a), .val (.ref b)] [.null, (.ref b), (.ref a)])) rfl (by rw [hml]; rfl) (a := a) (argsL := [(.ref b), .null]) (rest := []) opd_17 rfl rfl rfl (by show 2 * 0 + _ ≤ _; exact Nat.le_of_eq rfl) (hb hby d42_53_3)
  obtain ⟨rfl, N83, K83, r83, kr83, sr83, I83⟩ := hQ83
  have NN83 := Fr.app N0 N83
  have KK83 : Keep h0 T83.heap [a] := (Keep.refl h0 [a]).trans K83 (allS (Or.inl (List.mem_of_getElem? (i := 0) rfl)) all0)
  refine og st83 ?_
  show OGo p e below _ T83 (mkF m 6 #[.val (.ref a), .val (.ref b)] [])
  exact OGo.retV X83 hx hret hlk (hb hby d42_53_6) (by decide) (by decide) ⟨rfl, NN83, KK83, r83, _, sr83, I83⟩
theorem d67_42_0 : DK jdk_67_method_42_code 0 (.new 18) 3 := by decide +kernel
theorem d67_42_3 : DK jdk_67_method_42_code 3 .dup 1 := by decide +kernel
theorem d67_42_4 : DK jdk_67_method_42_code 4 (.aload_n 0) 1 := by decide +kernel
theorem opd_18 : parseMethodDescriptor "(Ljava/lang/StringBuilder;)V" = some ⟨[(.object "java/lang/StringBuilder")], none⟩ := by decide +kernel
theorem d67_42_5 : DK jdk_67_method_42_code 5 (.invokespecial 137) 3 := by decide +kernel
theorem d67_42_8 : DK jdk_67_method_42_code 8 .areturn 1 := by decide +kernel
theorem opl_rm_toS : plainFor (⟨"java/lang/StringBuilder", "toString", "()Ljava/lang/String;"⟩ : MethodName) = true := plainFor_of_name (by first | (simp [plainName, overriddenIn]; done) | decide +kernel)
theorem rm_toS (l : Launch) (Z : State) (a0 : Array Value) (hw : ∀ d ∈ tables_1, d.before a0 Z = true) (ws : List Jvm.Cond) (b d : Addr) (k : ClassId) (zn : Nat) (bs : List Value) (zc : Int32) (wf : Value) (n0 : Nat) (h0 : Heap) (SS : own_SS Z zc wf) (O : Old Z n0 h0) (J : SBI Z h0 b d k (Int32.ofNat zn) bs) (hzn : zn ≤ 142) (hbz : bs.length < zn) (hbn : bs.length ≤ 70) :
    Con l Z (⟨"java/lang/StringBuilder", "toString", "()Ljava/lang/String;"⟩ : MethodName) jdk_67_method_42_code 1 (some (.object "java/lang/String")) ws ({ frames := 5, cells := 2, slots := 74, locals := 90 } : Room) #[(.ref b)] h0 (fun v h L => ∃ a r k', v = some (.ref a) ∧ h0.size ≤ a ∧ h0.size ≤ r ∧ Fr n0 L ∧ Keep h0 h [] ∧ STI Z h a r k' bs) := by
  refine Con.intro opl_rm_toS ?_
  intro p e s m below meth c s₁ hx hby hml hown hret hlk hZ hnm X0 e0
  have SS' := SS
  obtain ⟨hzc, SC, hwf, SF⟩ := SS
  have Z0 : n0 ≤ h0.size := O.1 ▸ O.2.1
  have N0 := Fr.nil n0
  obtain ⟨JE, JF, JC, JN, JV, JX⟩ := J
  refine OGo.cast (g' := (mkF m 0 #[.val (.ref b)] [])) (by first | (simp [entryFrame, mkF, argsToLocals, Value.category]; done) | rfl) ?_
  obtain ⟨T84, h84, X84, e84, E84, A84, D84, UN84, st84⟩ := newO X0 hx hZ hown (own_g hw 196 rfl) (own_g hw 1 rfl) (own_g hw 2 rfl) e0 (g := (mkF m 0 #[.val (.ref b)] [])) rfl (hb hby d67_42_0) (by decide) (by decide)
  obtain ⟨b84, g84⟩ : ∃ z, z = h0.size := ⟨_, rfl⟩
  rw [← g84] at A84 D84 UN84 st84
  have sz_b84 : h0.size ≤ b84 := Nat.le_trans (Keep.refl h0 []).1 (Nat.le_of_eq g84.symm)
  have KK84 : Keep h0 h84 [] := (Keep.refl h0 []).ext E84
  have F84_coder : Fld Z h84 b84 "java/lang/String" "coder" "B" (.int (0 : Int32)) := D84 (Or.inr (own_g hw 27 rfl)) (ty := .byte) (by decide)
  have F84_value : Fld Z h84 b84 "java/lang/String" "value" "[B" .null := D84 (Or.inr (own_g hw 29 rfl)) (ty := (.array .byte)) (by decide)
  refine og st84 ?_
  refine og (fun _ k => XS.dup X84.here hx rfl (hb hby d67_42_3) rfl rfl k) ?_
  refine og (fun _ k => XS.aloadN X84.here hx rfl (hb hby d67_42_4) rfl rfl k) ?_
  obtain ⟨v85, T85, L85, X85, hQ85, st85⟩ := icall X84 hx hZ rfl hown (own_g hw 197 rfl) (own_g hw 198 rfl) (own_g hw 2 rfl) (own_g hw 199 rfl) (by decide) (W := 1) (rm_sisb l Z a0 hw [] b84 b d k zn bs zc wf n0 h84 SS' (O.ext E84) ⟨(JE.ext E84), (JF.ext E84), (JC.ext E84), (JN.ext E84), (JV.ext E84), (JX.ext E84)⟩ hzn hbz hbn A84 F84_coder F84_value (Nat.le_trans Z0 sz_b84) (Nat.ne_of_lt (Nat.lt_of_lt_of_le JE.lt sz_b84)) (Nat.ne_of_lt (Nat.lt_of_lt_of_le JV.lt sz_b84))) e84 (by decide) (by decide) (by decide) (by decide) (g := (mkF m 5 #[.val (.ref b)] [(.ref b), (.ref b84), (.ref b84)])) rfl (by rw [hml]; rfl) (a := b84) (argsL := [(.ref b)]) (rest := [(.ref b84)]) opd_18 rfl rfl rfl (by show 2 * 0 + _ ≤ _; exact Nat.le_of_eq rfl) (hb hby d67_42_5)
  obtain ⟨rfl, N85, K85, r85, kr85, sr85, I85⟩ := hQ85
  have NN85 := Fr.app N0 N85
  have KK85 : Keep h0 T85.heap [] := KK84.trans K85 (allS (Or.inr sz_b84) all0)
  have sz_r85 : h0.size ≤ r85 := Nat.le_trans KK84.1 sr85
  refine og st85 ?_
  show OGo p e below _ T85 (mkF m 8 #[.val (.ref b)] [(.ref b84)])
  exact OGo.ret X85 hx (t := (.object "java/lang/String")) hret hlk rfl (Or.inr (Or.inr (Or.inr (Or.inr ⟨rfl, rfl, rfl⟩)))) (hb hby d67_42_8) (by decide) (by decide) ⟨b84, r85, _, rfl, sz_b84, sz_r85, NN85, KK85, I85⟩
theorem d35_15_0 : DK jdk_35_method_15_code 0 (.iconst 1) 1 := by decide +kernel
theorem d35_15_1 : DK jdk_35_method_15_code 1 (.istore_n 2) 1 := by decide +kernel
theorem d35_15_2 : DK jdk_35_method_15_code 2 (.lload_n 0) 1 := by decide +kernel
theorem d35_15_3 : DK jdk_35_method_15_code 3 (.lconst 0) 1 := by decide +kernel
theorem d35_15_4 : DK jdk_35_method_15_code 4 .lcmp 1 := by decide +kernel
theorem d35_15_13 : DK jdk_35_method_15_code 13 (.ldc2_w 140) 3 := by decide +kernel
theorem d35_15_16 : DK jdk_35_method_15_code 16 (.lstore_n 3) 1 := by decide +kernel
theorem d35_15_17 : DK jdk_35_method_15_code 17 (.iconst 1) 1 := by decide +kernel
theorem d35_15_18 : DK jdk_35_method_15_code 18 (.istore 5) 2 := by decide +kernel
theorem d35_15_20 : DK jdk_35_method_15_code 20 (.iload 5) 2 := by decide +kernel
theorem d35_15_22 : DK jdk_35_method_15_code 22 (.bipush 19) 2 := by decide +kernel
theorem d35_15_24 : DK jdk_35_method_15_code 24 (.if_icmp .ge 26) 3 := by decide +kernel
theorem d35_15_27 : DK jdk_35_method_15_code 27 (.lload_n 0) 1 := by decide +kernel
theorem d35_15_28 : DK jdk_35_method_15_code 28 (.lload_n 3) 1 := by decide +kernel
theorem d35_15_29 : DK jdk_35_method_15_code 29 .lcmp 1 := by decide +kernel
theorem d35_15_30 : DK jdk_35_method_15_code 30 (.ifCond .le 8) 3 := by decide +kernel
theorem d35_15_33 : DK jdk_35_method_15_code 33 (.iload 5) 2 := by decide +kernel
theorem d35_15_35 : DK jdk_35_method_15_code 35 (.iload_n 2) 1 := by decide +kernel
theorem d35_15_36 : DK jdk_35_method_15_code 36 .iadd 1 := by decide +kernel
theorem d35_15_37 : DK jdk_35_method_15_code 37 .ireturn 1 := by decide +kernel
theorem d35_15_38 : DK jdk_35_method_15_code 38 (.ldc2_w 53) 3 := by decide +kernel
theorem d35_15_41 : DK jdk_35_method_15_code 41 (.lload_n 3) 1 := by decide +kernel
theorem d35_15_42 : DK jdk_35_method_15_code 42 .lmul 1 := by decide +kernel
theorem d35_15_43 : DK jdk_35_method_15_code 43 (.lstore_n 3) 1 := by decide +kernel
theorem d35_15_44 : DK jdk_35_method_15_code 44 (.iinc 5 1) 3 := by decide +kernel
theorem d35_15_47 : DK jdk_35_method_15_code 47 (.goto (-27)) 3 := by decide +kernel
theorem d35_15_50 : DK jdk_35_method_15_code 50 (.bipush 19) 2 := by decide +kernel
theorem d35_15_52 : DK jdk_35_method_15_code 52 (.iload_n 2) 1 := by decide +kernel
theorem d35_15_53 : DK jdk_35_method_15_code 53 .iadd 1 := by decide +kernel
theorem d35_15_54 : DK jdk_35_method_15_code 54 .ireturn 1 := by decide +kernel
theorem d35_15_5 : DK jdk_35_method_15_code 5 (.ifCond .lt 8) 3 := by decide +kernel
theorem d35_15_8 : DK jdk_35_method_15_code 8 (.iconst 0) 1 := by decide +kernel
theorem d35_15_9 : DK jdk_35_method_15_code 9 (.istore_n 2) 1 := by decide +kernel
theorem d35_15_10 : DK jdk_35_method_15_code 10 (.lload_n 0) 1 := by decide +kernel
theorem d35_15_11 : DK jdk_35_method_15_code 11 .lneg 1 := by decide +kernel
theorem d35_15_12 : DK jdk_35_method_15_code 12 (.lstore_n 0) 1 := by decide +kernel
theorem opl_rm_ssJ : plainFor (⟨"java/lang/Long", "stringSize", "(J)I"⟩ : MethodName) = true := plainFor_of_name (by first | (simp [plainName, overriddenIn]; done) | decide +kernel)
theorem rm_ssJ (l : Launch) (Z : State) (a0 : Array Value) (hw : ∀ d ∈ tables_1, d.before a0 Z = true) (ws : List Jvm.Cond) (v : Int64) (n : Nat) (h0 : Heap) (hm : own_mag v n) :
    Con l Z (⟨"java/lang/Long", "stringSize", "(J)I"⟩ : MethodName) jdk_35_method_15_code 6 (some .int) ws ({ frames := 0, cells := 0, slots := 0, locals := 0 } : Room) #[(.long v)] h0 (fun v' h L => v' = some (.int (Int32.ofNat (own_wl n + own_sg v))) ∧ L = [] ∧ h = h0) := by
  refine Con.intro opl_rm_ssJ ?_
  intro p e s m below meth c s₁ hx hby hml hown hret hlk hZ hnm X0 e0
  refine OGo.cast (g' := (mkF m 0 #[.val (.long v), .second, .unset, .unset, .unset, .unset] [])) (by first | (simp [entryFrame, mkF, argsToLocals, Value.category]; done) | rfl) ?_
  have hn2 : n ≤ 2 ^ 63 := hm.1
  refine og (fun _ k => XS.iconst X0.here hx rfl (hb hby d35_15_0) k) ?_
  refine og (fun _ k => XS.istoreN X0.here hx rfl (hb hby d35_15_1) rfl (l' := #[.val (.long v), .second, .val (.int (1 : Int32)), .unset, .unset, .unset]) rfl k) ?_
  refine og (fun _ k => XS.lloadN X0.here hx rfl (hb hby d35_15_2) rfl k) ?_
  refine og (fun _ k => XS.lconst X0.here hx rfl (hb hby d35_15_3) k) ?_
  refine og (fun _ k => XS.lcmp X0.here hx rfl (hb hby d35_15_4) rfl k) ?_
  have K13 : ∀ s2 : Nat, s2 = own_sg v → OGo p e below (EndQ s ({ frames := 0, cells := 0, slots := 0, locals := 0 } : Room) (fun v' h L => v' = some (.int (Int32.ofNat (own_wl n + own_sg v))) ∧ L = [] ∧ h = h0)) s₁ (mkF m 13 #[.val (.long (Jvm.Free.SBG.negL (n))), .second, .val (.int (Int32.ofNat s2)), .unset, .unset, .unset] []) := by
    intro s2 hs2
    refine og (fun _ k => Jvm.Stand.ldc2J X0 hx hown (mvT hZ (own_g hw 177 rfl)) rfl (hb hby d35_15_13) k) ?_
    refine og (fun _ k => XS.lstoreN X0.here hx rfl (hb hby d35_15_16) rfl (l' := #[.val (.long (Jvm.Free.SBG.negL (n))), .second, .val (.int (Int32.ofNat s2)), .val (.long (-10 : Int64)), .second, .unset]) rfl k) ?_
    refine og (fun _ k => XS.iconst X0.here hx rfl (hb hby d35_15_17) k) ?_
    refine og (fun _ k => XS.istore X0.here hx rfl (hb hby d35_15_18) rfl (l' := #[.val (.long (Jvm.Free.SBG.negL (n))), .second, .val (.int (Int32.ofNat s2)), .val (.long (-10 : Int64)), .second, .val (.int (1 : Int32))]) rfl k) ?_
    refine og (fun _ k => XS.iload X0.here hx rfl (hb hby d35_15_20) rfl k) ?_
    refine og (fun _ k => XS.bipush X0.here hx rfl (hb hby d35_15_22) k) ?_
    refine og (fun _ k => XS.icmpNo X0.here hx rfl (hb hby d35_15_24) rfl (tlt (by decide : (1 : Int32) < 19)).2.1 k) ?_
    refine og (fun _ k => XS.lloadN X0.here hx rfl (hb hby d35_15_27) rfl k) ?_
    refine og (fun _ k => XS.lloadN X0.here hx rfl (hb hby d35_15_28) rfl k) ?_
    refine og (fun _ k => XS.lcmp X0.here hx rfl (hb hby d35_15_29) rfl k) ?_
    have c1 := Jvm.Free.SBG.negL_lt hn2 10 (by decide)
    rw [show Jvm.Free.SBG.negL 10 = (-10 : Int64) from by decide +kernel] at c1
    by_cases q1 : n < 10
    case pos =>
      refine og (fun _ k => XS.ifNo X0.here hx rfl (hb hby d35_15_30) rfl ((if0 _ _).trans (tlt ((lw_gt _ _).mpr (c1.mpr q1))).2.2.2) k) ?_
      refine og (fun _ k => XS.iload X0.here hx rfl (hb hby d35_15_33) rfl k) ?_
      refine og (fun _ k => XS.iloadN X0.here hx rfl (hb hby d35_15_35) rfl k) ?_
      refine og (fun _ k => XS.iadd X0.here hx rfl (hb hby d35_15_36) rfl k) ?_
      show OGo p e below _ s₁ (mkF m 37 #[.val (.long (Jvm.Free.SBG.negL (n))), .second, .val (.int (Int32.ofNat s2)), .val (.long (-10 : Int64)), .second, .val (.int (1 : Int32))] [(.int ((1 : Int32) + (Int32.ofNat s2)))])
      exact OGo.ret X0 hx (t := .int) hret hlk rfl (Or.inl ⟨rfl, by simp, _, rfl⟩) (hb hby d35_15_37) (by decide) (by decide) ⟨by rw [own_wl1  q1, ← hs2, ← own_addn]; rfl, rfl, e0⟩
    refine og (fun _ k => XS.ifYes X0.here hx rfl (pc0 := 30) (pc' := 38) rfl (hb hby d35_15_30) rfl ((if0 _ _).trans (flt (fun h => q1 (c1.mp ((lw_gt _ _).mp h)))).2.2.2) (by decide) (by decide) k) ?_
    refine og (fun _ k => Jvm.Stand.ldc2J X0 hx hown (mvT hZ (own_g hw 282 rfl)) rfl (hb hby d35_15_38) k) ?_
    refine og (fun _ k => XS.lloadN X0.here hx rfl (hb hby d35_15_41) rfl k) ?_
    refine og (fun _ k => XS.lmul X0.here hx rfl (hb hby d35_15_42) rfl k) ?_
    show OGo p e below _ s₁ (mkF m 43 #[.val (.long (Jvm.Free.SBG.negL (n))), .second, .val (.int (Int32.ofNat s2)), .val (.long (-10 : Int64)), .second, .val (.int (1 : Int32))] [(.long ((10 : Int64) * (-10 : Int64)))])
    rw [show ((10 : Int64) * (-10 : Int64)) = (-100 : Int64) from by decide]
    refine og (fun _ k => XS.lstoreN X0.here hx rfl (hb hby d35_15_43) rfl (l' := #[.val (.long (Jvm.Free.SBG.negL (n))), .second, .val (.int (Int32.ofNat s2)), .val (.long (-100 : Int64)), .second, .val (.int (1 : Int32))]) rfl k) ?_
    refine og (fun _ k => XS.iinc X0.here hx rfl (hb hby d35_15_44) rfl (l' := #[.val (.long (Jvm.Free.SBG.negL (n))), .second, .val (.int (Int32.ofNat s2)), .val (.long (-100 : Int64)), .second, .val (.int ((1 : Int32) + (1 : Int32)))]) rfl k) ?_
    show OGo p e below _ s₁ (mkF m 47 #[.val (.long (Jvm.Free.SBG.negL (n))), .second, .val (.int (Int32.ofNat s2)), .val (.long (-100 : Int64)), .second, .val (.int ((1 : Int32) + (1 : Int32)))] [])
    rw [show ((1 : Int32) + (1 : Int32)) = (2 : Int32) from by decide]
    refine og (fun _ k => XS.goto X0.here hx rfl (pc0 := 47) (pc' := 20) rfl (hb hby d35_15_47) (by decide) (by decide) k) ?_
    refine og (fun _ k => XS.iload X0.here hx rfl (hb hby d35_15_20) rfl k) ?_
    refine og (fun _ k => XS.bipush X0.here hx rfl (hb hby d35_15_22) k) ?_
    refine og (fun _ k => XS.icmpNo X0.here hx rfl (hb hby d35_15_24) rfl (tlt (by decide : (2 : Int32) < 19)).2.1 k) ?_
    refine og (fun _ k => XS.lloadN X0.here hx rfl (hb hby d35_15_27) rfl k) ?_
    refine og (fun _ k => XS.lloadN X0.here hx rfl (hb hby d35_15_28) rfl k) ?_
    refine og (fun _ k => XS.lcmp X0.here hx rfl (hb hby d35_15_29) rfl k) ?_
    have c2 := Jvm.Free.SBG.negL_lt hn2 100 (by decide)
    rw [show Jvm.Free.SBG.negL 100 = (-100 : Int64) from by decide +kernel] at c2
    by_cases q2 : n < 100
    case pos =>
      refine og (fun _ k => XS.ifNo X0.here hx rfl (hb hby d35_15_30) rfl ((if0 _ _).trans (tlt ((lw_gt _ _).mpr (c2.mpr q2))).2.2.2) k) ?_
      refine og (fun _ k => XS.iload X0.here hx rfl (hb hby d35_15_33) rfl k) ?_
      refine og (fun _ k => XS.iloadN X0.here hx rfl (hb hby d35_15_35) rfl k) ?_
      refine og (fun _ k => XS.iadd X0.here hx rfl (hb hby d35_15_36) rfl k) ?_
      show OGo p e below _ s₁ (mkF m 37 #[.val (.long (Jvm.Free.SBG.negL (n))), .second, .val (.int (Int32.ofNat s2)), .val (.long (-100 : Int64)), .second, .val (.int (2 : Int32))] [(.int ((2 : Int32) + (Int32.ofNat s2)))])
      exact OGo.ret X0 hx (t := .int) hret hlk rfl (Or.inl ⟨rfl, by simp, _, rfl⟩) (hb hby d35_15_37) (by decide) (by decide) ⟨by rw [own_wl2 (by omega) q2, ← hs2, ← own_addn]; rfl, rfl, e0⟩
    refine og (fun _ k => XS.ifYes X0.here hx rfl (pc0 := 30) (pc' := 38) rfl (hb hby d35_15_30) rfl ((if0 _ _).trans (flt (fun h => q2 (c2.mp ((lw_gt _ _).mp h)))).2.2.2) (by decide) (by decide) k) ?_
    refine og (fun _ k => Jvm.Stand.ldc2J X0 hx hown (mvT hZ (own_g hw 282 rfl)) rfl (hb hby d35_15_38) k) ?_
    refine og (fun _ k => XS.lloadN X0.here hx rfl (hb hby d35_15_41) rfl k) ?_
    refine og (fun _ k => XS.lmul X0.here hx rfl (hb hby d35_15_42) rfl k) ?_
    show OGo p e below _ s₁ (mkF m 43 #[.val (.long (Jvm.Free.SBG.negL (n))), .second, .val (.int (Int32.ofNat s2)), .val (.long (-100 : Int64)), .second, .val (.int (2 : Int32))] [(.long ((10 : Int64) * (-100 : Int64)))])
    rw [show ((10 : Int64) * (-100 : Int64)) = (-1000 : Int64) from by decide]
    refine og (fun _ k => XS.lstoreN X0.here hx rfl (hb hby d35_15_43) rfl (l' := #[.val (.long (Jvm.Free.SBG.negL (n))), .second, .val (.int (Int32.ofNat s2)), .val (.long (-1000 : Int64)), .second, .val (.int (2 : Int32))]) rfl k) ?_
    refine og (fun _ k => XS.iinc X0.here hx rfl (hb hby d35_15_44) rfl (l' := #[.val (.long (Jvm.Free.SBG.negL (n))), .second, .val (.int (Int32.ofNat s2)), .val (.long (-1000 : Int64)), .second, .val (.int ((2 : Int32) + (1 : Int32)))]) rfl k) ?_
    show OGo p e below _ s₁ (mkF m 47 #[.val (.long (Jvm.Free.SBG.negL (n))), .second, .val (.int (Int32.ofNat s2)), .val (.long (-1000 : Int64)), .second, .val (.int ((2 : Int32) + (1 : Int32)))] [])
    rw [show ((2 : Int32) + (1 : Int32)) = (3 : Int32) from by decide]
    refine og (fun _ k => XS.goto X0.here hx rfl (pc0 := 47) (pc' := 20) rfl (hb hby d35_15_47) (by decide) (by decide) k) ?_
    refine og (fun _ k => XS.iload X0.here hx rfl (hb hby d35_15_20) rfl k) ?_
    refine og (fun _ k => XS.bipush X0.here hx rfl (hb hby d35_15_22) k) ?_
    refine og (fun _ k => XS.icmpNo X0.here hx rfl (hb hby d35_15_24) rfl (tlt (by decide : (3 : Int32) < 19)).2.1 k) ?_
    refine og (fun _ k => XS.lloadN X0.here hx rfl (hb hby d35_15_27) rfl k) ?_
    refine og (fun _ k => XS.lloadN X0.here hx rfl (hb hby d35_15_28) rfl k) ?_
    refine og (fun _ k => XS.lcmp X0.here hx rfl (hb hby d35_15_29) rfl k) ?_
    have c3 := Jvm.Free.SBG.negL_lt hn2 1000 (by decide)
    rw [show Jvm.Free.SBG.negL 1000 = (-1000 : Int64) from by decide +kernel] at c3
    by_cases q3 : n < 1000
    case pos =>
      refine og (fun _ k => XS.ifNo X0.here hx rfl (hb hby d35_15_30) rfl ((if0 _ _).trans (tlt ((lw_gt _ _).mpr (c3.mpr q3))).2.2.2) k) ?_
      refine og (fun _ k => XS.iload X0.here hx rfl (hb hby d35_15_33) rfl k) ?_
      refine og (fun _ k => XS.iloadN X0.here hx rfl (hb hby d35_15_35) rfl k) ?_
      refine og (fun _ k => XS.iadd X0.here hx rfl (hb hby d35_15_36) rfl k) ?_
      show OGo p e below _ s₁ (mkF m 37 #[.val (.long (Jvm.Free.SBG.negL (n))), .second, .val (.int (Int32.ofNat s2)), .val (.long (-1000 : Int64)), .second, .val (.int (3 : Int32))] [(.int ((3 : Int32) + (Int32.ofNat s2)))])
      exact OGo.ret X0 hx (t := .int) hret hlk rfl (Or.inl ⟨rfl, by simp, _, rfl⟩) (hb hby d35_15_37) (by decide) (by decide) ⟨by rw [own_wl3 (by omega) q3, ← hs2, ← own_addn]; rfl, rfl, e0⟩
    refine og (fun _ k => XS.ifYes X0.here hx rfl (pc0 := 30) (pc' := 38) rfl (hb hby d35_15_30) rfl ((if0 _ _).trans (flt (fun h => q3 (c3.mp ((lw_gt _ _).mp h)))).2.2.2) (by decide) (by decide) k) ?_
    refine og (fun _ k => Jvm.Stand.ldc2J X0 hx hown (mvT hZ (own_g hw 282 rfl)) rfl (hb hby d35_15_38) k) ?_
    refine og (fun _ k => XS.lloadN X0.here hx rfl (hb hby d35_15_41) rfl k) ?_
    refine og (fun _ k => XS.lmul X0.here hx rfl (hb hby d35_15_42) rfl k) ?_
    show OGo p e below _ s₁ (mkF m 43 #[.val (.long (Jvm.Free.SBG.negL (n))), .second, .val (.int (Int32.ofNat s2)), .val (.long (-1000 : Int64)), .second, .val (.int (3 : Int32))] [(.long ((10 : Int64) * (-1000 : Int64)))])
    rw [show ((10 : Int64) * (-1000 : Int64)) = (-10000 : Int64) from by decide]
    refine og (fun _ k => XS.lstoreN X0.here hx rfl (hb hby d35_15_43) rfl (l' := #[.val (.long (Jvm.Free.SBG.negL (n))), .second, .val (.int (Int32.ofNat s2)), .val (.long (-10000 : Int64)), .second, .val (.int (3 : Int32))]) rfl k) ?_
    refine og (fun _ k => XS.iinc X0.here hx rfl (hb hby d35_15_44) rfl (l' := #[.val (.long (Jvm.Free.SBG.negL (n))), .second, .val (.int (Int32.ofNat s2)), .val (.long (-10000 : Int64)), .second, .val (.int ((3 : Int32) + (1 : Int32)))]) rfl k) ?_
    show OGo p e below _ s₁ (mkF m 47 #[.val (.long (Jvm.Free.SBG.negL (n))), .second, .val (.int (Int32.ofNat s2)), .val (.long (-10000 : Int64)), .second, .val (.int ((3 : Int32) + (1 : Int32)))] [])
    rw [show ((3 : Int32) + (1 : Int32)) = (4 : Int32) from by decide]
    refine og (fun _ k => XS.goto X0.here hx rfl (pc0 := 47) (pc' := 20) rfl (hb hby d35_15_47) (by decide) (by decide) k) ?_
    refine og (fun _ k => XS.iload X0.here hx rfl (hb hby d35_15_20) rfl k) ?_
    refine og (fun _ k => XS.bipush X0.here hx rfl (hb hby d35_15_22) k) ?_
    refine og (fun _ k => XS.icmpNo X0.here hx rfl (hb hby d35_15_24) rfl (tlt (by decide : (4 : Int32) < 19)).2.1 k) ?_
    refine og (fun _ k => XS.lloadN X0.here hx rfl (hb hby d35_15_27) rfl k) ?_
    refine og (fun _ k => XS.lloadN X0.here hx rfl (hb hby d35_15_28) rfl k) ?_
    refine og (fun _ k => XS.lcmp X0.here hx rfl (hb hby d35_15_29) rfl k) ?_
    have c4 := Jvm.Free.SBG.negL_lt hn2 10000 (by decide)
    rw [show Jvm.Free.SBG.negL 10000 = (-10000 : Int64) from by decide +kernel] at c4
    by_cases q4 : n < 10000
    case pos =>
      refine og (fun _ k => XS.ifNo X0.here hx rfl (hb hby d35_15_30) rfl ((if0 _ _).trans (tlt ((lw_gt _ _).mpr (c4.mpr q4))).2.2.2) k) ?_
      refine og (fun _ k => XS.iload X0.here hx rfl (hb hby d35_15_33) rfl k) ?_
      refine og (fun _ k => XS.iloadN X0.here hx rfl (hb hby d35_15_35) rfl k) ?_
      refine og (fun _ k => XS.iadd X0.here hx rfl (hb hby d35_15_36) rfl k) ?_
      show OGo p e below _ s₁ (mkF m 37 #[.val (.long (Jvm.Free.SBG.negL (n))), .second, .val (.int (Int32.ofNat s2)), .val (.long (-10000 : Int64)), .second, .val (.int (4 : Int32))] [(.int ((4 : Int32) + (Int32.ofNat s2)))])
      exact OGo.ret X0 hx (t := .int) hret hlk rfl (Or.inl ⟨rfl, by simp, _, rfl⟩) (hb hby d35_15_37) (by decide) (by decide) ⟨by rw [own_wl4 (by omega) q4, ← hs2, ← own_addn]; rfl, rfl, e0⟩
    refine og (fun _ k => XS.ifYes X0.here hx rfl (pc0 := 30) (pc' := 38) rfl (hb hby d35_15_30) rfl ((if0 _ _).trans (flt (fun h => q4 (c4.mp ((lw_gt _ _).mp h)))).2.2.2) (by decide) (by decide) k) ?_
    refine og (fun _ k => Jvm.Stand.ldc2J X0 hx hown (mvT hZ (own_g hw 282 rfl)) rfl (hb hby d35_15_38) k) ?_
    refine og (fun _ k => XS.lloadN X0.here hx rfl (hb hby d35_15_41) rfl k) ?_
    refine og (fun _ k => XS.lmul X0.here hx rfl (hb hby d35_15_42) rfl k) ?_
    show OGo p e below _ s₁ (mkF m 43 #[.val (.long (Jvm.Free.SBG.negL (n))), .second, .val (.int (Int32.ofNat s2)), .val (.long (-10000 : Int64)), .second, .val (.int (4 : Int32))] [(.long ((10 : Int64) * (-10000 : Int64)))])
    rw [show ((10 : Int64) * (-10000 : Int64)) = (-100000 : Int64) from by decide]
    refine og (fun _ k => XS.lstoreN X0.here hx rfl (hb hby d35_15_43) rfl (l' := #[.val (.long (Jvm.Free.SBG.negL (n))), .second, .val (.int (Int32.ofNat s2)), .val (.long (-100000 : Int64)), .second, .val (.int (4 : Int32))]) rfl k) ?_
    refine og (fun _ k => XS.iinc X0.here hx rfl (hb hby d35_15_44) rfl (l' := #[.val (.long (Jvm.Free.SBG.negL (n))), .second, .val (.int (Int32.ofNat s2)), .val (.long (-100000 : Int64)), .second, .val (.int ((4 : Int32) + (1 : Int32)))]) rfl k) ?_
    show OGo p e below _ s₁ (mkF m 47 #[.val (.long (Jvm.Free.SBG.negL (n))), .second, .val (.int (Int32.ofNat s2)), .val (.long (-100000 : Int64)), .second, .val (.int ((4 : Int32) + (1 : Int32)))] [])
    rw [show ((4 : Int32) + (1 : Int32)) = (5 : Int32) from by decide]
    refine og (fun _ k => XS.goto X0.here hx rfl (pc0 := 47) (pc' := 20) rfl (hb hby d35_15_47) (by decide) (by decide) k) ?_
    refine og (fun _ k => XS.iload X0.here hx rfl (hb hby d35_15_20) rfl k) ?_
    refine og (fun _ k => XS.bipush X0.here hx rfl (hb hby d35_15_22) k) ?_
    refine og (fun _ k => XS.icmpNo X0.here hx rfl (hb hby d35_15_24) rfl (tlt (by decide : (5 : Int32) < 19)).2.1 k) ?_
    refine og (fun _ k => XS.lloadN X0.here hx rfl (hb hby d35_15_27) rfl k) ?_
    refine og (fun _ k => XS.lloadN X0.here hx rfl (hb hby d35_15_28) rfl k) ?_
    refine og (fun _ k => XS.lcmp X0.here hx rfl (hb hby d35_15_29) rfl k) ?_
    have c5 := Jvm.Free.SBG.negL_lt hn2 100000 (by decide)
    rw [show Jvm.Free.SBG.negL 100000 = (-100000 : Int64) from by decide +kernel] at c5
    by_cases q5 : n < 100000
    case pos =>
      refine og (fun _ k => XS.ifNo X0.here hx rfl (hb hby d35_15_30) rfl ((if0 _ _).trans (tlt ((lw_gt _ _).mpr (c5.mpr q5))).2.2.2) k) ?_
      refine og (fun _ k => XS.iload X0.here hx rfl (hb hby d35_15_33) rfl k) ?_
      refine og (fun _ k => XS.iloadN X0.here hx rfl (hb hby d35_15_35) rfl k) ?_
      refine og (fun _ k => XS.iadd X0.here hx rfl (hb hby d35_15_36) rfl k) ?_
      show OGo p e below _ s₁ (mkF m 37 #[.val (.long (Jvm.Free.SBG.negL (n))), .second, .val (.int (Int32.ofNat s2)), .val (.long (-100000 : Int64)), .second, .val (.int (5 : Int32))] [(.int ((5 : Int32) + (Int32.ofNat s2)))])
      exact OGo.ret X0 hx (t := .int) hret hlk rfl (Or.inl ⟨rfl, by simp, _, rfl⟩) (hb hby d35_15_37) (by decide) (by decide) ⟨by rw [own_wl5 (by omega) q5, ← hs2, ← own_addn]; rfl, rfl, e0⟩
    refine og (fun _ k => XS.ifYes X0.here hx rfl (pc0 := 30) (pc' := 38) rfl (hb hby d35_15_30) rfl ((if0 _ _).trans (flt (fun h => q5 (c5.mp ((lw_gt _ _).mp h)))).2.2.2) (by decide) (by decide) k) ?_
    refine og (fun _ k => Jvm.Stand.ldc2J X0 hx hown (mvT hZ (own_g hw 282 rfl)) rfl (hb hby d35_15_38) k) ?_
    refine og (fun _ k => XS.lloadN X0.here hx rfl (hb hby d35_15_41) rfl k) ?_
    refine og (fun _ k => XS.lmul X0.here hx rfl (hb hby d35_15_42) rfl k) ?_
    show OGo p e below _ s₁ (mkF m 43 #[.val (.long (Jvm.Free.SBG.negL (n))), .second, .val (.int (Int32.ofNat s2)), .val (.long (-100000 : Int64)), .second, .val (.int (5 : Int32))] [(.long ((10 : Int64) * (-100000 : Int64)))])
    rw [show ((10 : Int64) * (-100000 : Int64)) = (-1000000 : Int64) from by decide]
    refine og (fun _ k => XS.lstoreN X0.here hx rfl (hb hby d35_15_43) rfl (l' := #[.val (.long (Jvm.Free.SBG.negL (n))), .second, .val (.int (Int32.ofNat s2)), .val (.long (-1000000 : Int64)), .second, .val (.int (5 : Int32))]) rfl k) ?_
    refine og (fun _ k => XS.iinc X0.here hx rfl (hb hby d35_15_44) rfl (l' := #[.val (.long (Jvm.Free.SBG.negL (n))), .second, .val (.int (Int32.ofNat s2)), .val (.long (-1000000 : Int64)), .second, .val (.int ((5 : Int32) + (1 : Int32)))]) rfl k) ?_
    show OGo p e below _ s₁ (mkF m 47 #[.val (.long (Jvm.Free.SBG.negL (n))), .second, .val (.int (Int32.ofNat s2)), .val (.long (-1000000 : Int64)), .second, .val (.int ((5 : Int32) + (1 : Int32)))] [])
    rw [show ((5 : Int32) + (1 : Int32)) = (6 : Int32) from by decide]
    refine og (fun _ k => XS.goto X0.here hx rfl (pc0 := 47) (pc' := 20) rfl (hb hby d35_15_47) (by decide) (by decide) k) ?_
    refine og (fun _ k => XS.iload X0.here hx rfl (hb hby d35_15_20) rfl k) ?_
    refine og (fun _ k => XS.bipush X0.here hx rfl (hb hby d35_15_22) k) ?_
    refine og (fun _ k => XS.icmpNo X0.here hx rfl (hb hby d35_15_24) rfl (tlt (by decide : (6 : Int32) < 19)).2.1 k) ?_
    refine og (fun _ k => XS.lloadN X0.here hx rfl (hb hby d35_15_27) rfl k) ?_
    refine og (fun _ k => XS.lloadN X0.here hx rfl (hb hby d35_15_28) rfl k) ?_
    refine og (fun _ k => XS.lcmp X0.here hx rfl (hb hby d35_15_29) rfl k) ?_
    have c6 := Jvm.Free.SBG.negL_lt hn2 1000000 (by decide)
    rw [show Jvm.Free.SBG.negL 1000000 = (-1000000 : Int64) from by decide +kernel] at c6
    by_cases q6 : n < 1000000
    case pos =>
      refine og (fun _ k => XS.ifNo X0.here hx rfl (hb hby d35_15_30) rfl ((if0 _ _).trans (tlt ((lw_gt _ _).mpr (c6.mpr q6))).2.2.2) k) ?_
      refine og (fun _ k => XS.iload X0.here hx rfl (hb hby d35_15_33) rfl k) ?_
      refine og (fun _ k => XS.iloadN X0.here hx rfl (hb hby d35_15_35) rfl k) ?_
      refine og (fun _ k => XS.iadd X0.here hx rfl (hb hby d35_15_36) rfl k) ?_
      show OGo p e below _ s₁ (mkF m 37 #[.val (.long (Jvm.Free.SBG.negL (n))), .second, .val (.int (Int32.ofNat s2)), .val (.long (-1000000 : Int64)), .second, .val (.int (6 : Int32))] [(.int ((6 : Int32) + (Int32.ofNat s2)))])
      exact OGo.ret X0 hx (t := .int) hret hlk rfl (Or.inl ⟨rfl, by simp, _, rfl⟩) (hb hby d35_15_37) (by decide) (by decide) ⟨by rw [own_wl6 (by omega) q6, ← hs2, ← own_addn]; rfl, rfl, e0⟩
    refine og (fun _ k => XS.ifYes X0.here hx rfl (pc0 := 30) (pc' := 38) rfl (hb hby d35_15_30) rfl ((if0 _ _).trans (flt (fun h => q6 (c6.mp ((lw_gt _ _).mp h)))).2.2.2) (by decide) (by decide) k) ?_
    refine og (fun _ k => Jvm.Stand.ldc2J X0 hx hown (mvT hZ (own_g hw 282 rfl)) rfl (hb hby d35_15_38) k) ?_
    refine og (fun _ k => XS.lloadN X0.here hx rfl (hb hby d35_15_41) rfl k) ?_
    refine og (fun _ k => XS.lmul X0.here hx rfl (hb hby d35_15_42) rfl k) ?_
    show OGo p e below _ s₁ (mkF m 43 #[.val (.long (Jvm.Free.SBG.negL (n))), .second, .val (.int (Int32.ofNat s2)), .val (.long (-1000000 : Int64)), .second, .val (.int (6 : Int32))] [(.long ((10 : Int64) * (-1000000 : Int64)))])
    rw [show ((10 : Int64) * (-1000000 : Int64)) = (-10000000 : Int64) from by decide]
    refine og (fun _ k => XS.lstoreN X0.here hx rfl (hb hby d35_15_43) rfl (l' := #[.val (.long (Jvm.Free.SBG.negL (n))), .second, .val (.int (Int32.ofNat s2)), .val (.long (-10000000 : Int64)), .second, .val (.int (6 : Int32))]) rfl k) ?_
    refine og (fun _ k => XS.iinc X0.here hx rfl (hb hby d35_15_44) rfl (l' := #[.val (.long (Jvm.Free.SBG.negL (n))), .second, .val (.int (Int32.ofNat s2)), .val (.long (-10000000 : Int64)), .second, .val (.int ((6 : Int32) + (1 : Int32)))]) rfl k) ?_
    show OGo p e below _ s₁ (mkF m 47 #[.val (.long (Jvm.Free.SBG.negL (n))), .second, .val (.int (Int32.ofNat s2)), .val (.long (-10000000 : Int64)), .second, .val (.int ((6 : Int32) + (1 : Int32)))] [])
    rw [show ((6 : Int32) + (1 : Int32)) = (7 : Int32) from by decide]
    refine og (fun _ k => XS.goto X0.here hx rfl (pc0 := 47) (pc' := 20) rfl (hb hby d35_15_47) (by decide) (by decide) k) ?_
    refine og (fun _ k => XS.iload X0.here hx rfl (hb hby d35_15_20) rfl k) ?_
    refine og (fun _ k => XS.bipush X0.here hx rfl (hb hby d35_15_22) k) ?_
    refine og (fun _ k => XS.icmpNo X0.here hx rfl (hb hby d35_15_24) rfl (tlt (by decide : (7 : Int32) < 19)).2.1 k) ?_
    refine og (fun _ k => XS.lloadN X0.here hx rfl (hb hby d35_15_27) rfl k) ?_
    refine og (fun _ k => XS.lloadN X0.here hx rfl (hb hby d35_15_28) rfl k) ?_
    refine og (fun _ k => XS.lcmp X0.here hx rfl (hb hby d35_15_29) rfl k) ?_
    have c7 := Jvm.Free.SBG.negL_lt hn2 10000000 (by decide)
    rw [show Jvm.Free.SBG.negL 10000000 = (-10000000 : Int64) from by decide +kernel] at c7
    by_cases q7 : n < 10000000
    case pos =>
      refine og (fun _ k => XS.ifNo X0.here hx rfl (hb hby d35_15_30) rfl ((if0 _ _).trans (tlt ((lw_gt _ _).mpr (c7.mpr q7))).2.2.2) k) ?_
      refine og (fun _ k => XS.iload X0.here hx rfl (hb hby d35_15_33) rfl k) ?_
      refine og (fun _ k => XS.iloadN X0.here hx rfl (hb hby d35_15_35) rfl k) ?_
      refine og (fun _ k => XS.iadd X0.here hx rfl (hb hby d35_15_36) rfl k) ?_
      show OGo p e below _ s₁ (mkF m 37 #[.val (.long (Jvm.Free.SBG.negL (n))), .second, .val (.int (Int32.ofNat s2)), .val (.long (-10000000 : Int64)), .second, .val (.int (7 : Int32))] [(.int ((7 : Int32) + (Int32.ofNat s2)))])
      exact OGo.ret X0 hx (t := .int) hret hlk rfl (Or.inl ⟨rfl, by simp, _, rfl⟩) (hb hby d35_15_37) (by decide) (by decide) ⟨by rw [own_wl7 (by omega) q7, ← hs2, ← own_addn]; rfl, rfl, e0⟩
    refine og (fun _ k => XS.ifYes X0.here hx rfl (pc0 := 30) (pc' := 38) rfl (hb hby d35_15_30) rfl ((if0 _ _).trans (flt (fun h => q7 (c7.mp ((lw_gt _ _).mp h)))).2.2.2) (by decide) (by decide) k) ?_
    refine og (fun _ k => Jvm.Stand.ldc2J X0 hx hown (mvT hZ (own_g hw 282 rfl)) rfl (hb hby d35_15_38) k) ?_
    refine og (fun _ k => XS.lloadN X0.here hx rfl (hb hby d35_15_41) rfl k) ?_
    refine og (fun _ k => XS.lmul X0.here hx rfl (hb hby d35_15_42) rfl k) ?_
    show OGo p e below _ s₁ (mkF m 43 #[.val (.long (Jvm.Free.SBG.negL (n))), .second, .val (.int (Int32.ofNat s2)), .val (.long (-10000000 : Int64)), .second, .val (.int (7 : Int32))] [(.long ((10 : Int64) * (-10000000 : Int64)))])
    rw [show ((10 : Int64) * (-10000000 : Int64)) = (-100000000 : Int64) from by decide]
    refine og (fun _ k => XS.lstoreN X0.here hx rfl (hb hby d35_15_43) rfl (l' := #[.val (.long (Jvm.Free.SBG.negL (n))), .second, .val (.int (Int32.ofNat s2)), .val (.long (-100000000 : Int64)), .second, .val (.int (7 : Int32))]) rfl k) ?_
    refine og (fun _ k => XS.iinc X0.here hx rfl (hb hby d35_15_44) rfl (l' := #[.val (.long (Jvm.Free.SBG.negL (n))), .second, .val (.int (Int32.ofNat s2)), .val (.long (-100000000 : Int64)), .second, .val (.int ((7 : Int32) + (1 : Int32)))]) rfl k) ?_
    show OGo p e below _ s₁ (mkF m 47 #[.val (.long (Jvm.Free.SBG.negL (n))), .second, .val (.int (Int32.ofNat s2)), .val (.long (-100000000 : Int64)), .second, .val (.int ((7 : Int32) + (1 : Int32)))] [])
    rw [show ((7 : Int32) + (1 : Int32)) = (8 : Int32) from by decide]
    refine og (fun _ k => XS.goto X0.here hx rfl (pc0 := 47) (pc' := 20) rfl (hb hby d35_15_47) (by decide) (by decide) k) ?_
    refine og (fun _ k => XS.iload X0.here hx rfl (hb hby d35_15_20) rfl k) ?_
    refine og (fun _ k => XS.bipush X0.here hx rfl (hb hby d35_15_22) k) ?_
    refine og (fun _ k => XS.icmpNo X0.here hx rfl (hb hby d35_15_24) rfl (tlt (by decide : (8 : Int32) < 19)).2.1 k) ?_
    refine og (fun _ k => XS.lloadN X0.here hx rfl (hb hby d35_15_27) rfl k) ?_
    refine og (fun _ k => XS.lloadN X0.here hx rfl (hb hby d35_15_28) rfl k) ?_
    refine og (fun _ k => XS.lcmp X0.here hx rfl (hb hby d35_15_29) rfl k) ?_
    have c8 := Jvm.Free.SBG.negL_lt hn2 100000000 (by decide)
    rw [show Jvm.Free.SBG.negL 100000000 = (-100000000 : Int64) from by decide +kernel] at c8
    by_cases q8 : n < 100000000
    case pos =>
      refine og (fun _ k => XS.ifNo X0.here hx rfl (hb hby d35_15_30) rfl ((if0 _ _).trans (tlt ((lw_gt _ _).mpr (c8.mpr q8))).2.2.2) k) ?_
      refine og (fun _ k => XS.iload X0.here hx rfl (hb hby d35_15_33) rfl k) ?_
      refine og (fun _ k => XS.iloadN X0.here hx rfl (hb hby d35_15_35) rfl k) ?_
      refine og (fun _ k => XS.iadd X0.here hx rfl (hb hby d35_15_36) rfl k) ?_
      show OGo p e below _ s₁ (mkF m 37 #[.val (.long (Jvm.Free.SBG.negL (n))), .second, .val (.int (Int32.ofNat s2)), .val (.long (-100000000 : Int64)), .second, .val (.int (8 : Int32))] [(.int ((8 : Int32) + (Int32.ofNat s2)))])
      exact OGo.ret X0 hx (t := .int) hret hlk rfl (Or.inl ⟨rfl, by simp, _, rfl⟩) (hb hby d35_15_37) (by decide) (by decide) ⟨by rw [own_wl8 (by omega) q8, ← hs2, ← own_addn]; rfl, rfl, e0⟩
    refine og (fun _ k => XS.ifYes X0.here hx rfl (pc0 := 30) (pc' := 38) rfl (hb hby d35_15_30) rfl ((if0 _ _).trans (flt (fun h => q8 (c8.mp ((lw_gt _ _).mp h)))).2.2.2) (by decide) (by decide) k) ?_
    refine og (fun _ k => Jvm.Stand.ldc2J X0 hx hown (mvT hZ (own_g hw 282 rfl)) rfl (hb hby d35_15_38) k) ?_
    refine og (fun _ k => XS.lloadN X0.here hx rfl (hb hby d35_15_41) rfl k) ?_
    refine og (fun _ k => XS.lmul X0.here hx rfl (hb hby d35_15_42) rfl k) ?_
    show OGo p e below _ s₁ (mkF m 43 #[.val (.long (Jvm.Free.SBG.negL (n))), .second, .val (.int (Int32.ofNat s2)), .val (.long (-100000000 : Int64)), .second, .val (.int (8 : Int32))] [(.long ((10 : Int64) * (-100000000 : Int64)))])
    rw [show ((10 : Int64) * (-100000000 : Int64)) = (-1000000000 : Int64) from by decide]
    refine og (fun _ k => XS.lstoreN X0.here hx rfl (hb hby d35_15_43) rfl (l' := #[.val (.long (Jvm.Free.SBG.negL (n))), .second, .val (.int (Int32.ofNat s2)), .val (.long (-1000000000 : Int64)), .second, .val (.int (8 : Int32))]) rfl k) ?_
    refine og (fun _ k => XS.iinc X0.here hx rfl (hb hby d35_15_44) rfl (l' := #[.val (.long (Jvm.Free.SBG.negL (n))), .second, .val (.int (Int32.ofNat s2)), .val (.long (-1000000000 : Int64)), .second, .val (.int ((8 : Int32) + (1 : Int32)))]) rfl k) ?_
    show OGo p e below _ s₁ (mkF m 47 #[.val (.long (Jvm.Free.SBG.negL (n))), .second, .val (.int (Int32.ofNat s2)), .val (.long (-1000000000 : Int64)), .second, .val (.int ((8 : Int32) + (1 : Int32)))] [])
    rw [show ((8 : Int32) + (1 : Int32)) = (9 : Int32) from by decide]
    refine og (fun _ k => XS.goto X0.here hx rfl (pc0 := 47) (pc' := 20) rfl (hb hby d35_15_47) (by decide) (by decide) k) ?_
    refine og (fun _ k => XS.iload X0.here hx rfl (hb hby d35_15_20) rfl k) ?_
    refine og (fun _ k => XS.bipush X0.here hx rfl (hb hby d35_15_22) k) ?_
    refine og (fun _ k => XS.icmpNo X0.here hx rfl (hb hby d35_15_24) rfl (tlt (by decide : (9 : Int32) < 19)).2.1 k) ?_
    refine og (fun _ k => XS.lloadN X0.here hx rfl (hb hby d35_15_27) rfl k) ?_
    refine og (fun _ k => XS.lloadN X0.here hx rfl (hb hby d35_15_28) rfl k) ?_
    refine og (fun _ k => XS.lcmp X0.here hx rfl (hb hby d35_15_29) rfl k) ?_
    have c9 := Jvm.Free.SBG.negL_lt hn2 1000000000 (by decide)
    rw [show Jvm.Free.SBG.negL 1000000000 = (-1000000000 : Int64) from by decide +kernel] at c9
    by_cases q9 : n < 1000000000
    case pos =>
      refine og (fun _ k => XS.ifNo X0.here hx rfl (hb hby d35_15_30) rfl ((if0 _ _).trans (tlt ((lw_gt _ _).mpr (c9.mpr q9))).2.2.2) k) ?_
      refine og (fun _ k => XS.iload X0.here hx rfl (hb hby d35_15_33) rfl k) ?_
      refine og (fun _ k => XS.iloadN X0.here hx rfl (hb hby d35_15_35) rfl k) ?_
      refine og (fun _ k => XS.iadd X0.here hx rfl (hb hby d35_15_36) rfl k) ?_
      show OGo p e below _ s₁ (mkF m 37 #[.val (.long (Jvm.Free.SBG.negL (n))), .second, .val (.int (Int32.ofNat s2)), .val (.long (-1000000000 : Int64)), .second, .val (.int (9 : Int32))] [(.int ((9 : Int32) + (Int32.ofNat s2)))])
      exact OGo.ret X0 hx (t := .int) hret hlk rfl (Or.inl ⟨rfl, by simp, _, rfl⟩) (hb hby d35_15_37) (by decide) (by decide) ⟨by rw [own_wl9 (by omega) q9, ← hs2, ← own_addn]; rfl, rfl, e0⟩
    refine og (fun _ k => XS.ifYes X0.here hx rfl (pc0 := 30) (pc' := 38) rfl (hb hby d35_15_30) rfl ((if0 _ _).trans (flt (fun h => q9 (c9.mp ((lw_gt _ _).mp h)))).2.2.2) (by decide) (by decide) k) ?_
    refine og (fun _ k => Jvm.Stand.ldc2J X0 hx hown (mvT hZ (own_g hw 282 rfl)) rfl (hb hby d35_15_38) k) ?_
    refine og (fun _ k => XS.lloadN X0.here hx rfl (hb hby d35_15_41) rfl k) ?_
    refine og (fun _ k => XS.lmul X0.here hx rfl (hb hby d35_15_42) rfl k) ?_
    show OGo p e below _ s₁ (mkF m 43 #[.val (.long (Jvm.Free.SBG.negL (n))), .second, .val (.int (Int32.ofNat s2)), .val (.long (-1000000000 : Int64)), .second, .val (.int (9 : Int32))] [(.long ((10 : Int64) * (-1000000000 : Int64)))])
    rw [show ((10 : Int64) * (-1000000000 : Int64)) = (-10000000000 : Int64) from by decide]
    refine og (fun _ k => XS.lstoreN X0.here hx rfl (hb hby d35_15_43) rfl (l' := #[.val (.long (Jvm.Free.SBG.negL (n))), .second, .val (.int (Int32.ofNat s2)), .val (.long (-10000000000 : Int64)), .second, .val (.int (9 : Int32))]) rfl k) ?_
    refine og (fun _ k => XS.iinc X0.here hx rfl (hb hby d35_15_44) rfl (l' := #[.val (.long (Jvm.Free.SBG.negL (n))), .second, .val (.int (Int32.ofNat s2)), .val (.long (-10000000000 : Int64)), .second, .val (.int ((9 : Int32) + (1 : Int32)))]) rfl k) ?_
    show OGo p e below _ s₁ (mkF m 47 #[.val (.long (Jvm.Free.SBG.negL (n))), .second, .val (.int (Int32.ofNat s2)), .val (.long (-10000000000 : Int64)), .second, .val (.int ((9 : Int32) + (1 : Int32)))] [])
    rw [show ((9 : Int32) + (1 : Int32)) = (10 : Int32) from by decide]
    refine og (fun _ k => XS.goto X0.here hx rfl (pc0 := 47) (pc' := 20) rfl (hb hby d35_15_47) (by decide) (by decide) k) ?_
    refine og (fun _ k => XS.iload X0.here hx rfl (hb hby d35_15_20) rfl k) ?_
    refine og (fun _ k => XS.bipush X0.here hx rfl (hb hby d35_15_22) k) ?_
    refine og (fun _ k => XS.icmpNo X0.here hx rfl (hb hby d35_15_24) rfl (tlt (by decide : (10 : Int32) < 19)).2.1 k) ?_
    refine og (fun _ k => XS.lloadN X0.here hx rfl (hb hby d35_15_27) rfl k) ?_
    refine og (fun _ k => XS.lloadN X0.here hx rfl (hb hby d35_15_28) rfl k) ?_
    refine og (fun _ k => XS.lcmp X0.here hx rfl (hb hby d35_15_29) rfl k) ?_
    have c10 := Jvm.Free.SBG.negL_lt hn2 10000000000 (by decide)
    rw [show Jvm.Free.SBG.negL 10000000000 = (-10000000000 : Int64) from by decide +kernel] at c10
    by_cases q10 : n < 10000000000
    case pos =>
      refine og (fun _ k => XS.ifNo X0.here hx rfl (hb hby d35_15_30) rfl ((if0 _ _).trans (tlt ((lw_gt _ _).mpr (c10.mpr q10))).2.2.2) k) ?_
      refine og (fun _ k => XS.iload X0.here hx rfl (hb hby d35_15_33) rfl k) ?_
      refine og (fun _ k => XS.iloadN X0.here hx rfl (hb hby d35_15_35) rfl k) ?_
      refine og (fun _ k => XS.iadd X0.here hx rfl (hb hby d35_15_36) rfl k) ?_
      show OGo p e below _ s₁ (mkF m 37 #[.val (.long (Jvm.Free.SBG.negL (n))), .second, .val (.int (Int32.ofNat s2)), .val (.long (-10000000000 : Int64)), .second, .val (.int (10 : Int32))] [(.int ((10 : Int32) + (Int32.ofNat s2)))])
      exact OGo.ret X0 hx (t := .int) hret hlk rfl (Or.inl ⟨rfl, by simp, _, rfl⟩) (hb hby d35_15_37) (by decide) (by decide) ⟨by rw [own_wl10 (by omega) q10, ← hs2, ← own_addn]; rfl, rfl, e0⟩
    refine og (fun _ k => XS.ifYes X0.here hx rfl (pc0 := 30) (pc' := 38) rfl (hb hby d35_15_30) rfl ((if0 _ _).trans (flt (fun h => q10 (c10.mp ((lw_gt _ _).mp h)))).2.2.2) (by decide) (by decide) k) ?_
    refine og (fun _ k => Jvm.Stand.ldc2J X0 hx hown (mvT hZ (own_g hw 282 rfl)) rfl (hb hby d35_15_38) k) ?_
    refine og (fun _ k => XS.lloadN X0.here hx rfl (hb hby d35_15_41) rfl k) ?_
    refine og (fun _ k => XS.lmul X0.here hx rfl (hb hby d35_15_42) rfl k) ?_
    show OGo p e below _ s₁ (mkF m 43 #[.val (.long (Jvm.Free.SBG.negL (n))), .second, .val (.int (Int32.ofNat s2)), .val (.long (-10000000000 : Int64)), .second, .val (.int (10 : Int32))] [(.long ((10 : Int64) * (-10000000000 : Int64)))])
    rw [show ((10 : Int64) * (-10000000000 : Int64)) = (-100000000000 : Int64) from by decide]
    refine og (fun _ k => XS.lstoreN X0.here hx rfl (hb hby d35_15_43) rfl (l' := #[.val (.long (Jvm.Free.SBG.negL (n))), .second, .val (.int (Int32.ofNat s2)), .val (.long (-100000000000 : Int64)), .second, .val (.int (10 : Int32))]) rfl k) ?_
    refine og (fun _ k => XS.iinc X0.here hx rfl (hb hby d35_15_44) rfl (l' := #[.val (.long (Jvm.Free.SBG.negL (n))), .second, .val (.int (Int32.ofNat s2)), .val (.long (-100000000000 : Int64)), .second, .val (.int ((10 : Int32) + (1 : Int32)))]) rfl k) ?_
    show OGo p e below _ s₁ (mkF m 47 #[.val (.long (Jvm.Free.SBG.negL (n))), .second, .val (.int (Int32.ofNat s2)), .val (.long (-100000000000 : Int64)), .second, .val (.int ((10 : Int32) + (1 : Int32)))] [])
    rw [show ((10 : Int32) + (1 : Int32)) = (11 : Int32) from by decide]
    refine og (fun _ k => XS.goto X0.here hx rfl (pc0 := 47) (pc' := 20) rfl (hb hby d35_15_47) (by decide) (by decide) k) ?_
    refine og (fun _ k => XS.iload X0.here hx rfl (hb hby d35_15_20) rfl k) ?_
    refine og (fun _ k => XS.bipush X0.here hx rfl (hb hby d35_15_22) k) ?_
    refine og (fun _ k => XS.icmpNo X0.here hx rfl (hb hby d35_15_24) rfl (tlt (by decide : (11 : Int32) < 19)).2.1 k) ?_
    refine og (fun _ k => XS.lloadN X0.here hx rfl (hb hby d35_15_27) rfl k) ?_
    refine og (fun _ k => XS.lloadN X0.here hx rfl (hb hby d35_15_28) rfl k) ?_
    refine og (fun _ k => XS.lcmp X0.here hx rfl (hb hby d35_15_29) rfl k) ?_
    have c11 := Jvm.Free.SBG.negL_lt hn2 100000000000 (by decide)
    rw [show Jvm.Free.SBG.negL 100000000000 = (-100000000000 : Int64) from by decide +kernel] at c11
    by_cases q11 : n < 100000000000
    case pos =>
      refine og (fun _ k => XS.ifNo X0.here hx rfl (hb hby d35_15_30) rfl ((if0 _ _).trans (tlt ((lw_gt _ _).mpr (c11.mpr q11))).2.2.2) k) ?_
      refine og (fun _ k => XS.iload X0.here hx rfl (hb hby d35_15_33) rfl k) ?_
      refine og (fun _ k => XS.iloadN X0.here hx rfl (hb hby d35_15_35) rfl k) ?_
      refine og (fun _ k => XS.iadd X0.here hx rfl (hb hby d35_15_36) rfl k) ?_
      show OGo p e below _ s₁ (mkF m 37 #[.val (.long (Jvm.Free.SBG.negL (n))), .second, .val (.int (Int32.ofNat s2)), .val (.long (-100000000000 : Int64)), .second, .val (.int (11 : Int32))] [(.int ((11 : Int32) + (Int32.ofNat s2)))])
      exact OGo.ret X0 hx (t := .int) hret hlk rfl (Or.inl ⟨rfl, by simp, _, rfl⟩) (hb hby d35_15_37) (by decide) (by decide) ⟨by rw [own_wl11 (by omega) q11, ← hs2, ← own_addn]; rfl, rfl, e0⟩
    refine og (fun _ k => XS.ifYes X0.here hx rfl (pc0 := 30) (pc' := 38) rfl (hb hby d35_15_30) rfl ((if0 _ _).trans (flt (fun h => q11 (c11.mp ((lw_gt _ _).mp h)))).2.2.2) (by decide) (by decide) k) ?_
    refine og (fun _ k => Jvm.Stand.ldc2J X0 hx hown (mvT hZ (own_g hw 282 rfl)) rfl (hb hby d35_15_38) k) ?_
    refine og (fun _ k => XS.lloadN X0.here hx rfl (hb hby d35_15_41) rfl k) ?_
    refine og (fun _ k => XS.lmul X0.here hx rfl (hb hby d35_15_42) rfl k) ?_
    show OGo p e below _ s₁ (mkF m 43 #[.val (.long (Jvm.Free.SBG.negL (n))), .second, .val (.int (Int32.ofNat s2)), .val (.long (-100000000000 : Int64)), .second, .val (.int (11 : Int32))] [(.long ((10 : Int64) * (-100000000000 : Int64)))])
    rw [show ((10 : Int64) * (-100000000000 : Int64)) = (-1000000000000 : Int64) from by decide]
    refine og (fun _ k => XS.lstoreN X0.here hx rfl (hb hby d35_15_43) rfl (l' := #[.val (.long (Jvm.Free.SBG.negL (n))), .second, .val (.int (Int32.ofNat s2)), .val (.long (-1000000000000 : Int64)), .second, .val (.int (11 : Int32))]) rfl k) ?_
    refine og (fun _ k => XS.iinc X0.here hx rfl (hb hby d35_15_44) rfl (l' := #[.val (.long (Jvm.Free.SBG.negL (n))), .second, .val (.int (Int32.ofNat s2)), .val (.long (-1000000000000 : Int64)), .second, .val (.int ((11 : Int32) + (1 : Int32)))]) rfl k) ?_
    show OGo p e below _ s₁ (mkF m 47 #[.val (.long (Jvm.Free.SBG.negL (n))), .second, .val (.int (Int32.ofNat s2)), .val (.long (-1000000000000 : Int64)), .second, .val (.int ((11 : Int32) + (1 : Int32)))] [])
    rw [show ((11 : Int32) + (1 : Int32)) = (12 : Int32) from by decide]
    refine og (fun _ k => XS.goto X0.here hx rfl (pc0 := 47) (pc' := 20) rfl (hb hby d35_15_47) (by decide) (by decide) k) ?_
    refine og (fun _ k => XS.iload X0.here hx rfl (hb hby d35_15_20) rfl k) ?_
    refine og (fun _ k => XS.bipush X0.here hx rfl (hb hby d35_15_22) k) ?_
    refine og (fun _ k => XS.icmpNo X0.here hx rfl (hb hby d35_15_24) rfl (tlt (by decide : (12 : Int32) < 19)).2.1 k) ?_
    refine og (fun _ k => XS.lloadN X0.here hx rfl (hb hby d35_15_27) rfl k) ?_
    refine og (fun _ k => XS.lloadN X0.here hx rfl (hb hby d35_15_28) rfl k) ?_
    refine og (fun _ k => XS.lcmp X0.here hx rfl (hb hby d35_15_29) rfl k) ?_
    have c12 := Jvm.Free.SBG.negL_lt hn2 1000000000000 (by decide)
    rw [show Jvm.Free.SBG.negL 1000000000000 = (-1000000000000 : Int64) from by decide +kernel] at c12
    by_cases q12 : n < 1000000000000
    case pos =>
      refine og (fun _ k => XS.ifNo X0.here hx rfl (hb hby d35_15_30) rfl ((if0 _ _).trans (tlt ((lw_gt _ _).mpr (c12.mpr q12))).2.2.2) k) ?_
      refine og (fun _ k => XS.iload X0.here hx rfl (hb hby d35_15_33) rfl k) ?_
      refine og (fun _ k => XS.iloadN X0.here hx rfl (hb hby d35_15_35) rfl k) ?_
      refine og (fun _ k => XS.iadd X0.here hx rfl (hb hby d35_15_36) rfl k) ?_
      show OGo p e below _ s₁ (mkF m 37 #[.val (.long (Jvm.Free.SBG.negL (n))), .second, .val (.int (Int32.ofNat s2)), .val (.long (-1000000000000 : Int64)), .second, .val (.int (12 : Int32))] [(.int ((12 : Int32) + (Int32.ofNat s2)))])
      exact OGo.ret X0 hx (t := .int) hret hlk rfl (Or.inl ⟨rfl, by simp, _, rfl⟩) (hb hby d35_15_37) (by decide) (by decide) ⟨by rw [own_wl12 (by omega) q12, ← hs2, ← own_addn]; rfl, rfl, e0⟩
    refine og (fun _ k => XS.ifYes X0.here hx rfl (pc0 := 30) (pc' := 38) rfl (hb hby d35_15_30) rfl ((if0 _ _).trans (flt (fun h => q12 (c12.mp ((lw_gt _ _).mp h)))).2.2.2) (by decide) (by decide) k) ?_
    refine og (fun _ k => Jvm.Stand.ldc2J X0 hx hown (mvT hZ (own_g hw 282 rfl)) rfl (hb hby d35_15_38) k) ?_
    refine og (fun _ k => XS.lloadN X0.here hx rfl (hb hby d35_15_41) rfl k) ?_
    refine og (fun _ k => XS.lmul X0.here hx rfl (hb hby d35_15_42) rfl k) ?_
    show OGo p e below _ s₁ (mkF m 43 #[.val (.long (Jvm.Free.SBG.negL (n))), .second, .val (.int (Int32.ofNat s2)), .val (.long (-1000000000000 : Int64)), .second, .val (.int (12 : Int32))] [(.long ((10 : Int64) * (-1000000000000 : Int64)))])
    rw [show ((10 : Int64) * (-1000000000000 : Int64)) = (-10000000000000 : Int64) from by decide]
    refine og (fun _ k => XS.lstoreN X0.here hx rfl (hb hby d35_15_43) rfl (l' := #[.val (.long (Jvm.Free.SBG.negL (n))), .second, .val (.int (Int32.ofNat s2)), .val (.long (-10000000000000 : Int64)), .second, .val (.int (12 : Int32))]) rfl k) ?_
    refine og (fun _ k => XS.iinc X0.here hx rfl (hb hby d35_15_44) rfl (l' := #[.val (.long (Jvm.Free.SBG.negL (n))), .second, .val (.int (Int32.ofNat s2)), .val (.long (-10000000000000 : Int64)), .second, .val (.int ((12 : Int32) + (1 : Int32)))]) rfl k) ?_
    show OGo p e below _ s₁ (mkF m 47 #[.val (.long (Jvm.Free.SBG.negL (n))), .second, .val (.int (Int32.ofNat s2)), .val (.long (-10000000000000 : Int64)), .second, .val (.int ((12 : Int32) + (1 : Int32)))] [])
    rw [show ((12 : Int32) + (1 : Int32)) = (13 : Int32) from by decide]
    refine og (fun _ k => XS.goto X0.here hx rfl (pc0 := 47) (pc' := 20) rfl (hb hby d35_15_47) (by decide) (by decide) k) ?_
    refine og (fun _ k => XS.iload X0.here hx rfl (hb hby d35_15_20) rfl k) ?_
    refine og (fun _ k => XS.bipush X0.here hx rfl (hb hby d35_15_22) k) ?_
    refine og (fun _ k => XS.icmpNo X0.here hx rfl (hb hby d35_15_24) rfl (tlt (by decide : (13 : Int32) < 19)).2.1 k) ?_
    refine og (fun _ k => XS.lloadN X0.here hx rfl (hb hby d35_15_27) rfl k) ?_
    refine og (fun _ k => XS.lloadN X0.here hx rfl (hb hby d35_15_28) rfl k) ?_
    refine og (fun _ k => XS.lcmp X0.here hx rfl (hb hby d35_15_29) rfl k) ?_
    have c13 := Jvm.Free.SBG.negL_lt hn2 10000000000000 (by decide)
    rw [show Jvm.Free.SBG.negL 10000000000000 = (-10000000000000 : Int64) from by decide +kernel] at c13
    by_cases q13 : n < 10000000000000
    case pos =>
      refine og (fun _ k => XS.ifNo X0.here hx rfl (hb hby d35_15_30) rfl ((if0 _ _).trans (tlt ((lw_gt _ _).mpr (c13.mpr q13))).2.2.2) k) ?_
      refine og (fun _ k => XS.iload X0.here hx rfl (hb hby d35_15_33) rfl k) ?_
      refine og (fun _ k => XS.iloadN X0.here hx rfl (hb hby d35_15_35) rfl k) ?_
      refine og (fun _ k => XS.iadd X0.here hx rfl (hb hby d35_15_36) rfl k) ?_
      show OGo p e below _ s₁ (mkF m 37 #[.val (.long (Jvm.Free.SBG.negL (n))), .second, .val (.int (Int32.ofNat s2)), .val (.long (-10000000000000 : Int64)), .second, .val (.int (13 : Int32))] [(.int ((13 : Int32) + (Int32.ofNat s2)))])
      exact OGo.ret X0 hx (t := .int) hret hlk rfl (Or.inl ⟨rfl, by simp, _, rfl⟩) (hb hby d35_15_37) (by decide) (by decide) ⟨by rw [own_wl13 (by omega) q13, ← hs2, ← own_addn]; rfl, rfl, e0⟩
    refine og (fun _ k => XS.ifYes X0.here hx rfl (pc0 := 30) (pc' := 38) rfl (hb hby d35_15_30) rfl ((if0 _ _).trans (flt (fun h => q13 (c13.mp ((lw_gt _ _).mp h)))).2.2.2) (by decide) (by decide) k) ?_
    refine og (fun _ k => Jvm.Stand.ldc2J X0 hx hown (mvT hZ (own_g hw 282 rfl)) rfl (hb hby d35_15_38) k) ?_
    refine og (fun _ k => XS.lloadN X0.here hx rfl (hb hby d35_15_41) rfl k) ?_
    refine og (fun _ k => XS.lmul X0.here hx rfl (hb hby d35_15_42) rfl k) ?_
    show OGo p e below _ s₁ (mkF m 43 #[.val (.long (Jvm.Free.SBG.negL (n))), .second, .val (.int (Int32.ofNat s2)), .val (.long (-10000000000000 : Int64)), .second, .val (.int (13 : Int32))] [(.long ((10 : Int64) * (-10000000000000 : Int64)))])
    rw [show ((10 : Int64) * (-10000000000000 : Int64)) = (-100000000000000 : Int64) from by decide]
    refine og (fun _ k => XS.lstoreN X0.here hx rfl (hb hby d35_15_43) rfl (l' := #[.val (.long (Jvm.Free.SBG.negL (n))), .second, .val (.int (Int32.ofNat s2)), .val (.long (-100000000000000 : Int64)), .second, .val (.int (13 : Int32))]) rfl k) ?_
    refine og (fun _ k => XS.iinc X0.here hx rfl (hb hby d35_15_44) rfl (l' := #[.val (.long (Jvm.Free.SBG.negL (n))), .second, .val (.int (Int32.ofNat s2)), .val (.long (-100000000000000 : Int64)), .second, .val (.int ((13 : Int32) + (1 : Int32)))]) rfl k) ?_
    show OGo p e below _ s₁ (mkF m 47 #[.val (.long (Jvm.Free.SBG.negL (n))), .second, .val (.int (Int32.ofNat s2)), .val (.long (-100000000000000 : Int64)), .second, .val (.int ((13 : Int32) + (1 : Int32)))] [])
    rw [show ((13 : Int32) + (1 : Int32)) = (14 : Int32) from by decide]
    refine og (fun _ k => XS.goto X0.here hx rfl (pc0 := 47) (pc' := 20) rfl (hb hby d35_15_47) (by decide) (by decide) k) ?_
    refine og (fun _ k => XS.iload X0.here hx rfl (hb hby d35_15_20) rfl k) ?_
    refine og (fun _ k => XS.bipush X0.here hx rfl (hb hby d35_15_22) k) ?_
    refine og (fun _ k => XS.icmpNo X0.here hx rfl (hb hby d35_15_24) rfl (tlt (by decide : (14 : Int32) < 19)).2.1 k) ?_
    refine og (fun _ k => XS.lloadN X0.here hx rfl (hb hby d35_15_27) rfl k) ?_
    refine og (fun _ k => XS.lloadN X0.here hx rfl (hb hby d35_15_28) rfl k) ?_
    refine og (fun _ k => XS.lcmp X0.here hx rfl (hb hby d35_15_29) rfl k) ?_
    have c14 := Jvm.Free.SBG.negL_lt hn2 100000000000000 (by decide)
    rw [show Jvm.Free.SBG.negL 100000000000000 = (-100000000000000 : Int64) from by decide +kernel] at c14
    by_cases q14 : n < 100000000000000
    case pos =>
      refine og (fun _ k => XS.ifNo X0.here hx rfl (hb hby d35_15_30) rfl ((if0 _ _).trans (tlt ((lw_gt _ _).mpr (c14.mpr q14))).2.2.2) k) ?_
      refine og (fun _ k => XS.iload X0.here hx rfl (hb hby d35_15_33) rfl k) ?_
      refine og (fun _ k => XS.iloadN X0.here hx rfl (hb hby d35_15_35) rfl k) ?_
      refine og (fun _ k => XS.iadd X0.here hx rfl (hb hby d35_15_36) rfl k) ?_
      show OGo p e below _ s₁ (mkF m 37 #[.val (.long (Jvm.Free.SBG.negL (n))), .second, .val (.int (Int32.ofNat s2)), .val (.long (-100000000000000 : Int64)), .second, .val (.int (14 : Int32))] [(.int ((14 : Int32) + (Int32.ofNat s2)))])
      exact OGo.ret X0 hx (t := .int) hret hlk rfl (Or.inl ⟨rfl, by simp, _, rfl⟩) (hb hby d35_15_37) (by decide) (by decide) ⟨by rw [own_wl14 (by omega) q14, ← hs2, ← own_addn]; rfl, rfl, e0⟩
    refine og (fun _ k => XS.ifYes X0.here hx rfl (pc0 := 30) (pc' := 38) rfl (hb hby d35_15_30) rfl ((if0 _ _).trans (flt (fun h => q14 (c14.mp ((lw_gt _ _).mp h)))).2.2.2) (by decide) (by decide) k) ?_
    refine og (fun _ k => Jvm.Stand.ldc2J X0 hx hown (mvT hZ (own_g hw 282 rfl)) rfl (hb hby d35_15_38) k) ?_
    refine og (fun _ k => XS.lloadN X0.here hx rfl (hb hby d35_15_41) rfl k) ?_
    refine og (fun _ k => XS.lmul X0.here hx rfl (hb hby d35_15_42) rfl k) ?_
    show OGo p e below _ s₁ (mkF m 43 #[.val (.long (Jvm.Free.SBG.negL (n))), .second, .val (.int (Int32.ofNat s2)), .val (.long (-100000000000000 : Int64)), .second, .val (.int (14 : Int32))] [(.long ((10 : Int64) * (-100000000000000 : Int64)))])
    rw [show ((10 : Int64) * (-100000000000000 : Int64)) = (-1000000000000000 : Int64) from by decide]
    refine og (fun _ k => XS.lstoreN X0.here hx rfl (hb hby d35_15_43) rfl (l' := #[.val (.long (Jvm.Free.SBG.negL (n))), .second, .val (.int (Int32.ofNat s2)), .val (.long (-1000000000000000 : Int64)), .second, .val (.int (14 : Int32))]) rfl k) ?_
    refine og (fun _ k => XS.iinc X0.here hx rfl (hb hby d35_15_44) rfl (l' := #[.val (.long (Jvm.Free.SBG.negL (n))), .second, .val (.int (Int32.ofNat s2)), .val (.long (-1000000000000000 : Int64)), .second, .val (.int ((14 : Int32) + (1 : Int32)))]) rfl k) ?_
    show OGo p e below _ s₁ (mkF m 47 #[.val (.long (Jvm.Free.SBG.negL (n))), .second, .val (.int (Int32.ofNat s2)), .val (.long (-1000000000000000 : Int64)), .second, .val (.int ((14 : Int32) + (1 : Int32)))] [])
    rw [show ((14 : Int32) + (1 : Int32)) = (15 : Int32) from by decide]
    refine og (fun _ k => XS.goto X0.here hx rfl (pc0 := 47) (pc' := 20) rfl (hb hby d35_15_47) (by decide) (by decide) k) ?_
    refine og (fun _ k => XS.iload X0.here hx rfl (hb hby d35_15_20) rfl k) ?_
    refine og (fun _ k => XS.bipush X0.here hx rfl (hb hby d35_15_22) k) ?_
    refine og (fun _ k => XS.icmpNo X0.here hx rfl (hb hby d35_15_24) rfl (tlt (by decide : (15 : Int32) < 19)).2.1 k) ?_
    refine og (fun _ k => XS.lloadN X0.here hx rfl (hb hby d35_15_27) rfl k) ?_
    refine og (fun _ k => XS.lloadN X0.here hx rfl (hb hby d35_15_28) rfl k) ?_
    refine og (fun _ k => XS.lcmp X0.here hx rfl (hb hby d35_15_29) rfl k) ?_
    have c15 := Jvm.Free.SBG.negL_lt hn2 1000000000000000 (by decide)
    rw [show Jvm.Free.SBG.negL 1000000000000000 = (-1000000000000000 : Int64) from by decide +kernel] at c15
    by_cases q15 : n < 1000000000000000
    case pos =>
      refine og (fun _ k => XS.ifNo X0.here hx rfl (hb hby d35_15_30) rfl ((if0 _ _).trans (tlt ((lw_gt _ _).mpr (c15.mpr q15))).2.2.2) k) ?_
      refine og (fun _ k => XS.iload X0.here hx rfl (hb hby d35_15_33) rfl k) ?_
      refine og (fun _ k => XS.iloadN X0.here hx rfl (hb hby d35_15_35) rfl k) ?_
      refine og (fun _ k => XS.iadd X0.here hx rfl (hb hby d35_15_36) rfl k) ?_
      show OGo p e below _ s₁ (mkF m 37 #[.val (.long (Jvm.Free.SBG.negL (n))), .second, .val (.int (Int32.ofNat s2)), .val (.long (-1000000000000000 : Int64)), .second, .val (.int (15 : Int32))] [(.int ((15 : Int32) + (Int32.ofNat s2)))])
      exact OGo.ret X0 hx (t := .int) hret hlk rfl (Or.inl ⟨rfl, by simp, _, rfl⟩) (hb hby d35_15_37) (by decide) (by decide) ⟨by rw [own_wl15 (by omega) q15, ← hs2, ← own_addn]; rfl, rfl, e0⟩
    refine og (fun _ k => XS.ifYes X0.here hx rfl (pc0 := 30) (pc' := 38) rfl (hb hby d35_15_30) rfl ((if0 _ _).trans (flt (fun h => q15 (c15.mp ((lw_gt _ _).mp h)))).2.2.2) (by decide) (by decide) k) ?_
    refine og (fun _ k => Jvm.Stand.ldc2J X0 hx hown (mvT hZ (own_g hw 282 rfl)) rfl (hb hby d35_15_38) k) ?_
    refine og (fun _ k => XS.lloadN X0.here hx rfl (hb hby d35_15_41) rfl k) ?_
    refine og (fun _ k => XS.lmul X0.here hx rfl (hb hby d35_15_42) rfl k) ?_
    show OGo p e below _ s₁ (mkF m 43 #[.val (.long (Jvm.Free.SBG.negL (n))), .second, .val (.int (Int32.ofNat s2)), .val (.long (-1000000000000000 : Int64)), .second, .val (.int (15 : Int32))] [(.long ((10 : Int64) * (-1000000000000000 : Int64)))])
    rw [show ((10 : Int64) * (-1000000000000000 : Int64)) = (-10000000000000000 : Int64) from by decide]
    refine og (fun _ k => XS.lstoreN X0.here hx rfl (hb hby d35_15_43) rfl (l' := #[.val (.long (Jvm.Free.SBG.negL (n))), .second, .val (.int (Int32.ofNat s2)), .val (.long (-10000000000000000 : Int64)), .second, .val (.int (15 : Int32))]) rfl k) ?_
    refine og (fun _ k => XS.iinc X0.here hx rfl (hb hby d35_15_44) rfl (l' := #[.val (.long (Jvm.Free.SBG.negL (n))), .second, .val (.int (Int32.ofNat s2)), .val (.long (-10000000000000000 : Int64)), .second, .val (.int ((15 : Int32) + (1 : Int32)))]) rfl k) ?_
    show OGo p e below _ s₁ (mkF m 47 #[.val (.long (Jvm.Free.SBG.negL (n))), .second, .val (.int (Int32.ofNat s2)), .val (.long (-10000000000000000 : Int64)), .second, .val (.int ((15 : Int32) + (1 : Int32)))] [])
    rw [show ((15 : Int32) + (1 : Int32)) = (16 : Int32) from by decide]
    refine og (fun _ k => XS.goto X0.here hx rfl (pc0 := 47) (pc' := 20) rfl (hb hby d35_15_47) (by decide) (by decide) k) ?_
    refine og (fun _ k => XS.iload X0.here hx rfl (hb hby d35_15_20) rfl k) ?_
    refine og (fun _ k => XS.bipush X0.here hx rfl (hb hby d35_15_22) k) ?_
    refine og (fun _ k => XS.icmpNo X0.here hx rfl (hb hby d35_15_24) rfl (tlt (by decide : (16 : Int32) < 19)).2.1 k) ?_
    refine og (fun _ k => XS.lloadN X0.here hx rfl (hb hby d35_15_27) rfl k) ?_
    refine og (fun _ k => XS.lloadN X0.here hx rfl (hb hby d35_15_28) rfl k) ?_
    refine og (fun _ k => XS.lcmp X0.here hx rfl (hb hby d35_15_29) rfl k) ?_
    have c16 := Jvm.Free.SBG.negL_lt hn2 10000000000000000 (by decide)
    rw [show Jvm.Free.SBG.negL 10000000000000000 = (-10000000000000000 : Int64) from by decide +kernel] at c16
    by_cases q16 : n < 10000000000000000
    case pos =>
      refine og (fun _ k => XS.ifNo X0.here hx rfl (hb hby d35_15_30) rfl ((if0 _ _).trans (tlt ((lw_gt _ _).mpr (c16.mpr q16))).2.2.2) k) ?_
      refine og (fun _ k => XS.iload X0.here hx rfl (hb hby d35_15_33) rfl k) ?_
      refine og (fun _ k => XS.iloadN X0.here hx rfl (hb hby d35_15_35) rfl k) ?_
      refine og (fun _ k => XS.iadd X0.here hx rfl (hb hby d35_15_36) rfl k) ?_
      show OGo p e below _ s₁ (mkF m 37 #[.val (.long (Jvm.Free.SBG.negL (n))), .second, .val (.int (Int32.ofNat s2)), .val (.long (-10000000000000000 : Int64)), .second, .val (.int (16 : Int32))] [(.int ((16 : Int32) + (Int32.ofNat s2)))])
      exact OGo.ret X0 hx (t := .int) hret hlk rfl (Or.inl ⟨rfl, by simp, _, rfl⟩) (hb hby d35_15_37) (by decide) (by decide) ⟨by rw [own_wl16 (by omega) q16, ← hs2, ← own_addn]; rfl, rfl, e0⟩
    refine og (fun _ k => XS.ifYes X0.here hx rfl (pc0 := 30) (pc' := 38) rfl (hb hby d35_15_30) rfl ((if0 _ _).trans (flt (fun h => q16 (c16.mp ((lw_gt _ _).mp h)))).2.2.2) (by decide) (by decide) k) ?_
    refine og (fun _ k => Jvm.Stand.ldc2J X0 hx hown (mvT hZ (own_g hw 282 rfl)) rfl (hb hby d35_15_38) k) ?_
    refine og (fun _ k => XS.lloadN X0.here hx rfl (hb hby d35_15_41) rfl k) ?_
    refine og (fun _ k => XS.lmul X0.here hx rfl (hb hby d35_15_42) rfl k) ?_
    show OGo p e below _ s₁ (mkF m 43 #[.val (.long (Jvm.Free.SBG.negL (n))), .second, .val (.int (Int32.ofNat s2)), .val (.long (-10000000000000000 : Int64)), .second, .val (.int (16 : Int32))] [(.long ((10 : Int64) * (-10000000000000000 : Int64)))])
    rw [show ((10 : Int64) * (-10000000000000000 : Int64)) = (-100000000000000000 : Int64) from by decide]
    refine og (fun _ k => XS.lstoreN X0.here hx rfl (hb hby d35_15_43) rfl (l' := #[.val (.long (Jvm.Free.SBG.negL (n))), .second, .val (.int (Int32.ofNat s2)), .val (.long (-100000000000000000 : Int64)), .second, .val (.int (16 : Int32))]) rfl k) ?_
    refine og (fun _ k => XS.iinc X0.here hx rfl (hb hby d35_15_44) rfl (l' := #[.val (.long (Jvm.Free.SBG.negL (n))), .second, .val (.int (Int32.ofNat s2)), .val (.long (-100000000000000000 : Int64)), .second, .val (.int ((16 : Int32) + (1 : Int32)))]) rfl k) ?_
    show OGo p e below _ s₁ (mkF m 47 #[.val (.long (Jvm.Free.SBG.negL (n))), .second, .val (.int (Int32.ofNat s2)), .val (.long (-100000000000000000 : Int64)), .second, .val (.int ((16 : Int32) + (1 : Int32)))] [])
    rw [show ((16 : Int32) + (1 : Int32)) = (17 : Int32) from by decide]
    refine og (fun _ k => XS.goto X0.here hx rfl (pc0 := 47) (pc' := 20) rfl (hb hby d35_15_47) (by decide) (by decide) k) ?_
    refine og (fun _ k => XS.iload X0.here hx rfl (hb hby d35_15_20) rfl k) ?_
    refine og (fun _ k => XS.bipush X0.here hx rfl (hb hby d35_15_22) k) ?_
    refine og (fun _ k => XS.icmpNo X0.here hx rfl (hb hby d35_15_24) rfl (tlt (by decide : (17 : Int32) < 19)).2.1 k) ?_
    refine og (fun _ k => XS.lloadN X0.here hx rfl (hb hby d35_15_27) rfl k) ?_
    refine og (fun _ k => XS.lloadN X0.here hx rfl (hb hby d35_15_28) rfl k) ?_
    refine og (fun _ k => XS.lcmp X0.here hx rfl (hb hby d35_15_29) rfl k) ?_
    have c17 := Jvm.Free.SBG.negL_lt hn2 100000000000000000 (by decide)
    rw [show Jvm.Free.SBG.negL 100000000000000000 = (-100000000000000000 : Int64) from by decide +kernel] at c17
    by_cases q17 : n < 100000000000000000
    case pos =>
      refine og (fun _ k => XS.ifNo X0.here hx rfl (hb hby d35_15_30) rfl ((if0 _ _).trans (tlt ((lw_gt _ _).mpr (c17.mpr q17))).2.2.2) k) ?_
      refine og (fun _ k => XS.iload X0.here hx rfl (hb hby d35_15_33) rfl k) ?_
      refine og (fun _ k => XS.iloadN X0.here hx rfl (hb hby d35_15_35) rfl k) ?_
      refine og (fun _ k => XS.iadd X0.here hx rfl (hb hby d35_15_36) rfl k) ?_
      show OGo p e below _ s₁ (mkF m 37 #[.val (.long (Jvm.Free.SBG.negL (n))), .second, .val (.int (Int32.ofNat s2)), .val (.long (-100000000000000000 : Int64)), .second, .val (.int (17 : Int32))] [(.int ((17 : Int32) + (Int32.ofNat s2)))])
      exact OGo.ret X0 hx (t := .int) hret hlk rfl (Or.inl ⟨rfl, by simp, _, rfl⟩) (hb hby d35_15_37) (by decide) (by decide) ⟨by rw [own_wl17 (by omega) q17, ← hs2, ← own_addn]; rfl, rfl, e0⟩
    refine og (fun _ k => XS.ifYes X0.here hx rfl (pc0 := 30) (pc' := 38) rfl (hb hby d35_15_30) rfl ((if0 _ _).trans (flt (fun h => q17 (c17.mp ((lw_gt _ _).mp h)))).2.2.2) (by decide) (by decide) k) ?_
    refine og (fun _ k => Jvm.Stand.ldc2J X0 hx hown (mvT hZ (own_g hw 282 rfl)) rfl (hb hby d35_15_38) k) ?_
    refine og (fun _ k => XS.lloadN X0.here hx rfl (hb hby d35_15_41) rfl k) ?_
    refine og (fun _ k => XS.lmul X0.here hx rfl (hb hby d35_15_42) rfl k) ?_
    show OGo p e below _ s₁ (mkF m 43 #[.val (.long (Jvm.Free.SBG.negL (n))), .second, .val (.int (Int32.ofNat s2)), .val (.long (-100000000000000000 : Int64)), .second, .val (.int (17 : Int32))] [(.long ((10 : Int64) * (-100000000000000000 : Int64)))])
    rw [show ((10 : Int64) * (-100000000000000000 : Int64)) = (-1000000000000000000 : Int64) from by decide]
    refine og (fun _ k => XS.lstoreN X0.here hx rfl (hb hby d35_15_43) rfl (l' := #[.val (.long (Jvm.Free.SBG.negL (n))), .second, .val (.int (Int32.ofNat s2)), .val (.long (-1000000000000000000 : Int64)), .second, .val (.int (17 : Int32))]) rfl k) ?_
    refine og (fun _ k => XS.iinc X0.here hx rfl (hb hby d35_15_44) rfl (l' := #[.val (.long (Jvm.Free.SBG.negL (n))), .second, .val (.int (Int32.ofNat s2)), .val (.long (-1000000000000000000 : Int64)), .second, .val (.int ((17 : Int32) + (1 : Int32)))]) rfl k) ?_
    show OGo p e below _ s₁ (mkF m 47 #[.val (.long (Jvm.Free.SBG.negL (n))), .second, .val (.int (Int32.ofNat s2)), .val (.long (-1000000000000000000 : Int64)), .second, .val (.int ((17 : Int32) + (1 : Int32)))] [])
    rw [show ((17 : Int32) + (1 : Int32)) = (18 : Int32) from by decide]
    refine og (fun _ k => XS.goto X0.here hx rfl (pc0 := 47) (pc' := 20) rfl (hb hby d35_15_47) (by decide) (by decide) k) ?_
    refine og (fun _ k => XS.iload X0.here hx rfl (hb hby d35_15_20) rfl k) ?_
    refine og (fun _ k => XS.bipush X0.here hx rfl (hb hby d35_15_22) k) ?_
    refine og (fun _ k => XS.icmpNo X0.here hx rfl (hb hby d35_15_24) rfl (tlt (by decide : (18 : Int32) < 19)).2.1 k) ?_
    refine og (fun _ k => XS.lloadN X0.here hx rfl (hb hby d35_15_27) rfl k) ?_
    refine og (fun _ k => XS.lloadN X0.here hx rfl (hb hby d35_15_28) rfl k) ?_
    refine og (fun _ k => XS.lcmp X0.here hx rfl (hb hby d35_15_29) rfl k) ?_
    have c18 := Jvm.Free.SBG.negL_lt hn2 1000000000000000000 (by decide)
    rw [show Jvm.Free.SBG.negL 1000000000000000000 = (-1000000000000000000 : Int64) from by decide +kernel] at c18
    by_cases q18 : n < 1000000000000000000
    case pos =>
      refine og (fun _ k => XS.ifNo X0.here hx rfl (hb hby d35_15_30) rfl ((if0 _ _).trans (tlt ((lw_gt _ _).mpr (c18.mpr q18))).2.2.2) k) ?_
      refine og (fun _ k => XS.iload X0.here hx rfl (hb hby d35_15_33) rfl k) ?_
      refine og (fun _ k => XS.iloadN X0.here hx rfl (hb hby d35_15_35) rfl k) ?_
      refine og (fun _ k => XS.iadd X0.here hx rfl (hb hby d35_15_36) rfl k) ?_
      show OGo p e below _ s₁ (mkF m 37 #[.val (.long (Jvm.Free.SBG.negL (n))), .second, .val (.int (Int32.ofNat s2)), .val (.long (-1000000000000000000 : Int64)), .second, .val (.int (18 : Int32))] [(.int ((18 : Int32) + (Int32.ofNat s2)))])
      exact OGo.ret X0 hx (t := .int) hret hlk rfl (Or.inl ⟨rfl, by simp, _, rfl⟩) (hb hby d35_15_37) (by decide) (by decide) ⟨by rw [own_wl18 (by omega) q18, ← hs2, ← own_addn]; rfl, rfl, e0⟩
    refine og (fun _ k => XS.ifYes X0.here hx rfl (pc0 := 30) (pc' := 38) rfl (hb hby d35_15_30) rfl ((if0 _ _).trans (flt (fun h => q18 (c18.mp ((lw_gt _ _).mp h)))).2.2.2) (by decide) (by decide) k) ?_
    refine og (fun _ k => Jvm.Stand.ldc2J X0 hx hown (mvT hZ (own_g hw 282 rfl)) rfl (hb hby d35_15_38) k) ?_
    refine og (fun _ k => XS.lloadN X0.here hx rfl (hb hby d35_15_41) rfl k) ?_
    refine og (fun _ k => XS.lmul X0.here hx rfl (hb hby d35_15_42) rfl k) ?_
    refine og (fun _ k => XS.lstoreN X0.here hx rfl (hb hby d35_15_43) rfl (l' := #[.val (.long (Jvm.Free.SBG.negL (n))), .second, .val (.int (Int32.ofNat s2)), .val (.long ((10 : Int64) * (-1000000000000000000 : Int64))), .second, .val (.int (18 : Int32))]) rfl k) ?_
    refine og (fun _ k => XS.iinc X0.here hx rfl (hb hby d35_15_44) rfl (l' := #[.val (.long (Jvm.Free.SBG.negL (n))), .second, .val (.int (Int32.ofNat s2)), .val (.long ((10 : Int64) * (-1000000000000000000 : Int64))), .second, .val (.int ((18 : Int32) + (1 : Int32)))]) rfl k) ?_
    show OGo p e below _ s₁ (mkF m 47 #[.val (.long (Jvm.Free.SBG.negL (n))), .second, .val (.int (Int32.ofNat s2)), .val (.long ((10 : Int64) * (-1000000000000000000 : Int64))), .second, .val (.int ((18 : Int32) + (1 : Int32)))] [])
    rw [show ((18 : Int32) + (1 : Int32)) = (19 : Int32) from by decide]
    refine og (fun _ k => XS.goto X0.here hx rfl (pc0 := 47) (pc' := 20) rfl (hb hby d35_15_47) (by decide) (by decide) k) ?_
    refine og (fun _ k => XS.iload X0.here hx rfl (hb hby d35_15_20) rfl k) ?_
    refine og (fun _ k => XS.bipush X0.here hx rfl (hb hby d35_15_22) k) ?_
    refine og (fun _ k => XS.icmpYes X0.here hx rfl (pc0 := 24) (pc' := 50) rfl (hb hby d35_15_24) rfl (flt (by decide : ¬ (19 : Int32) < 19)).2.1 (by decide) (by decide) k) ?_
    refine og (fun _ k => XS.bipush X0.here hx rfl (hb hby d35_15_50) k) ?_
    refine og (fun _ k => XS.iloadN X0.here hx rfl (hb hby d35_15_52) rfl k) ?_
    refine og (fun _ k => XS.iadd X0.here hx rfl (hb hby d35_15_53) rfl k) ?_
    show OGo p e below _ s₁ (mkF m 54 #[.val (.long (Jvm.Free.SBG.negL (n))), .second, .val (.int (Int32.ofNat s2)), .val (.long ((10 : Int64) * (-1000000000000000000 : Int64))), .second, .val (.int (19 : Int32))] [(.int ((19 : Int32) + (Int32.ofNat s2)))])
    exact OGo.ret X0 hx (t := .int) hret hlk rfl (Or.inl ⟨rfl, by simp, _, rfl⟩) (hb hby d35_15_54) (by decide) (by decide) ⟨by rw [own_wl19 (by omega), ← hs2, ← own_addn]; rfl, rfl, e0⟩
  by_cases hv : v < 0
  case pos =>
    refine og (fun _ k => XS.ifYes X0.here hx rfl (pc0 := 5) (pc' := 13) rfl (hb hby d35_15_5) rfl ((if0 _ _).trans (tlt ((lw_lt _ _).mpr hv)).1) (by decide) (by decide) k) ?_
    have e1 := own_magn hm hv
    show OGo p e below _ s₁ (mkF m 13 #[.val (.long v), .second, .val (.int (1 : Int32)), .unset, .unset, .unset] [])
    refine OGo.cast ?_ (K13 1 (by rw [own_sg, if_pos hv]))
    rw [← e1]; rfl
  refine og (fun _ k => XS.ifNo X0.here hx rfl (hb hby d35_15_5) rfl ((if0 _ _).trans (flt (fun h => hv ((lw_lt _ _).mp h))).1) k) ?_
  refine og (fun _ k => XS.iconst X0.here hx rfl (hb hby d35_15_8) k) ?_
  refine og (fun _ k => XS.istoreN X0.here hx rfl (hb hby d35_15_9) rfl (l' := #[.val (.long v), .second, .val (.int (0 : Int32)), .unset, .unset, .unset]) rfl k) ?_
  refine og (fun _ k => XS.lloadN X0.here hx rfl (hb hby d35_15_10) rfl k) ?_
  refine og (fun _ k => XS.lneg X0.here hx rfl (hb hby d35_15_11) rfl k) ?_
  show OGo p e below _ s₁ (mkF m 12 #[.val (.long v), .second, .val (.int (0 : Int32)), .unset, .unset, .unset] [(.long (-v))])
  rw [own_magp hm hv]
  refine og (fun _ k => XS.lstoreN X0.here hx rfl (hb hby d35_15_12) rfl (l' := #[.val (.long (Jvm.Free.SBG.negL (n))), .second, .val (.int (0 : Int32)), .unset, .unset, .unset]) rfl k) ?_
  exact K13 0 (by rw [own_sg, if_neg hv])
theorem d35_14_178 : DK jdk_35_method_14_code 178 (.iload 8) 2 := by decide +kernel
theorem d35_14_180 : DK jdk_35_method_14_code 180 (.ifCond .eq 12) 3 := by decide +kernel
theorem d35_14_192 : DK jdk_35_method_14_code 192 (.iload 7) 2 := by decide +kernel
theorem d35_14_194 : DK jdk_35_method_14_code 194 .ireturn 1 := by decide +kernel
theorem d35_14_183 : DK jdk_35_method_14_code 183 (.aload_n 3) 1 := by decide +kernel
theorem d35_14_184 : DK jdk_35_method_14_code 184 (.iinc 7 (-1)) 3 := by decide +kernel
theorem d35_14_187 : DK jdk_35_method_14_code 187 (.iload 7) 2 := by decide +kernel
theorem d35_14_189 : DK jdk_35_method_14_code 189 (.bipush 45) 2 := by decide +kernel
theorem d35_14_191 : DK jdk_35_method_14_code 191 .bastore 1 := by decide +kernel
theorem d35_14_86 : DK jdk_35_method_14_code 86 (.iload 10) 2 := by decide +kernel
theorem d35_14_88 : DK jdk_35_method_14_code 88 (.bipush (-100)) 2 := by decide +kernel
theorem d35_14_90 : DK jdk_35_method_14_code 90 (.if_icmp .gt 53) 3 := by decide +kernel
theorem d35_14_93 : DK jdk_35_method_14_code 93 (.iload 10) 2 := by decide +kernel
theorem d35_14_95 : DK jdk_35_method_14_code 95 (.bipush 100) 2 := by decide +kernel
theorem d35_14_97 : DK jdk_35_method_14_code 97 .idiv 1 := by decide +kernel
theorem d35_14_98 : DK jdk_35_method_14_code 98 (.istore 9) 2 := by decide +kernel
theorem d35_14_100 : DK jdk_35_method_14_code 100 (.iload 9) 2 := by decide +kernel
theorem d35_14_102 : DK jdk_35_method_14_code 102 (.bipush 100) 2 := by decide +kernel
theorem d35_14_104 : DK jdk_35_method_14_code 104 .imul 1 := by decide +kernel
theorem d35_14_105 : DK jdk_35_method_14_code 105 (.iload 10) 2 := by decide +kernel
theorem d35_14_107 : DK jdk_35_method_14_code 107 .isub 1 := by decide +kernel
theorem d35_14_108 : DK jdk_35_method_14_code 108 (.istore 6) 2 := by decide +kernel
theorem d35_14_110 : DK jdk_35_method_14_code 110 (.iload 9) 2 := by decide +kernel
theorem d35_14_112 : DK jdk_35_method_14_code 112 (.istore 10) 2 := by decide +kernel
theorem d35_14_114 : DK jdk_35_method_14_code 114 (.aload_n 3) 1 := by decide +kernel
theorem d35_14_115 : DK jdk_35_method_14_code 115 (.iinc 7 (-1)) 3 := by decide +kernel
theorem d35_14_118 : DK jdk_35_method_14_code 118 (.iload 7) 2 := by decide +kernel
theorem d35_14_120 : DK jdk_35_method_14_code 120 (.getstatic 133) 3 := by decide +kernel
theorem d35_14_123 : DK jdk_35_method_14_code 123 (.iload 6) 2 := by decide +kernel
theorem d35_14_125 : DK jdk_35_method_14_code 125 .baload 1 := by decide +kernel
theorem d35_14_126 : DK jdk_35_method_14_code 126 .bastore 1 := by decide +kernel
theorem d35_14_127 : DK jdk_35_method_14_code 127 (.aload_n 3) 1 := by decide +kernel
theorem d35_14_128 : DK jdk_35_method_14_code 128 (.iinc 7 (-1)) 3 := by decide +kernel
theorem d35_14_131 : DK jdk_35_method_14_code 131 (.iload 7) 2 := by decide +kernel
theorem d35_14_133 : DK jdk_35_method_14_code 133 (.getstatic 137) 3 := by decide +kernel
theorem d35_14_136 : DK jdk_35_method_14_code 136 (.iload 6) 2 := by decide +kernel
theorem d35_14_138 : DK jdk_35_method_14_code 138 .baload 1 := by decide +kernel
theorem d35_14_139 : DK jdk_35_method_14_code 139 .bastore 1 := by decide +kernel
theorem d35_14_140 : DK jdk_35_method_14_code 140 (.goto (-54)) 3 := by decide +kernel
theorem d35_14_143 : DK jdk_35_method_14_code 143 (.aload_n 3) 1 := by decide +kernel
theorem d35_14_144 : DK jdk_35_method_14_code 144 (.iinc 7 (-1)) 3 := by decide +kernel
theorem d35_14_147 : DK jdk_35_method_14_code 147 (.iload 7) 2 := by decide +kernel
theorem d35_14_149 : DK jdk_35_method_14_code 149 (.getstatic 133) 3 := by decide +kernel
theorem d35_14_152 : DK jdk_35_method_14_code 152 (.iload 10) 2 := by decide +kernel
theorem d35_14_154 : DK jdk_35_method_14_code 154 .ineg 1 := by decide +kernel
theorem d35_14_155 : DK jdk_35_method_14_code 155 .baload 1 := by decide +kernel
theorem d35_14_156 : DK jdk_35_method_14_code 156 .bastore 1 := by decide +kernel
theorem d35_14_157 : DK jdk_35_method_14_code 157 (.iload 10) 2 := by decide +kernel
theorem d35_14_159 : DK jdk_35_method_14_code 159 (.bipush (-9)) 2 := by decide +kernel
theorem d35_14_161 : DK jdk_35_method_14_code 161 (.if_icmp .ge 17) 3 := by decide +kernel
theorem d35_14_164 : DK jdk_35_method_14_code 164 (.aload_n 3) 1 := by decide +kernel
theorem d35_14_165 : DK jdk_35_method_14_code 165 (.iinc 7 (-1)) 3 := by decide +kernel
theorem d35_14_168 : DK jdk_35_method_14_code 168 (.iload 7) 2 := by decide +kernel
theorem d35_14_170 : DK jdk_35_method_14_code 170 (.getstatic 137) 3 := by decide +kernel
theorem d35_14_173 : DK jdk_35_method_14_code 173 (.iload 10) 2 := by decide +kernel
theorem d35_14_175 : DK jdk_35_method_14_code 175 .ineg 1 := by decide +kernel
theorem d35_14_176 : DK jdk_35_method_14_code 176 .baload 1 := by decide +kernel
theorem d35_14_177 : DK jdk_35_method_14_code 177 .bastore 1 := by decide +kernel
theorem d35_14_24 : DK jdk_35_method_14_code 24 (.lload_n 0) 1 := by decide +kernel
theorem d35_14_25 : DK jdk_35_method_14_code 25 (.ldc2_w 129) 3 := by decide +kernel
theorem d35_14_28 : DK jdk_35_method_14_code 28 .lcmp 1 := by decide +kernel
theorem d35_14_29 : DK jdk_35_method_14_code 29 (.ifCond .gt 53) 3 := by decide +kernel
theorem d35_14_32 : DK jdk_35_method_14_code 32 (.lload_n 0) 1 := by decide +kernel
theorem d35_14_33 : DK jdk_35_method_14_code 33 (.ldc2_w 131) 3 := by decide +kernel
theorem d35_14_36 : DK jdk_35_method_14_code 36 .ldiv 1 := by decide +kernel
theorem d35_14_37 : DK jdk_35_method_14_code 37 (.lstore 4) 2 := by decide +kernel
theorem d35_14_39 : DK jdk_35_method_14_code 39 (.lload 4) 2 := by decide +kernel
theorem d35_14_41 : DK jdk_35_method_14_code 41 (.ldc2_w 131) 3 := by decide +kernel
theorem d35_14_44 : DK jdk_35_method_14_code 44 .lmul 1 := by decide +kernel
theorem d35_14_45 : DK jdk_35_method_14_code 45 (.lload_n 0) 1 := by decide +kernel
theorem d35_14_46 : DK jdk_35_method_14_code 46 .lsub 1 := by decide +kernel
theorem d35_14_47 : DK jdk_35_method_14_code 47 .l2i 1 := by decide +kernel
theorem d35_14_48 : DK jdk_35_method_14_code 48 (.istore 6) 2 := by decide +kernel
theorem d35_14_50 : DK jdk_35_method_14_code 50 (.lload 4) 2 := by decide +kernel
theorem d35_14_52 : DK jdk_35_method_14_code 52 (.lstore_n 0) 1 := by decide +kernel
theorem d35_14_53 : DK jdk_35_method_14_code 53 (.aload_n 3) 1 := by decide +kernel
theorem d35_14_54 : DK jdk_35_method_14_code 54 (.iinc 7 (-1)) 3 := by decide +kernel
theorem d35_14_57 : DK jdk_35_method_14_code 57 (.iload 7) 2 := by decide +kernel
theorem d35_14_59 : DK jdk_35_method_14_code 59 (.getstatic 133) 3 := by decide +kernel
theorem d35_14_62 : DK jdk_35_method_14_code 62 (.iload 6) 2 := by decide +kernel
theorem d35_14_64 : DK jdk_35_method_14_code 64 .baload 1 := by decide +kernel
theorem d35_14_65 : DK jdk_35_method_14_code 65 .bastore 1 := by decide +kernel
theorem d35_14_66 : DK jdk_35_method_14_code 66 (.aload_n 3) 1 := by decide +kernel
theorem d35_14_67 : DK jdk_35_method_14_code 67 (.iinc 7 (-1)) 3 := by decide +kernel
theorem d35_14_70 : DK jdk_35_method_14_code 70 (.iload 7) 2 := by decide +kernel
theorem d35_14_72 : DK jdk_35_method_14_code 72 (.getstatic 137) 3 := by decide +kernel
theorem d35_14_75 : DK jdk_35_method_14_code 75 (.iload 6) 2 := by decide +kernel
theorem d35_14_77 : DK jdk_35_method_14_code 77 .baload 1 := by decide +kernel
theorem d35_14_78 : DK jdk_35_method_14_code 78 .bastore 1 := by decide +kernel
theorem d35_14_79 : DK jdk_35_method_14_code 79 (.goto (-55)) 3 := by decide +kernel
theorem d35_14_82 : DK jdk_35_method_14_code 82 (.lload_n 0) 1 := by decide +kernel
theorem d35_14_83 : DK jdk_35_method_14_code 83 .l2i 1 := by decide +kernel
theorem d35_14_84 : DK jdk_35_method_14_code 84 (.istore 10) 2 := by decide +kernel
theorem d35_14_0 : DK jdk_35_method_14_code 0 (.iload_n 2) 1 := by decide +kernel
theorem d35_14_1 : DK jdk_35_method_14_code 1 (.istore 7) 2 := by decide +kernel
theorem d35_14_3 : DK jdk_35_method_14_code 3 (.lload_n 0) 1 := by decide +kernel
theorem d35_14_4 : DK jdk_35_method_14_code 4 (.lconst 0) 1 := by decide +kernel
theorem d35_14_5 : DK jdk_35_method_14_code 5 .lcmp 1 := by decide +kernel
theorem d35_14_6 : DK jdk_35_method_14_code 6 (.ifCond .ge 7) 3 := by decide +kernel
theorem d35_14_9 : DK jdk_35_method_14_code 9 (.iconst 1) 1 := by decide +kernel
theorem d35_14_10 : DK jdk_35_method_14_code 10 (.goto 4) 3 := by decide +kernel
theorem d35_14_14 : DK jdk_35_method_14_code 14 (.istore 8) 2 := by decide +kernel
theorem d35_14_16 : DK jdk_35_method_14_code 16 (.iload 8) 2 := by decide +kernel
theorem d35_14_18 : DK jdk_35_method_14_code 18 (.ifCond .ne 6) 3 := by decide +kernel
theorem d35_14_13 : DK jdk_35_method_14_code 13 (.iconst 0) 1 := by decide +kernel
theorem d35_14_21 : DK jdk_35_method_14_code 21 (.lload_n 0) 1 := by decide +kernel
theorem d35_14_22 : DK jdk_35_method_14_code 22 .lneg 1 := by decide +kernel
theorem d35_14_23 : DK jdk_35_method_14_code 23 (.lstore_n 0) 1 := by decide +kernel
theorem opl_rm_gcJ : plainFor (⟨"java/lang/Long", "getChars", "(JI[B)I"⟩ : MethodName) = true := plainFor_of_name (by first | (simp [plainName, overriddenIn]; done) | decide +kernel)
theorem rm_gcJ (l : Launch) (Z : State) (a0 : Array Value) (hw : ∀ d ∈ tables_1, d.before a0 Z = true) (ws : List Jvm.Cond) (v : Int64) (n : Nat) (d : Addr) (k : ClassId) (zn : Nat) (bs : List Value) (zc : Int32) (wf : Value) (n0 : Nat) (d1 d2 : Addr) (kd1 kd2 : ClassId) (h0 : Heap) (SS : own_SS Z zc wf) (O : Old Z n0 h0) (SI : own_SI Z d1 d2 kd1 kd2) (hm : own_mag v n) (V : Arv Z h0 d k .byte (Int32.ofNat zn) bs (.int (0 : Int32))) (hbz : bs.length + (own_wl n + own_sg v) ≤ zn) (hzn : zn ≤ 142) (g_d : n0 ≤ d) :
    Con l Z (⟨"java/lang/Long", "getChars", "(JI[B)I"⟩ : MethodName) jdk_35_method_14_code 11 (some .int) ws ({ frames := 0, cells := 0, slots := 0, locals := 0 } : Room) #[(.long v), (.int (Int32.ofNat (bs.length + (own_wl n + own_sg v)))), (.ref d)] h0 (fun v' h L => v' = some (.int (Int32.ofNat bs.length)) ∧ Fr n0 L ∧ Keep h0 h [d] ∧ Arv Z h d k .byte (Int32.ofNat zn) (bs ++ own_num v n) (.int (0 : Int32))) := by
  refine Con.intro opl_rm_gcJ ?_
  intro p e s m below meth c s₁ hx hby hml hown hret hlk hZ hnm X0 e0
  have SS' := SS
  obtain ⟨hzc, SC, hwf, SF⟩ := SS
  have Z0 : n0 ≤ h0.size := O.1 ▸ O.2.1
  have N0 := Fr.nil n0
  have SI' := SI
  obtain ⟨S1, V1, S2, V2⟩ := SI
  refine OGo.cast (g' := (mkF m 0 #[.val (.long v), .second, .val (.int (Int32.ofNat (bs.length + (own_wl n + own_sg v)))), .val (.ref d), .unset, .unset, .unset, .unset, .unset, .unset, .unset] [])) (by first | (simp [entryFrame, mkF, argsToLocals, Value.category]; done) | rfl) ?_
  have hn2 : n ≤ 2 ^ 63 := hm.1
  obtain ⟨P1, P2, P3, P4⟩ := own_wlp hm.1
  have hsg := own_sgle v
  have W1 := V1.ext O.2
  have W2 := V2.ext O.2
  have n1 : d1 ≠ d := O.ne V1.lt g_d
  have n2 : d2 ≠ d := O.ne V2.lt g_d
  obtain ⟨b2, hb2⟩ : ∃ z, z = bs ++ List.replicate (own_sg v) (Value.int (0 : Int32)) := ⟨_, rfl⟩
  have lb2 : b2.length = bs.length + own_sg v := by rw [hb2, List.length_append, List.length_replicate]
  have tail : ∀ (x0 : Int64) (ix y2 : Int32) (s4 s5 s6 s9 : Slot) (T : State) (h : Heap) (locs : List Loc), Stand p l e ({ frames := 0, cells := 0, slots := 0, locals := 0 } : Room) s m #[(.long v), (.int (Int32.ofNat (bs.length + (own_wl n + own_sg v)))), (.ref d)] below meth c T locs 0 0 → T.heap = h → Fr n0 locs → Keep h0 h [d] → Arv Z h d k .byte (Int32.ofNat zn) (b2 ++ own_dig (own_wl n) n) (.int (0 : Int32)) → OGo p e below (EndQ s ({ frames := 0, cells := 0, slots := 0, locals := 0 } : Room) (fun v' h L => v' = some (.int (Int32.ofNat bs.length)) ∧ Fr n0 L ∧ Keep h0 h [d] ∧ Arv Z h d k .byte (Int32.ofNat zn) (bs ++ own_num v n) (.int (0 : Int32)))) T (mkF m 178 #[.val (.long x0), .second, .val (.int ix), .val (.ref d), s4, s5, s6, .val (.int (Int32.ofNat (b2.length))), .val (.int (Int32.ofNat (own_sg v))), s9, .val (.int y2)] []) := by
    intro x0 ix y2 s4 s5 s6 s9 T h locs X eT N K Vd
    refine og (fun _ k => XS.iload X.here hx rfl (hb hby d35_14_178) rfl k) ?_
    by_cases hv : v < 0
    case neg =>
      show OGo p e below _ T (mkF m 180 #[.val (.long x0), .second, .val (.int ix), .val (.ref d), s4, s5, s6, .val (.int (Int32.ofNat (b2.length))), .val (.int (Int32.ofNat (own_sg v))), s9, .val (.int y2)] [(.int (Int32.ofNat (own_sg v)))])
      refine og (fun _ k => XS.ifYes X.here hx rfl (pc0 := 180) (pc' := 192) rfl (hb hby d35_14_180) rfl ((if0 _ _).trans (teq (by rw [own_sg, if_neg hv]; rfl)).1) (by decide) (by decide) k) ?_
      have e2 : b2 = bs := by rw [hb2, own_sg, if_neg hv]; exact List.append_nil _
      refine og (fun _ k => XS.iload X.here hx rfl (hb hby d35_14_192) rfl k) ?_
      show OGo p e below _ T (mkF m 194 #[.val (.long x0), .second, .val (.int ix), .val (.ref d), s4, s5, s6, .val (.int (Int32.ofNat (b2.length))), .val (.int (Int32.ofNat (own_sg v))), s9, .val (.int y2)] [(.int (Int32.ofNat (b2.length)))])
      exact OGo.ret X hx (t := .int) hret hlk rfl (Or.inl ⟨rfl, by simp, _, rfl⟩) (hb hby d35_14_194) (by decide) (by decide) (by rw [eT, own_num, if_neg hv, ← e2]; exact ⟨rfl, N, K, Vd⟩)
    have s1 : own_sg v = 1 := by rw [own_sg, if_pos hv]
    show OGo p e below _ T (mkF m 180 #[.val (.long x0), .second, .val (.int ix), .val (.ref d), s4, s5, s6, .val (.int (Int32.ofNat (b2.length))), .val (.int (Int32.ofNat (own_sg v))), s9, .val (.int y2)] [(.int (Int32.ofNat (own_sg v)))])
    refine og (fun _ k => XS.ifNo X.here hx rfl (hb hby d35_14_180) rfl ((if0 _ _).trans (feq (by rw [s1]; decide)).1) k) ?_
    refine og (fun _ k => XS.aloadN X.here hx rfl (hb hby d35_14_183) rfl rfl k) ?_
    refine og (fun _ k => XS.iinc X.here hx rfl (hb hby d35_14_184) rfl (l' := #[.val (.long x0), .second, .val (.int ix), .val (.ref d), s4, s5, s6, .val (.int ((Int32.ofNat (b2.length)) + (-1 : Int32))), .val (.int (Int32.ofNat (own_sg v))), s9, .val (.int y2)]) rfl k) ?_
    show OGo p e below _ T (mkF m 187 #[.val (.long x0), .second, .val (.int ix), .val (.ref d), s4, s5, s6, .val (.int ((Int32.ofNat (b2.length)) + (-1 : Int32))), .val (.int (Int32.ofNat (own_sg v))), s9, .val (.int y2)] [(.ref d)])
    rw [own_dec (show 1 ≤ b2.length by omega), show b2.length - 1 = bs.length by omega]
    refine og (fun _ k => XS.iload X.here hx rfl (hb hby d35_14_187) rfl k) ?_
    refine og (fun _ k => XS.bipush X.here hx rfl (hb hby d35_14_189) k) ?_
    obtain ⟨T86, h86, X86, e86, W86, Vq86, st86⟩ := bastoreV X hx hZ eT Vd (j := (Int32.ofNat (bs.length))) ⟨own_nn (by omega), (own_lt (by omega) (by omega)).mpr (by omega)⟩ (by rw [own_cl (by omega), List.length_append]; omega) (g := (mkF m 191 #[.val (.long x0), .second, .val (.int ix), .val (.ref d), s4, s5, s6, .val (.int (Int32.ofNat (bs.length))), .val (.int (Int32.ofNat (own_sg v))), s9, .val (.int y2)] [(.int (45 : Int32)), (.int (Int32.ofNat (bs.length))), (.ref d)])) rfl rfl (hb hby d35_14_191)
    have N86 := Fr.snoc X86 N g_d
    have KK86 : Keep h0 h86 [d] := K.wr W86 (Or.inl (List.mem_of_getElem? (i := 0) rfl))
    refine og st86 ?_
    rw [own_cl (show bs.length < 2147483648 by omega), hb2, s1, own_setm, show nar .byte (45 : Int32) = 45 from by decide] at Vq86
    refine og (fun _ k => XS.iload X86.here hx rfl (hb hby d35_14_192) rfl k) ?_
    show OGo p e below _ T86 (mkF m 194 #[.val (.long x0), .second, .val (.int ix), .val (.ref d), s4, s5, s6, .val (.int (Int32.ofNat (bs.length))), .val (.int (Int32.ofNat (own_sg v))), s9, .val (.int y2)] [(.int (Int32.ofNat (bs.length)))])
    exact OGo.ret X86 hx (t := .int) hret hlk rfl (Or.inl ⟨rfl, by simp, _, rfl⟩) (hb hby d35_14_194) (by decide) (by decide) (by rw [e86, own_num, if_pos hv]; exact ⟨rfl, N86, KK86, Vq86⟩)
  have loop2 : ∀ (f r t y : Nat) (x0 : Int64) (ix : Int32) (s4 s5 s6 s9 : Slot) (T : State) (h : Heap) (locs : List Loc), r ≤ f → t + r = own_wl n → y = n / 10 ^ t → y < 10 ^ r → (2 ≤ r → 10 ^ (r - 1) ≤ y) → 1 ≤ r → y ≤ 2147483648 → own_two s4 s5 → One s6 → One s9 → Stand p l e ({ frames := 0, cells := 0, slots := 0, locals := 0 } : Room) s m #[(.long v), (.int (Int32.ofNat (bs.length + (own_wl n + own_sg v)))), (.ref d)] below meth c T locs 0 0 → T.heap = h → Fr n0 locs → Keep h0 h [d] → Old Z n0 h → Arv Z h d1 kd1 .byte (100 : Int32) own_onel (.int (0 : Int32)) → Arv Z h d2 kd2 .byte (100 : Int32) own_tenl (.int (0 : Int32)) → Arv Z h d k .byte (Int32.ofNat zn) (own_L b2 (own_wl n) t n) (.int (0 : Int32)) → OGo p e below (EndQ s ({ frames := 0, cells := 0, slots := 0, locals := 0 } : Room) (fun v' h L => v' = some (.int (Int32.ofNat bs.length)) ∧ Fr n0 L ∧ Keep h0 h [d] ∧ Arv Z h d k .byte (Int32.ofNat zn) (bs ++ own_num v n) (.int (0 : Int32)))) T (mkF m 86 #[.val (.long x0), .second, .val (.int ix), .val (.ref d), s4, s5, s6, .val (.int (Int32.ofNat (b2.length + r))), .val (.int (Int32.ofNat (own_sg v))), s9, .val (.int (Jvm.Free.SBG.negI (y)))] []) := by
    intro f
    induction f with
    | zero => intro r t y x0 ix s4 s5 s6 s9 T h locs hf ht hm2 hlt hle hr; omega
    | succ f ih =>
      intro r t y x0 ix s4 s5 s6 s9 T h locs hf ht hmy hlt hle hr hy31 h45 h6 h9 X eT N K Oo U1 U2 Vd
      have hm2 : y ≤ 2 ^ 31 := hy31
      have cg := Jvm.Free.SBG.negI_lt hm2 100 (by decide)
      rw [show Jvm.Free.SBG.negI 100 = (-100 : Int32) from by decide +kernel] at cg
      refine og (fun _ k => XS.iload X.here hx rfl (hb hby d35_14_86) rfl k) ?_
      refine og (fun _ k => XS.bipush X.here hx rfl (hb hby d35_14_88) k) ?_
      by_cases q : y < 100
      case neg =>
        have r3 := own_r3 hlt (by omega)
        obtain ⟨r, rfl⟩ : ∃ z, r = z + 2 := ⟨r - 2, by omega⟩
        refine og (fun _ k => XS.icmpNo X.here hx rfl (hb hby d35_14_90) rfl (flt (fun h => q (cg.mp h))).2.2.1 k) ?_
        refine og (fun _ k => XS.iload X.here hx rfl (hb hby d35_14_93) rfl k) ?_
        refine og (fun _ k => XS.bipush X.here hx rfl (hb hby d35_14_95) k) ?_
        refine og (fun _ k => XS.idiv X.here hx rfl (hb hby d35_14_97) rfl (by decide) k) ?_
        show OGo p e below _ T (mkF m 98 #[.val (.long x0), .second, .val (.int ix), .val (.ref d), s4, s5, s6, .val (.int (Int32.ofNat (b2.length + (r + 2)))), .val (.int (Int32.ofNat (own_sg v))), s9, .val (.int (Jvm.Free.SBG.negI (y)))] [(.int ((Jvm.Free.SBG.negI (y)) / (100 : Int32)))])
        rw [Jvm.Free.SBG.negI_div100 hm2]
        refine og (fun _ k => XS.istore X.here hx rfl (hb hby d35_14_98) rfl (own_sl9 rfl h9) k) ?_
        refine og (fun _ k => XS.iload X.here hx rfl (hb hby d35_14_100) rfl k) ?_
        refine og (fun _ k => XS.bipush X.here hx rfl (hb hby d35_14_102) k) ?_
        refine og (fun _ k => XS.imul X.here hx rfl (hb hby d35_14_104) rfl k) ?_
        refine og (fun _ k => XS.iload X.here hx rfl (hb hby d35_14_105) rfl k) ?_
        refine og (fun _ k => XS.isub X.here hx rfl (hb hby d35_14_107) rfl k) ?_
        show OGo p e below _ T (mkF m 108 #[.val (.long x0), .second, .val (.int ix), .val (.ref d), s4, s5, s6, .val (.int (Int32.ofNat (b2.length + (r + 2)))), .val (.int (Int32.ofNat (own_sg v))), .val (.int (Jvm.Free.SBG.negI (y / 100))), .val (.int (Jvm.Free.SBG.negI (y)))] [(.int (((Jvm.Free.SBG.negI (y / 100)) * (100 : Int32)) - (Jvm.Free.SBG.negI (y))))])
        rw [Jvm.Free.SBG.negI_rem hm2]
        refine og (fun _ k => XS.istore X.here hx rfl (hb hby d35_14_108) rfl (own_sl6 h45 h6) k) ?_
        refine og (fun _ k => XS.iload X.here hx rfl (hb hby d35_14_110) rfl k) ?_
        refine og (fun _ k => XS.istore X.here hx rfl (hb hby d35_14_112) rfl (l' := #[.val (.long x0), .second, .val (.int ix), .val (.ref d), s4, s5, .val (.int (Int32.ofNat (y % 100))), .val (.int (Int32.ofNat (b2.length + (r + 2)))), .val (.int (Int32.ofNat (own_sg v))), .val (.int (Jvm.Free.SBG.negI (y / 100))), .val (.int (Jvm.Free.SBG.negI (y / 100)))]) rfl k) ?_
        refine og (fun _ k => XS.aloadN X.here hx rfl (hb hby d35_14_114) rfl rfl k) ?_
        refine og (fun _ k => XS.iinc X.here hx rfl (hb hby d35_14_115) rfl (l' := #[.val (.long x0), .second, .val (.int ix), .val (.ref d), s4, s5, .val (.int (Int32.ofNat (y % 100))), .val (.int ((Int32.ofNat (b2.length + (r + 2))) + (-1 : Int32))), .val (.int (Int32.ofNat (own_sg v))), .val (.int (Jvm.Free.SBG.negI (y / 100))), .val (.int (Jvm.Free.SBG.negI (y / 100)))]) rfl k) ?_
        show OGo p e below _ T (mkF m 118 #[.val (.long x0), .second, .val (.int ix), .val (.ref d), s4, s5, .val (.int (Int32.ofNat (y % 100))), .val (.int ((Int32.ofNat (b2.length + (r + 2))) + (-1 : Int32))), .val (.int (Int32.ofNat (own_sg v))), .val (.int (Jvm.Free.SBG.negI (y / 100))), .val (.int (Jvm.Free.SBG.negI (y / 100)))] [(.ref d)])
        rw [own_dec (show 1 ≤ b2.length + (r + 2) by omega), show b2.length + (r + 2) - 1 = b2.length + (r + 1) by omega]
        refine og (fun _ k => XS.iload X.here hx rfl (hb hby d35_14_118) rfl k) ?_
        obtain ⟨T87, X87, e87, st87⟩ := getS2 X hx hZ hown (host := "") (Or.inl (own_g hw 187 rfl)) Via.refl eT (S1.ext Oo.2) (g := (mkF m 120 #[.val (.long x0), .second, .val (.int ix), .val (.ref d), s4, s5, .val (.int (Int32.ofNat (y % 100))), .val (.int (Int32.ofNat (b2.length + (r + 1)))), .val (.int (Int32.ofNat (own_sg v))), .val (.int (Jvm.Free.SBG.negI (y / 100))), .val (.int (Jvm.Free.SBG.negI (y / 100)))] [(.int (Int32.ofNat (b2.length + (r + 1)))), (.ref d)])) rfl (hb hby d35_14_120)
        refine og st87 ?_
        refine og (fun _ k => XS.iload X87.here hx rfl (hb hby d35_14_123) rfl k) ?_
        refine og (fun _ k => baloadV X87 hx hZ e87 U1 ⟨own_nn (by omega), (own_lt (b := 100) (by omega) (by decide)).mpr (by omega)⟩ (own_oneat (by omega)) (g := (mkF m 125 #[.val (.long x0), .second, .val (.int ix), .val (.ref d), s4, s5, .val (.int (Int32.ofNat (y % 100))), .val (.int (Int32.ofNat (b2.length + (r + 1)))), .val (.int (Int32.ofNat (own_sg v))), .val (.int (Jvm.Free.SBG.negI (y / 100))), .val (.int (Jvm.Free.SBG.negI (y / 100)))] [(.int (Int32.ofNat (y % 100))), (.ref d1), (.int (Int32.ofNat (b2.length + (r + 1)))), (.ref d)])) rfl rfl (hb hby d35_14_125) _ k) ?_
        show OGo p e below _ T87 (mkF m 126 #[.val (.long x0), .second, .val (.int ix), .val (.ref d), s4, s5, .val (.int (Int32.ofNat (y % 100))), .val (.int (Int32.ofNat (b2.length + (r + 1)))), .val (.int (Int32.ofNat (own_sg v))), .val (.int (Jvm.Free.SBG.negI (y / 100))), .val (.int (Jvm.Free.SBG.negI (y / 100)))] [(.int (Int32.ofNat (48 + y % 100 % 10))), (.int (Int32.ofNat (b2.length + (r + 1)))), (.ref d)])
        rw [show y % 100 % 10 = n / 10 ^ (t) % 10 from (by rw [own_ones, hmy])]
        have hj : ¬ Int32.ofNat (b2.length + (r + 1)) < 0 ∧ Int32.ofNat (b2.length + (r + 1)) < (Int32.ofNat zn) := ⟨own_nn (by omega), (own_lt (by omega) (by omega)).mpr (by omega)⟩
        obtain ⟨T88, h88, X88, e88, W88, Vq88, st88⟩ := bastoreV X87 hx hZ e87 Vd (j := (Int32.ofNat (b2.length + (r + 1)))) hj (by rw [own_cl (by omega), own_Llen (by omega)]; omega) (g := (mkF m 126 #[.val (.long x0), .second, .val (.int ix), .val (.ref d), s4, s5, .val (.int (Int32.ofNat (y % 100))), .val (.int (Int32.ofNat (b2.length + (r + 1)))), .val (.int (Int32.ofNat (own_sg v))), .val (.int (Jvm.Free.SBG.negI (y / 100))), .val (.int (Jvm.Free.SBG.negI (y / 100)))] [(.int (Int32.ofNat (48 + n / 10 ^ (t) % 10))), (.int (Int32.ofNat (b2.length + (r + 1)))), (.ref d)])) rfl rfl (hb hby d35_14_126)
        have N88 := Fr.snoc X88 N g_d
        have KK88 : Keep h0 h88 [d] := K.wr W88 (Or.inl (List.mem_of_getElem? (i := 0) rfl))
        refine og st88 ?_
        rw [own_cl (show b2.length + (r + 1) < 2147483648 by omega), own_nard _ (by omega), show b2.length + (r + 1) = b2.length + (own_wl n - (t) - 1) by omega, own_Lset (show t < own_wl n by omega)] at Vq88
        refine og (fun _ k => XS.aloadN X88.here hx rfl (hb hby d35_14_127) rfl rfl k) ?_
        refine og (fun _ k => XS.iinc X88.here hx rfl (hb hby d35_14_128) rfl (l' := #[.val (.long x0), .second, .val (.int ix), .val (.ref d), s4, s5, .val (.int (Int32.ofNat (y % 100))), .val (.int ((Int32.ofNat (b2.length + (r + 1))) + (-1 : Int32))), .val (.int (Int32.ofNat (own_sg v))), .val (.int (Jvm.Free.SBG.negI (y / 100))), .val (.int (Jvm.Free.SBG.negI (y / 100)))]) rfl k) ?_
        show OGo p e below _ T88 (mkF m 131 #[.val (.long x0), .second, .val (.int ix), .val (.ref d), s4, s5, .val (.int (Int32.ofNat (y % 100))), .val (.int ((Int32.ofNat (b2.length + (r + 1))) + (-1 : Int32))), .val (.int (Int32.ofNat (own_sg v))), .val (.int (Jvm.Free.SBG.negI (y / 100))), .val (.int (Jvm.Free.SBG.negI (y / 100)))] [(.ref d)])
        rw [own_dec (show 1 ≤ b2.length + (r + 1) by omega), show b2.length + (r + 1) - 1 = b2.length + (r) by omega]
        refine og (fun _ k => XS.iload X88.here hx rfl (hb hby d35_14_131) rfl k) ?_
        obtain ⟨T89, X89, e89, st89⟩ := getS2 X88 hx hZ hown (host := "") (Or.inl (own_g hw 283 rfl)) Via.refl e88 (S2.ext (Oo.wr W88 g_d).2) (g := (mkF m 133 #[.val (.long x0), .second, .val (.int ix), .val (.ref d), s4, s5, .val (.int (Int32.ofNat (y % 100))), .val (.int (Int32.ofNat (b2.length + (r)))), .val (.int (Int32.ofNat (own_sg v))), .val (.int (Jvm.Free.SBG.negI (y / 100))), .val (.int (Jvm.Free.SBG.negI (y / 100)))] [(.int (Int32.ofNat (b2.length + (r)))), (.ref d)])) rfl (hb hby d35_14_133)
        refine og st89 ?_
        refine og (fun _ k => XS.iload X89.here hx rfl (hb hby d35_14_136) rfl k) ?_
        refine og (fun _ k => baloadV X89 hx hZ e89 (U2.other W88 n2) ⟨own_nn (by omega), (own_lt (b := 100) (by omega) (by decide)).mpr (by omega)⟩ (own_tenat (by omega)) (g := (mkF m 138 #[.val (.long x0), .second, .val (.int ix), .val (.ref d), s4, s5, .val (.int (Int32.ofNat (y % 100))), .val (.int (Int32.ofNat (b2.length + (r)))), .val (.int (Int32.ofNat (own_sg v))), .val (.int (Jvm.Free.SBG.negI (y / 100))), .val (.int (Jvm.Free.SBG.negI (y / 100)))] [(.int (Int32.ofNat (y % 100))), (.ref d2), (.int (Int32.ofNat (b2.length + (r)))), (.ref d)])) rfl rfl (hb hby d35_14_138) _ k) ?_
        show OGo p e below _ T89 (mkF m 139 #[.val (.long x0), .second, .val (.int ix), .val (.ref d), s4, s5, .val (.int (Int32.ofNat (y % 100))), .val (.int (Int32.ofNat (b2.length + (r)))), .val (.int (Int32.ofNat (own_sg v))), .val (.int (Jvm.Free.SBG.negI (y / 100))), .val (.int (Jvm.Free.SBG.negI (y / 100)))] [(.int (Int32.ofNat (48 + y % 100 / 10))), (.int (Int32.ofNat (b2.length + (r)))), (.ref d)])
        rw [show y % 100 / 10 = n / 10 ^ (t + 1) % 10 from (by rw [own_tens, hmy, own_divq])]
        have hj : ¬ Int32.ofNat (b2.length + (r)) < 0 ∧ Int32.ofNat (b2.length + (r)) < (Int32.ofNat zn) := ⟨own_nn (by omega), (own_lt (by omega) (by omega)).mpr (by omega)⟩
        obtain ⟨T90, h90, X90, e90, W90, Vq90, st90⟩ := bastoreV X89 hx hZ e89 Vq88 (j := (Int32.ofNat (b2.length + (r)))) hj (by rw [own_cl (by omega), own_Llen (by omega)]; omega) (g := (mkF m 139 #[.val (.long x0), .second, .val (.int ix), .val (.ref d), s4, s5, .val (.int (Int32.ofNat (y % 100))), .val (.int (Int32.ofNat (b2.length + (r)))), .val (.int (Int32.ofNat (own_sg v))), .val (.int (Jvm.Free.SBG.negI (y / 100))), .val (.int (Jvm.Free.SBG.negI (y / 100)))] [(.int (Int32.ofNat (48 + n / 10 ^ (t + 1) % 10))), (.int (Int32.ofNat (b2.length + (r)))), (.ref d)])) rfl rfl (hb hby d35_14_139)
        have N90 := Fr.snoc X90 N88 g_d
        have KK90 : Keep h0 h90 [d] := KK88.wr W90 (Or.inl (List.mem_of_getElem? (i := 0) rfl))
        refine og st90 ?_
        rw [own_cl (show b2.length + (r) < 2147483648 by omega), own_nard _ (by omega), show b2.length + (r) = b2.length + (own_wl n - (t + 1) - 1) by omega, own_Lset (show t + 1 < own_wl n by omega)] at Vq90
        refine og (fun _ k => XS.goto X90.here hx rfl (pc0 := 140) (pc' := 86) rfl (hb hby d35_14_140) (by decide) (by decide) k) ?_
        exact ih r (t + 2) (y / 100) _ _ _ _ _ _ _ _ _ (by omega) (by omega) (by rw [hmy, own_divp]) (own_plt hlt) (fun h => by have q2 := hle (by omega); rw [show r + 2 - 1 = (r - 1) + 2 by omega] at q2; exact own_ple q2) (by omega) (by omega) h45 (One.val rfl) (One.val rfl) X90 e90 N90 KK90 ((Oo.wr W88 g_d).wr W90 g_d) ((U1.other W88 n1).other W90 n1) ((U2.other W88 n2).other W90 n2) Vq90
      refine og (fun _ k => XS.icmpYes X.here hx rfl (pc0 := 90) (pc' := 143) rfl (hb hby d35_14_90) rfl (tlt (cg.mpr q)).2.2.1 (by decide) (by decide) k) ?_
      refine og (fun _ k => XS.aloadN X.here hx rfl (hb hby d35_14_143) rfl rfl k) ?_
      refine og (fun _ k => XS.iinc X.here hx rfl (hb hby d35_14_144) rfl (l' := #[.val (.long x0), .second, .val (.int ix), .val (.ref d), s4, s5, s6, .val (.int ((Int32.ofNat (b2.length + r)) + (-1 : Int32))), .val (.int (Int32.ofNat (own_sg v))), s9, .val (.int (Jvm.Free.SBG.negI (y)))]) rfl k) ?_
      show OGo p e below _ T (mkF m 147 #[.val (.long x0), .second, .val (.int ix), .val (.ref d), s4, s5, s6, .val (.int ((Int32.ofNat (b2.length + r)) + (-1 : Int32))), .val (.int (Int32.ofNat (own_sg v))), s9, .val (.int (Jvm.Free.SBG.negI (y)))] [(.ref d)])
      rw [own_dec (show 1 ≤ b2.length + (r) by omega), show b2.length + (r) - 1 = b2.length + (r - 1) by omega]
      refine og (fun _ k => XS.iload X.here hx rfl (hb hby d35_14_147) rfl k) ?_
      obtain ⟨T91, X91, e91, st91⟩ := getS2 X hx hZ hown (host := "") (Or.inl (own_g hw 187 rfl)) Via.refl eT (S1.ext Oo.2) (g := (mkF m 149 #[.val (.long x0), .second, .val (.int ix), .val (.ref d), s4, s5, s6, .val (.int (Int32.ofNat (b2.length + (r - 1)))), .val (.int (Int32.ofNat (own_sg v))), s9, .val (.int (Jvm.Free.SBG.negI (y)))] [(.int (Int32.ofNat (b2.length + (r - 1)))), (.ref d)])) rfl (hb hby d35_14_149)
      refine og st91 ?_
      refine og (fun _ k => XS.iload X91.here hx rfl (hb hby d35_14_152) rfl k) ?_
      refine og (fun _ k => XS.ineg X91.here hx rfl (hb hby d35_14_154) rfl k) ?_
      show OGo p e below _ T91 (mkF m 155 #[.val (.long x0), .second, .val (.int ix), .val (.ref d), s4, s5, s6, .val (.int (Int32.ofNat (b2.length + (r - 1)))), .val (.int (Int32.ofNat (own_sg v))), s9, .val (.int (Jvm.Free.SBG.negI (y)))] [(.int (-(Jvm.Free.SBG.negI (y)))), (.ref d1), (.int (Int32.ofNat (b2.length + (r - 1)))), (.ref d)])
      rw [Jvm.Free.SBG.neg_negI (show y < 2 ^ 31 by omega)]
      refine og (fun _ k => baloadV X91 hx hZ e91 U1 ⟨own_nn (by omega), (own_lt (b := 100) (by omega) (by decide)).mpr q⟩ (own_oneat q) (g := (mkF m 155 #[.val (.long x0), .second, .val (.int ix), .val (.ref d), s4, s5, s6, .val (.int (Int32.ofNat (b2.length + (r - 1)))), .val (.int (Int32.ofNat (own_sg v))), s9, .val (.int (Jvm.Free.SBG.negI (y)))] [(.int (Int32.ofNat (y))), (.ref d1), (.int (Int32.ofNat (b2.length + (r - 1)))), (.ref d)])) rfl rfl (hb hby d35_14_155) _ k) ?_
      show OGo p e below _ T91 (mkF m 156 #[.val (.long x0), .second, .val (.int ix), .val (.ref d), s4, s5, s6, .val (.int (Int32.ofNat (b2.length + (r - 1)))), .val (.int (Int32.ofNat (own_sg v))), s9, .val (.int (Jvm.Free.SBG.negI (y)))] [(.int (Int32.ofNat (48 + y % 10))), (.int (Int32.ofNat (b2.length + (r - 1)))), (.ref d)])
      rw [show y % 10 = n / 10 ^ (t) % 10 from (by rw [hmy])]
      have hj : ¬ Int32.ofNat (b2.length + (r - 1)) < 0 ∧ Int32.ofNat (b2.length + (r - 1)) < (Int32.ofNat zn) := ⟨own_nn (by omega), (own_lt (by omega) (by omega)).mpr (by omega)⟩
      obtain ⟨T92, h92, X92, e92, W92, Vq92, st92⟩ := bastoreV X91 hx hZ e91 Vd (j := (Int32.ofNat (b2.length + (r - 1)))) hj (by rw [own_cl (by omega), own_Llen (by omega)]; omega) (g := (mkF m 156 #[.val (.long x0), .second, .val (.int ix), .val (.ref d), s4, s5, s6, .val (.int (Int32.ofNat (b2.length + (r - 1)))), .val (.int (Int32.ofNat (own_sg v))), s9, .val (.int (Jvm.Free.SBG.negI (y)))] [(.int (Int32.ofNat (48 + n / 10 ^ (t) % 10))), (.int (Int32.ofNat (b2.length + (r - 1)))), (.ref d)])) rfl rfl (hb hby d35_14_156)
      have N92 := Fr.snoc X92 N g_d
      have KK92 : Keep h0 h92 [d] := K.wr W92 (Or.inl (List.mem_of_getElem? (i := 0) rfl))
      refine og st92 ?_
      rw [own_cl (show b2.length + (r - 1) < 2147483648 by omega), own_nard _ (by omega), show b2.length + (r - 1) = b2.length + (own_wl n - (t) - 1) by omega, own_Lset (show t < own_wl n by omega)] at Vq92
      have c9 := Jvm.Free.SBG.negI_lt (show 9 ≤ 2 ^ 31 by decide) y hm2
      rw [show Jvm.Free.SBG.negI 9 = (-9 : Int32) from by decide +kernel] at c9
      refine og (fun _ k => XS.iload X92.here hx rfl (hb hby d35_14_157) rfl k) ?_
      refine og (fun _ k => XS.bipush X92.here hx rfl (hb hby d35_14_159) k) ?_
      by_cases q9 : y < 10
      case neg =>
        obtain rfl := own_r2 hlt hle (by omega) q
        refine og (fun _ k => XS.icmpNo X92.here hx rfl (hb hby d35_14_161) rfl (tlt (c9.mpr (by omega))).2.1 k) ?_
        refine og (fun _ k => XS.aloadN X92.here hx rfl (hb hby d35_14_164) rfl rfl k) ?_
        refine og (fun _ k => XS.iinc X92.here hx rfl (hb hby d35_14_165) rfl (l' := #[.val (.long x0), .second, .val (.int ix), .val (.ref d), s4, s5, s6, .val (.int ((Int32.ofNat (b2.length + (2 - 1))) + (-1 : Int32))), .val (.int (Int32.ofNat (own_sg v))), s9, .val (.int (Jvm.Free.SBG.negI (y)))]) rfl k) ?_
        show OGo p e below _ T92 (mkF m 168 #[.val (.long x0), .second, .val (.int ix), .val (.ref d), s4, s5, s6, .val (.int ((Int32.ofNat (b2.length + (2 - 1))) + (-1 : Int32))), .val (.int (Int32.ofNat (own_sg v))), s9, .val (.int (Jvm.Free.SBG.negI (y)))] [(.ref d)])
        rw [own_dec (show 1 ≤ b2.length + (2 - 1) by omega), show b2.length + (2 - 1) - 1 = b2.length + (2 - 2) by omega]
        refine og (fun _ k => XS.iload X92.here hx rfl (hb hby d35_14_168) rfl k) ?_
        obtain ⟨T93, X93, e93, st93⟩ := getS2 X92 hx hZ hown (host := "") (Or.inl (own_g hw 283 rfl)) Via.refl e92 (S2.ext (Oo.wr W92 g_d).2) (g := (mkF m 170 #[.val (.long x0), .second, .val (.int ix), .val (.ref d), s4, s5, s6, .val (.int (Int32.ofNat (b2.length + (2 - 2)))), .val (.int (Int32.ofNat (own_sg v))), s9, .val (.int (Jvm.Free.SBG.negI (y)))] [(.int (Int32.ofNat (b2.length + (2 - 2)))), (.ref d)])) rfl (hb hby d35_14_170)
        refine og st93 ?_
        refine og (fun _ k => XS.iload X93.here hx rfl (hb hby d35_14_173) rfl k) ?_
        refine og (fun _ k => XS.ineg X93.here hx rfl (hb hby d35_14_175) rfl k) ?_
        show OGo p e below _ T93 (mkF m 176 #[.val (.long x0), .second, .val (.int ix), .val (.ref d), s4, s5, s6, .val (.int (Int32.ofNat (b2.length + (2 - 2)))), .val (.int (Int32.ofNat (own_sg v))), s9, .val (.int (Jvm.Free.SBG.negI (y)))] [(.int (-(Jvm.Free.SBG.negI (y)))), (.ref d2), (.int (Int32.ofNat (b2.length + (2 - 2)))), (.ref d)])
        rw [Jvm.Free.SBG.neg_negI (show y < 2 ^ 31 by omega)]
        refine og (fun _ k => baloadV X93 hx hZ e93 (U2.other W92 n2) ⟨own_nn (by omega), (own_lt (b := 100) (by omega) (by decide)).mpr q⟩ (own_tenat q) (g := (mkF m 176 #[.val (.long x0), .second, .val (.int ix), .val (.ref d), s4, s5, s6, .val (.int (Int32.ofNat (b2.length + (2 - 2)))), .val (.int (Int32.ofNat (own_sg v))), s9, .val (.int (Jvm.Free.SBG.negI (y)))] [(.int (Int32.ofNat (y))), (.ref d2), (.int (Int32.ofNat (b2.length + (2 - 2)))), (.ref d)])) rfl rfl (hb hby d35_14_176) _ k) ?_
        show OGo p e below _ T93 (mkF m 177 #[.val (.long x0), .second, .val (.int ix), .val (.ref d), s4, s5, s6, .val (.int (Int32.ofNat (b2.length + (2 - 2)))), .val (.int (Int32.ofNat (own_sg v))), s9, .val (.int (Jvm.Free.SBG.negI (y)))] [(.int (Int32.ofNat (48 + y / 10))), (.int (Int32.ofNat (b2.length + (2 - 2)))), (.ref d)])
        rw [show y / 10 = n / 10 ^ (t + 1) % 10 from (by rw [← own_divq, ← hmy]; omega)]
        have hj : ¬ Int32.ofNat (b2.length + (2 - 2)) < 0 ∧ Int32.ofNat (b2.length + (2 - 2)) < (Int32.ofNat zn) := ⟨own_nn (by omega), (own_lt (by omega) (by omega)).mpr (by omega)⟩
        obtain ⟨T94, h94, X94, e94, W94, Vq94, st94⟩ := bastoreV X93 hx hZ e93 Vq92 (j := (Int32.ofNat (b2.length + (2 - 2)))) hj (by rw [own_cl (by omega), own_Llen (by omega)]; omega) (g := (mkF m 177 #[.val (.long x0), .second, .val (.int ix), .val (.ref d), s4, s5, s6, .val (.int (Int32.ofNat (b2.length + (2 - 2)))), .val (.int (Int32.ofNat (own_sg v))), s9, .val (.int (Jvm.Free.SBG.negI (y)))] [(.int (Int32.ofNat (48 + n / 10 ^ (t + 1) % 10))), (.int (Int32.ofNat (b2.length + (2 - 2)))), (.ref d)])) rfl rfl (hb hby d35_14_177)
        have N94 := Fr.snoc X94 N92 g_d
        have KK94 : Keep h0 h94 [d] := KK92.wr W94 (Or.inl (List.mem_of_getElem? (i := 0) rfl))
        refine og st94 ?_
        rw [own_cl (show b2.length + (2 - 2) < 2147483648 by omega), own_nard _ (by omega), show b2.length + (2 - 2) = b2.length + (own_wl n - (t + 1) - 1) by omega, own_Lset (show t + 1 < own_wl n by omega)] at Vq94
        have Ve := Vq94
        rw [show t + 1 + 1 = own_wl n by omega, own_Lw] at Ve
        exact tail _ _ _ _ _ _ _ _ _ _ X94 e94 N94 KK94 Ve
      obtain rfl := own_r1 hr hle q9
      refine og (fun _ k => XS.icmpYes X92.here hx rfl (pc0 := 161) (pc' := 178) rfl (hb hby d35_14_161) rfl (flt (fun h => absurd (c9.mp h) (by omega))).2.1 (by decide) (by decide) k) ?_
      have Ve := Vq92
      rw [show t + 1 = own_wl n by omega, own_Lw] at Ve
      exact tail _ _ _ _ _ _ _ _ _ _ X92 e92 N92 KK92 Ve
  have loop1 : ∀ (f r t y : Nat) (ix : Int32) (s4 s5 s6 : Slot) (T : State) (h : Heap) (locs : List Loc), r ≤ f → t + r = own_wl n → y = n / 10 ^ t → y < 10 ^ r → (2 ≤ r → 10 ^ (r - 1) ≤ y) → 1 ≤ r → own_two s4 s5 → One s6 → Stand p l e ({ frames := 0, cells := 0, slots := 0, locals := 0 } : Room) s m #[(.long v), (.int (Int32.ofNat (bs.length + (own_wl n + own_sg v)))), (.ref d)] below meth c T locs 0 0 → T.heap = h → Fr n0 locs → Keep h0 h [d] → Old Z n0 h → Arv Z h d1 kd1 .byte (100 : Int32) own_onel (.int (0 : Int32)) → Arv Z h d2 kd2 .byte (100 : Int32) own_tenl (.int (0 : Int32)) → Arv Z h d k .byte (Int32.ofNat zn) (own_L b2 (own_wl n) t n) (.int (0 : Int32)) → OGo p e below (EndQ s ({ frames := 0, cells := 0, slots := 0, locals := 0 } : Room) (fun v' h L => v' = some (.int (Int32.ofNat bs.length)) ∧ Fr n0 L ∧ Keep h0 h [d] ∧ Arv Z h d k .byte (Int32.ofNat zn) (bs ++ own_num v n) (.int (0 : Int32)))) T (mkF m 24 #[.val (.long (Jvm.Free.SBG.negL (y))), .second, .val (.int ix), .val (.ref d), s4, s5, s6, .val (.int (Int32.ofNat (b2.length + r))), .val (.int (Int32.ofNat (own_sg v))), .unset, .unset] []) := by
    intro f
    induction f with
    | zero => intro r t y ix s4 s5 s6 T h locs hf ht hm2 hlt hle hr; omega
    | succ f ih =>
      intro r t y ix s4 s5 s6 T h locs hf ht hmy hlt hle hr h45 h6 X eT N K Oo U1 U2 Vd
      have hy63 : y ≤ 2 ^ 63 := by have := Nat.div_le_self n (10 ^ t); omega
      have cg := Jvm.Free.SBG.negL_lt hy63 (2 ^ 31) (by decide)
      rw [← Jvm.Free.SBG.minL] at cg
      refine og (fun _ k => XS.lloadN X.here hx rfl (hb hby d35_14_24) rfl k) ?_
      refine og (fun _ k => Jvm.Stand.ldc2J X hx hown (mvT hZ (own_g hw 186 rfl)) rfl (hb hby d35_14_25) k) ?_
      refine og (fun _ k => XS.lcmp X.here hx rfl (hb hby d35_14_28) rfl k) ?_
      by_cases q : y < 2 ^ 31
      case neg =>
        have q' : 2147483648 ≤ y := Nat.le_of_not_lt q
        have r3 := own_r3 hlt (by omega)
        obtain ⟨r, rfl⟩ : ∃ z, r = z + 2 := ⟨r - 2, by omega⟩
        refine og (fun _ k => XS.ifNo X.here hx rfl (hb hby d35_14_29) rfl ((if0 _ _).trans (flt (fun h => q (cg.mp ((lw_gt _ _).mp h)))).2.2.1) k) ?_
        refine og (fun _ k => XS.lloadN X.here hx rfl (hb hby d35_14_32) rfl k) ?_
        refine og (fun _ k => Jvm.Stand.ldc2J X hx hown (mvT hZ (own_g hw 289 rfl)) rfl (hb hby d35_14_33) k) ?_
        refine og (fun _ k => XS.ldiv X.here hx rfl (hb hby d35_14_36) rfl (by decide) k) ?_
        show OGo p e below _ T (mkF m 37 #[.val (.long (Jvm.Free.SBG.negL (y))), .second, .val (.int ix), .val (.ref d), s4, s5, s6, .val (.int (Int32.ofNat (b2.length + (r + 2)))), .val (.int (Int32.ofNat (own_sg v))), .unset, .unset] [(.long ((Jvm.Free.SBG.negL (y)) / (100 : Int64)))])
        rw [Jvm.Free.SBG.negL_div100 hy63]
        refine og (fun _ k => XS.lstore X.here hx rfl (hb hby d35_14_37) rfl (own_sl4 h45 rfl h6) k) ?_
        refine og (fun _ k => XS.lload X.here hx rfl (hb hby d35_14_39) rfl k) ?_
        refine og (fun _ k => Jvm.Stand.ldc2J X hx hown (mvT hZ (own_g hw 289 rfl)) rfl (hb hby d35_14_41) k) ?_
        refine og (fun _ k => XS.lmul X.here hx rfl (hb hby d35_14_44) rfl k) ?_
        refine og (fun _ k => XS.lloadN X.here hx rfl (hb hby d35_14_45) rfl k) ?_
        refine og (fun _ k => XS.lsub X.here hx rfl (hb hby d35_14_46) rfl k) ?_
        refine og (fun _ k => XS.l2i X.here hx rfl (hb hby d35_14_47) rfl k) ?_
        show OGo p e below _ T (mkF m 48 #[.val (.long (Jvm.Free.SBG.negL (y))), .second, .val (.int ix), .val (.ref d), .val (.long (Jvm.Free.SBG.negL (y / 100))), .second, s6, .val (.int (Int32.ofNat (b2.length + (r + 2)))), .val (.int (Int32.ofNat (own_sg v))), .unset, .unset] [(.int ((((Jvm.Free.SBG.negL (y / 100)) * (100 : Int64)) - (Jvm.Free.SBG.negL (y))).toInt32))])
        rw [Jvm.Free.SBG.negL_rem hy63]
        refine og (fun _ k => XS.istore X.here hx rfl (hb hby d35_14_48) rfl (own_sl6 (Or.inr ⟨_, rfl, rfl⟩) h6) k) ?_
        refine og (fun _ k => XS.lload X.here hx rfl (hb hby d35_14_50) rfl k) ?_
        refine og (fun _ k => XS.lstoreN X.here hx rfl (hb hby d35_14_52) rfl (l' := #[.val (.long (Jvm.Free.SBG.negL (y / 100))), .second, .val (.int ix), .val (.ref d), .val (.long (Jvm.Free.SBG.negL (y / 100))), .second, .val (.int (Int32.ofNat (y % 100))), .val (.int (Int32.ofNat (b2.length + (r + 2)))), .val (.int (Int32.ofNat (own_sg v))), .unset, .unset]) rfl k) ?_
        refine og (fun _ k => XS.aloadN X.here hx rfl (hb hby d35_14_53) rfl rfl k) ?_
        refine og (fun _ k => XS.iinc X.here hx rfl (hb hby d35_14_54) rfl (l' := #[.val (.long (Jvm.Free.SBG.negL (y / 100))), .second, .val (.int ix), .val (.ref d), .val (.long (Jvm.Free.SBG.negL (y / 100))), .second, .val (.int (Int32.ofNat (y % 100))), .val (.int ((Int32.ofNat (b2.length + (r + 2))) + (-1 : Int32))), .val (.int (Int32.ofNat (own_sg v))), .unset, .unset]) rfl k) ?_
        show OGo p e below _ T (mkF m 57 #[.val (.long (Jvm.Free.SBG.negL (y / 100))), .second, .val (.int ix), .val (.ref d), .val (.long (Jvm.Free.SBG.negL (y / 100))), .second, .val (.int (Int32.ofNat (y % 100))), .val (.int ((Int32.ofNat (b2.length + (r + 2))) + (-1 : Int32))), .val (.int (Int32.ofNat (own_sg v))), .unset, .unset] [(.ref d)])
        rw [own_dec (show 1 ≤ b2.length + (r + 2) by omega), show b2.length + (r + 2) - 1 = b2.length + (r + 1) by omega]
        refine og (fun _ k => XS.iload X.here hx rfl (hb hby d35_14_57) rfl k) ?_
        obtain ⟨T95, X95, e95, st95⟩ := getS2 X hx hZ hown (host := "") (Or.inl (own_g hw 187 rfl)) Via.refl eT (S1.ext Oo.2) (g := (mkF m 59 #[.val (.long (Jvm.Free.SBG.negL (y / 100))), .second, .val (.int ix), .val (.ref d), .val (.long (Jvm.Free.SBG.negL (y / 100))), .second, .val (.int (Int32.ofNat (y % 100))), .val (.int (Int32.ofNat (b2.length + (r + 1)))), .val (.int (Int32.ofNat (own_sg v))), .unset, .unset] [(.int (Int32.ofNat (b2.length + (r + 1)))), (.ref d)])) rfl (hb hby d35_14_59)
        refine og st95 ?_
        refine og (fun _ k => XS.iload X95.here hx rfl (hb hby d35_14_62) rfl k) ?_
        refine og (fun _ k => baloadV X95 hx hZ e95 U1 ⟨own_nn (by omega), (own_lt (b := 100) (by omega) (by decide)).mpr (by omega)⟩ (own_oneat (by omega)) (g := (mkF m 64 #[.val (.long (Jvm.Free.SBG.negL (y / 100))), .second, .val (.int ix), .val (.ref d), .val (.long (Jvm.Free.SBG.negL (y / 100))), .second, .val (.int (Int32.ofNat (y % 100))), .val (.int (Int32.ofNat (b2.length + (r + 1)))), .val (.int (Int32.ofNat (own_sg v))), .unset, .unset] [(.int (Int32.ofNat (y % 100))), (.ref d1), (.int (Int32.ofNat (b2.length + (r + 1)))), (.ref d)])) rfl rfl (hb hby d35_14_64) _ k) ?_
        show OGo p e below _ T95 (mkF m 65 #[.val (.long (Jvm.Free.SBG.negL (y / 100))), .second, .val (.int ix), .val (.ref d), .val (.long (Jvm.Free.SBG.negL (y / 100))), .second, .val (.int (Int32.ofNat (y % 100))), .val (.int (Int32.ofNat (b2.length + (r + 1)))), .val (.int (Int32.ofNat (own_sg v))), .unset, .unset] [(.int (Int32.ofNat (48 + y % 100 % 10))), (.int (Int32.ofNat (b2.length + (r + 1)))), (.ref d)])
        rw [show y % 100 % 10 = n / 10 ^ (t) % 10 from (by rw [own_ones, hmy])]
        have hj : ¬ Int32.ofNat (b2.length + (r + 1)) < 0 ∧ Int32.ofNat (b2.length + (r + 1)) < (Int32.ofNat zn) := ⟨own_nn (by omega), (own_lt (by omega) (by omega)).mpr (by omega)⟩
        obtain ⟨T96, h96, X96, e96, W96, Vq96, st96⟩ := bastoreV X95 hx hZ e95 Vd (j := (Int32.ofNat (b2.length + (r + 1)))) hj (by rw [own_cl (by omega), own_Llen (by omega)]; omega) (g := (mkF m 65 #[.val (.long (Jvm.Free.SBG.negL (y / 100))), .second, .val (.int ix), .val (.ref d), .val (.long (Jvm.Free.SBG.negL (y / 100))), .second, .val (.int (Int32.ofNat (y % 100))), .val (.int (Int32.ofNat (b2.length + (r + 1)))), .val (.int (Int32.ofNat (own_sg v))), .unset, .unset] [(.int (Int32.ofNat (48 + n / 10 ^ (t) % 10))), (.int (Int32.ofNat (b2.length + (r + 1)))), (.ref d)])) rfl rfl (hb hby d35_14_65)
        have N96 := Fr.snoc X96 N g_d
        have KK96 : Keep h0 h96 [d] := K.wr W96 (Or.inl (List.mem_of_getElem? (i := 0) rfl))
        refine og st96 ?_
        rw [own_cl (show b2.length + (r + 1) < 2147483648 by omega), own_nard _ (by omega), show b2.length + (r + 1) = b2.length + (own_wl n - (t) - 1) by omega, own_Lset (show t < own_wl n by omega)] at Vq96
        refine og (fun _ k => XS.aloadN X96.here hx rfl (hb hby d35_14_66) rfl rfl k) ?_
        refine og (fun _ k => XS.iinc X96.here hx rfl (hb hby d35_14_67) rfl (l' := #[.val (.long (Jvm.Free.SBG.negL (y / 100))), .second, .val (.int ix), .val (.ref d), .val (.long (Jvm.Free.SBG.negL (y / 100))), .second, .val (.int (Int32.ofNat (y % 100))), .val (.int ((Int32.ofNat (b2.length + (r + 1))) + (-1 : Int32))), .val (.int (Int32.ofNat (own_sg v))), .unset, .unset]) rfl k) ?_
        show OGo p e below _ T96 (mkF m 70 #[.val (.long (Jvm.Free.SBG.negL (y / 100))), .second, .val (.int ix), .val (.ref d), .val (.long (Jvm.Free.SBG.negL (y / 100))), .second, .val (.int (Int32.ofNat (y % 100))), .val (.int ((Int32.ofNat (b2.length + (r + 1))) + (-1 : Int32))), .val (.int (Int32.ofNat (own_sg v))), .unset, .unset] [(.ref d)])
        rw [own_dec (show 1 ≤ b2.length + (r + 1) by omega), show b2.length + (r + 1) - 1 = b2.length + (r) by omega]
        refine og (fun _ k => XS.iload X96.here hx rfl (hb hby d35_14_70) rfl k) ?_
        obtain ⟨T97, X97, e97, st97⟩ := getS2 X96 hx hZ hown (host := "") (Or.inl (own_g hw 283 rfl)) Via.refl e96 (S2.ext (Oo.wr W96 g_d).2) (g := (mkF m 72 #[.val (.long (Jvm.Free.SBG.negL (y / 100))), .second, .val (.int ix), .val (.ref d), .val (.long (Jvm.Free.SBG.negL (y / 100))), .second, .val (.int (Int32.ofNat (y % 100))), .val (.int (Int32.ofNat (b2.length + (r)))), .val (.int (Int32.ofNat (own_sg v))), .unset, .unset] [(.int (Int32.ofNat (b2.length + (r)))), (.ref d)])) rfl (hb hby d35_14_72)
        refine og st97 ?_
        refine og (fun _ k => XS.iload X97.here hx rfl (hb hby d35_14_75) rfl k) ?_
        refine og (fun _ k => baloadV X97 hx hZ e97 (U2.other W96 n2) ⟨own_nn (by omega), (own_lt (b := 100) (by omega) (by decide)).mpr (by omega)⟩ (own_tenat (by omega)) (g := (mkF m 77 #[.val (.long (Jvm.Free.SBG.negL (y / 100))), .second, .val (.int ix), .val (.ref d), .val (.long (Jvm.Free.SBG.negL (y / 100))), .second, .val (.int (Int32.ofNat (y % 100))), .val (.int (Int32.ofNat (b2.length + (r)))), .val (.int (Int32.ofNat (own_sg v))), .unset, .unset] [(.int (Int32.ofNat (y % 100))), (.ref d2), (.int (Int32.ofNat (b2.length + (r)))), (.ref d)])) rfl rfl (hb hby d35_14_77) _ k) ?_
        show OGo p e below _ T97 (mkF m 78 #[.val (.long (Jvm.Free.SBG.negL (y / 100))), .second, .val (.int ix), .val (.ref d), .val (.long (Jvm.Free.SBG.negL (y / 100))), .second, .val (.int (Int32.ofNat (y % 100))), .val (.int (Int32.ofNat (b2.length + (r)))), .val (.int (Int32.ofNat (own_sg v))), .unset, .unset] [(.int (Int32.ofNat (48 + y % 100 / 10))), (.int (Int32.ofNat (b2.length + (r)))), (.ref d)])
        rw [show y % 100 / 10 = n / 10 ^ (t + 1) % 10 from (by rw [own_tens, hmy, own_divq])]
        have hj : ¬ Int32.ofNat (b2.length + (r)) < 0 ∧ Int32.ofNat (b2.length + (r)) < (Int32.ofNat zn) := ⟨own_nn (by omega), (own_lt (by omega) (by omega)).mpr (by omega)⟩
        obtain ⟨T98, h98, X98, e98, W98, Vq98, st98⟩ := bastoreV X97 hx hZ e97 Vq96 (j := (Int32.ofNat (b2.length + (r)))) hj (by rw [own_cl (by omega), own_Llen (by omega)]; omega) (g := (mkF m 78 #[.val (.long (Jvm.Free.SBG.negL (y / 100))), .second, .val (.int ix), .val (.ref d), .val (.long (Jvm.Free.SBG.negL (y / 100))), .second, .val (.int (Int32.ofNat (y % 100))), .val (.int (Int32.ofNat (b2.length + (r)))), .val (.int (Int32.ofNat (own_sg v))), .unset, .unset] [(.int (Int32.ofNat (48 + n / 10 ^ (t + 1) % 10))), (.int (Int32.ofNat (b2.length + (r)))), (.ref d)])) rfl rfl (hb hby d35_14_78)
        have N98 := Fr.snoc X98 N96 g_d
        have KK98 : Keep h0 h98 [d] := KK96.wr W98 (Or.inl (List.mem_of_getElem? (i := 0) rfl))
        refine og st98 ?_
        rw [own_cl (show b2.length + (r) < 2147483648 by omega), own_nard _ (by omega), show b2.length + (r) = b2.length + (own_wl n - (t + 1) - 1) by omega, own_Lset (show t + 1 < own_wl n by omega)] at Vq98
        refine og (fun _ k => XS.goto X98.here hx rfl (pc0 := 79) (pc' := 24) rfl (hb hby d35_14_79) (by decide) (by decide) k) ?_
        exact ih r (t + 2) (y / 100) _ _ _ _ _ _ _ (by omega) (by omega) (by rw [hmy, own_divp]) (own_plt hlt) (fun h => by have q2 := hle (by omega); rw [show r + 2 - 1 = (r - 1) + 2 by omega] at q2; exact own_ple q2) (by omega) (Or.inr ⟨_, rfl, rfl⟩) (One.val rfl) X98 e98 N98 KK98 ((Oo.wr W96 g_d).wr W98 g_d) ((U1.other W96 n1).other W98 n1) ((U2.other W96 n2).other W98 n2) Vq98
      refine og (fun _ k => XS.ifYes X.here hx rfl (pc0 := 29) (pc' := 82) rfl (hb hby d35_14_29) rfl ((if0 _ _).trans (tlt ((lw_gt _ _).mpr (cg.mpr q))).2.2.1) (by decide) (by decide) k) ?_
      refine og (fun _ k => XS.lloadN X.here hx rfl (hb hby d35_14_82) rfl k) ?_
      refine og (fun _ k => XS.l2i X.here hx rfl (hb hby d35_14_83) rfl k) ?_
      show OGo p e below _ T (mkF m 84 #[.val (.long (Jvm.Free.SBG.negL (y))), .second, .val (.int ix), .val (.ref d), s4, s5, s6, .val (.int (Int32.ofNat (b2.length + r))), .val (.int (Int32.ofNat (own_sg v))), .unset, .unset] [(.int ((Jvm.Free.SBG.negL (y)).toInt32))])
      rw [Jvm.Free.SBG.negL_toInt32 (show y ≤ 2 ^ 31 by omega)]
      refine og (fun _ k => XS.istore X.here hx rfl (hb hby d35_14_84) rfl own_sl10 k) ?_
      exact loop2 r r t y _ _ _ _ _ _ _ _ _ (Nat.le_refl _) ht hmy hlt hle hr (by omega) h45 h6 One.u X eT N K Oo U1 U2 Vd
  refine og (fun _ k => XS.iloadN X0.here hx rfl (hb hby d35_14_0) rfl k) ?_
  refine og (fun _ k => XS.istore X0.here hx rfl (hb hby d35_14_1) rfl (l' := #[.val (.long v), .second, .val (.int (Int32.ofNat (bs.length + (own_wl n + own_sg v)))), .val (.ref d), .unset, .unset, .unset, .val (.int (Int32.ofNat (bs.length + (own_wl n + own_sg v)))), .unset, .unset, .unset]) rfl k) ?_
  show OGo p e below _ s₁ (mkF m 3 #[.val (.long v), .second, .val (.int (Int32.ofNat (bs.length + (own_wl n + own_sg v)))), .val (.ref d), .unset, .unset, .unset, .val (.int (Int32.ofNat (bs.length + (own_wl n + own_sg v)))), .unset, .unset, .unset] [])
  rw [show bs.length + (own_wl n + own_sg v) = b2.length + own_wl n by omega]
  refine og (fun _ k => XS.lloadN X0.here hx rfl (hb hby d35_14_3) rfl k) ?_
  refine og (fun _ k => XS.lconst X0.here hx rfl (hb hby d35_14_4) k) ?_
  refine og (fun _ k => XS.lcmp X0.here hx rfl (hb hby d35_14_5) rfl k) ?_
  have V0 : Arv Z h0 d k .byte (Int32.ofNat zn) (own_L b2 (own_wl n) 0 n) (.int (0 : Int32)) := by rw [own_L0, hb2, List.append_assoc, List.replicate_append_replicate]; exact V.pad (pad_rep _ _ _)
  by_cases hv : v < 0
  case pos =>
    refine og (fun _ k => XS.ifNo X0.here hx rfl (hb hby d35_14_6) rfl ((if0 _ _).trans (tlt ((lw_lt _ _).mpr hv)).2.1) k) ?_
    refine og (fun _ k => XS.iconst X0.here hx rfl (hb hby d35_14_9) k) ?_
    refine og (fun _ k => XS.goto X0.here hx rfl (pc0 := 10) (pc' := 14) rfl (hb hby d35_14_10) (by decide) (by decide) k) ?_
    refine og (fun _ k => XS.istore X0.here hx rfl (hb hby d35_14_14) rfl (l' := #[.val (.long v), .second, .val (.int (Int32.ofNat (b2.length + own_wl n))), .val (.ref d), .unset, .unset, .unset, .val (.int (Int32.ofNat (b2.length + own_wl n))), .val (.int (1 : Int32)), .unset, .unset]) rfl k) ?_
    refine og (fun _ k => XS.iload X0.here hx rfl (hb hby d35_14_16) rfl k) ?_
    refine og (fun _ k => XS.ifYes X0.here hx rfl (pc0 := 18) (pc' := 24) rfl (hb hby d35_14_18) rfl ((if0 _ _).trans (feq (by decide : ¬ (1 : Int32) = 0)).2) (by decide) (by decide) k) ?_
    have e1 := own_magn hm hv
    show OGo p e below _ s₁ (mkF m 24 #[.val (.long v), .second, .val (.int (Int32.ofNat (b2.length + own_wl n))), .val (.ref d), .unset, .unset, .unset, .val (.int (Int32.ofNat (b2.length + own_wl n))), .val (.int (1 : Int32)), .unset, .unset] [])
    refine OGo.cast (g' := (mkF m 24 #[.val (.long (Jvm.Free.SBG.negL (n))), .second, .val (.int (Int32.ofNat (b2.length + own_wl n))), .val (.ref d), .unset, .unset, .unset, .val (.int (Int32.ofNat (b2.length + own_wl n))), .val (.int (Int32.ofNat (own_sg v))), .unset, .unset] [])) ?_ ?_
    · rw [← e1, own_sg, if_pos hv]; rfl
    exact loop1 _ (own_wl n) 0 n _ _ _ _ _ _ _ (Nat.le_refl _) (Nat.zero_add _) (by rw [Nat.pow_zero, Nat.div_one]) P1 P2 P3 (Or.inl ⟨rfl, rfl⟩) One.u X0 e0 N0 (Keep.refl _ _) O W1 W2 V0
  refine og (fun _ k => XS.ifYes X0.here hx rfl (pc0 := 6) (pc' := 13) rfl (hb hby d35_14_6) rfl ((if0 _ _).trans (flt (fun h => hv ((lw_lt _ _).mp h))).2.1) (by decide) (by decide) k) ?_
  refine og (fun _ k => XS.iconst X0.here hx rfl (hb hby d35_14_13) k) ?_
  refine og (fun _ k => XS.istore X0.here hx rfl (hb hby d35_14_14) rfl (l' := #[.val (.long v), .second, .val (.int (Int32.ofNat (b2.length + own_wl n))), .val (.ref d), .unset, .unset, .unset, .val (.int (Int32.ofNat (b2.length + own_wl n))), .val (.int (0 : Int32)), .unset, .unset]) rfl k) ?_
  refine og (fun _ k => XS.iload X0.here hx rfl (hb hby d35_14_16) rfl k) ?_
  refine og (fun _ k => XS.ifNo X0.here hx rfl (hb hby d35_14_18) rfl ((if0 _ _).trans (teq (rfl : (0 : Int32) = 0)).2) k) ?_
  refine og (fun _ k => XS.lloadN X0.here hx rfl (hb hby d35_14_21) rfl k) ?_
  refine og (fun _ k => XS.lneg X0.here hx rfl (hb hby d35_14_22) rfl k) ?_
  show OGo p e below _ s₁ (mkF m 23 #[.val (.long v), .second, .val (.int (Int32.ofNat (b2.length + own_wl n))), .val (.ref d), .unset, .unset, .unset, .val (.int (Int32.ofNat (b2.length + own_wl n))), .val (.int (0 : Int32)), .unset, .unset] [(.long (-v))])
  rw [own_magp hm hv]
  refine og (fun _ k => XS.lstoreN X0.here hx rfl (hb hby d35_14_23) rfl (l' := #[.val (.long (Jvm.Free.SBG.negL (n))), .second, .val (.int (Int32.ofNat (b2.length + own_wl n))), .val (.ref d), .unset, .unset, .unset, .val (.int (Int32.ofNat (b2.length + own_wl n))), .val (.int (0 : Int32)), .unset, .unset]) rfl k) ?_
  show OGo p e below _ s₁ (mkF m 24 #[.val (.long (Jvm.Free.SBG.negL (n))), .second, .val (.int (Int32.ofNat (b2.length + own_wl n))), .val (.ref d), .unset, .unset, .unset, .val (.int (Int32.ofNat (b2.length + own_wl n))), .val (.int (0 : Int32)), .unset, .unset] [])
  refine OGo.cast (g' := (mkF m 24 #[.val (.long (Jvm.Free.SBG.negL (n))), .second, .val (.int (Int32.ofNat (b2.length + own_wl n))), .val (.ref d), .unset, .unset, .unset, .val (.int (Int32.ofNat (b2.length + own_wl n))), .val (.int (Int32.ofNat (own_sg v))), .unset, .unset] [])) ?_ ?_
  · rw [own_sg, if_neg hv]; rfl
  exact loop1 _ (own_wl n) 0 n _ _ _ _ _ _ _ (Nat.le_refl _) (Nat.zero_add _) (by rw [Nat.pow_zero, Nat.div_one]) P1 P2 P3 (Or.inl ⟨rfl, rfl⟩) One.u X0 e0 N0 (Keep.refl _ _) O W1 W2 V0
theorem d68_33_0 : DK jdk_68_method_33_code 0 (.aload_n 0) 1 := by decide +kernel
theorem d68_33_1 : DK jdk_68_method_33_code 1 (.getfield 79) 3 := by decide +kernel
theorem d68_33_4 : DK jdk_68_method_33_code 4 (.istore_n 3) 1 := by decide +kernel
theorem d68_33_5 : DK jdk_68_method_33_code 5 (.iload_n 3) 1 := by decide +kernel
theorem d68_33_6 : DK jdk_68_method_33_code 6 (.lload_n 1) 1 := by decide +kernel
theorem opd_19 : parseMethodDescriptor "(J)I" = some ⟨[.long], some .int⟩ := by decide +kernel
theorem d68_33_7 : DK jdk_68_method_33_code 7 (.invokestatic 254) 3 := by decide +kernel
theorem d68_33_10 : DK jdk_68_method_33_code 10 .iadd 1 := by decide +kernel
theorem d68_33_11 : DK jdk_68_method_33_code 11 (.istore 4) 2 := by decide +kernel
theorem d68_33_13 : DK jdk_68_method_33_code 13 (.aload_n 0) 1 := by decide +kernel
theorem d68_33_14 : DK jdk_68_method_33_code 14 (.iload 4) 2 := by decide +kernel
theorem d68_33_16 : DK jdk_68_method_33_code 16 (.invokevirtual 100) 3 := by decide +kernel
theorem d68_33_19 : DK jdk_68_method_33_code 19 (.aload_n 0) 1 := by decide +kernel
theorem d68_33_20 : DK jdk_68_method_33_code 20 (.invokevirtual 83) 3 := by decide +kernel
theorem d68_33_23 : DK jdk_68_method_33_code 23 (.ifCond .eq 17) 3 := by decide +kernel
theorem d68_33_26 : DK jdk_68_method_33_code 26 (.lload_n 1) 1 := by decide +kernel
theorem d68_33_27 : DK jdk_68_method_33_code 27 (.iload 4) 2 := by decide +kernel
theorem d68_33_29 : DK jdk_68_method_33_code 29 (.aload_n 0) 1 := by decide +kernel
theorem d68_33_30 : DK jdk_68_method_33_code 30 (.getfield 15) 3 := by decide +kernel
theorem opd_20 : parseMethodDescriptor "(JI[B)I" = some ⟨[.long, .int, (.array .byte)], some .int⟩ := by decide +kernel
theorem d68_33_33 : DK jdk_68_method_33_code 33 (.invokestatic 259) 3 := by decide +kernel
theorem d68_33_36 : DK jdk_68_method_33_code 36 .pop 1 := by decide +kernel
theorem d68_33_37 : DK jdk_68_method_33_code 37 (.goto 15) 3 := by decide +kernel
theorem d68_33_52 : DK jdk_68_method_33_code 52 (.aload_n 0) 1 := by decide +kernel
theorem d68_33_53 : DK jdk_68_method_33_code 53 (.iload 4) 2 := by decide +kernel
theorem d68_33_55 : DK jdk_68_method_33_code 55 (.putfield 79) 3 := by decide +kernel
theorem d68_33_58 : DK jdk_68_method_33_code 58 (.aload_n 0) 1 := by decide +kernel
theorem d68_33_59 : DK jdk_68_method_33_code 59 .areturn 1 := by decide +kernel
theorem opl_rm_asbJ : plainFor (⟨"java/lang/AbstractStringBuilder", "append", "(J)Ljava/lang/AbstractStringBuilder;"⟩ : MethodName) = true := plainFor_of_name (by first | (simp [plainName, overriddenIn]; done) | decide +kernel)
theorem rm_asbJ (l : Launch) (Z : State) (a0 : Array Value) (hw : ∀ d ∈ tables_1, d.before a0 Z = true) (ws : List Jvm.Cond) (v : Int64) (n : Nat) (b d : Addr) (k : ClassId) (zn : Nat) (bs : List Value) (zc : Int32) (wf : Value) (n0 : Nat) (d1 d2 : Addr) (kd1 kd2 : ClassId) (h0 : Heap) (SS : own_SS Z zc wf) (O : Old Z n0 h0) (SI : own_SI Z d1 d2 kd1 kd2) (hm : own_mag v n) (J : SBI Z h0 b d k (Int32.ofNat zn) bs) (hzn : zn ≤ 70) (hbz : bs.length ≤ zn) (g_b : n0 ≤ b) (g_d : n0 ≤ d) (hsm : bs.length + (own_wl n + own_sg v) ≤ 70) :
    Con l Z (⟨"java/lang/AbstractStringBuilder", "append", "(J)Ljava/lang/AbstractStringBuilder;"⟩ : MethodName) jdk_68_method_33_code 5 (some (.object "java/lang/AbstractStringBuilder")) ws ({ frames := 4, cells := 1, slots := 142, locals := 62 } : Room) #[(.ref b), (.long v)] h0 (fun v' h L => v' = some (.ref b) ∧ Fr n0 L ∧ Keep h0 h [b, d] ∧ ∃ d' k', (d' = d ∨ h0.size ≤ d') ∧ SBI Z h b d' k' (Int32.ofNat (own_cap zn (bs.length + (own_wl n + own_sg v)))) (bs ++ own_num v n)) := by
  refine Con.intro opl_rm_asbJ ?_
  intro p e s m below meth c s₁ hx hby hml hown hret hlk hZ hnm X0 e0
  have SS' := SS
  obtain ⟨hzc, SC, hwf, SF⟩ := SS
  have Z0 : n0 ≤ h0.size := O.1 ▸ O.2.1
  have N0 := Fr.nil n0
  obtain ⟨JE, JF, JC, JN, JV, JX⟩ := J
  have nbd : b ≠ d := JE.neArv JV (own_g hw 74 rfl)
  have SI' := SI
  obtain ⟨S1, V1, S2, V2⟩ := SI
  refine OGo.cast (g' := (mkF m 0 #[.val (.ref b), .val (.long v), .second, .unset, .unset] [])) (by first | (simp [entryFrame, mkF, argsToLocals, Value.category]; done) | rfl) ?_
  refine og (fun _ k => XS.aloadN X0.here hx rfl (hb hby d68_33_0) rfl rfl k) ?_
  obtain ⟨T99, X99, e99, st99⟩ := getF X0 hx hZ hown (host := "") (Or.inl (own_g hw 112 rfl)) Via.refl e0 JN (g := (mkF m 1 #[.val (.ref b), .val (.long v), .second, .unset, .unset] [(.ref b)])) rfl rfl (hb hby d68_33_1)
  refine og st99 ?_
  refine og (fun _ k => XS.istoreN X99.here hx rfl (hb hby d68_33_4) rfl (l' := #[.val (.ref b), .val (.long v), .second, .val (.int (Int32.ofNat bs.length)), .unset]) rfl k) ?_
  refine og (fun _ k => XS.iloadN X99.here hx rfl (hb hby d68_33_5) rfl k) ?_
  refine og (fun _ k => XS.lloadN X99.here hx rfl (hb hby d68_33_6) rfl k) ?_
  obtain ⟨v100, T100, L100, X100, hQ100, st100⟩ := scall X99 hx hZ hown (own_g hw 173 rfl) (own_g hw 174 rfl) (own_g hw 175 rfl) (own_g hw 176 rfl) (by decide) (W := 1) (rm_ssJ l Z a0 hw [] v n h0 hm) e99 (by decide) (by decide) (by decide) (by decide) (g := (mkF m 7 #[.val (.ref b), .val (.long v), .second, .val (.int (Int32.ofNat bs.length)), .unset] [(.long v), (.int (Int32.ofNat bs.length))])) rfl (by rw [hml]; rfl) (argsL := [(.long v)]) (rest := [(.int (Int32.ofNat bs.length))]) opd_19 rfl rfl rfl (by show 2 * 0 + _ ≤ _; exact Nat.le_of_eq rfl) (hb hby d68_33_7)
  obtain ⟨rfl, rfl, e100⟩ := hQ100
  rw [List.append_nil] at X100
  refine og st100 ?_
  refine og (fun _ k => XS.iadd X100.here hx rfl (hb hby d68_33_10) rfl k) ?_
  show OGo p e below _ T100 (mkF m 11 #[.val (.ref b), .val (.long v), .second, .val (.int (Int32.ofNat bs.length)), .unset] [(.int ((Int32.ofNat bs.length) + (Int32.ofNat (own_wl n + own_sg v))))])
  rw [own_addn]
  refine og (fun _ k => XS.istore X100.here hx rfl (hb hby d68_33_11) rfl (l' := #[.val (.ref b), .val (.long v), .second, .val (.int (Int32.ofNat bs.length)), .val (.int (Int32.ofNat (bs.length + (own_wl n + own_sg v))))]) rfl k) ?_
  refine og (fun _ k => XS.aloadN X100.here hx rfl (hb hby d68_33_13) rfl rfl k) ?_
  refine og (fun _ k => XS.iload X100.here hx rfl (hb hby d68_33_14) rfl k) ?_
  obtain ⟨v101, T101, L101, X101, hQ101, st101⟩ := pcall X100 hx hZ hown (own_g hw 114 rfl) (own_g hw 115 rfl) (own_g hw 117 rfl) (own_g hw 116 rfl) (own_g hw 83 rfl) (own_g hw 118 rfl) (by decide) (W := 0) (rm_ensG l Z a0 hw [] b d k zn bs (bs.length + (own_wl n + own_sg v)) zc wf n0 h0 SS' O ⟨JE, JF, JC, JN, JV, JX⟩ hzn hbz hsm g_b) e100 (by decide) (by decide) (by decide) (by decide) (g := (mkF m 16 #[.val (.ref b), .val (.long v), .second, .val (.int (Int32.ofNat bs.length)), .val (.int (Int32.ofNat (bs.length + (own_wl n + own_sg v))))] [(.int (Int32.ofNat (bs.length + (own_wl n + own_sg v)))), (.ref b)])) rfl (by rw [hml]; rfl) JE (argsL := [(.int (Int32.ofNat (bs.length + (own_wl n + own_sg v))))]) (rest := []) opd_12 rfl rfl rfl (by show 2 * 0 + _ ≤ _; exact Nat.le_of_eq rfl) (hb hby d68_33_16)
  obtain ⟨rfl, N101, K101, d101, k101, hd101, J101⟩ := hQ101
  have NN101 := Fr.app N0 N101
  have KK101 : Keep h0 T101.heap [b, d] := (Keep.refl h0 [b, d]).trans K101 (allS (Or.inl (List.mem_of_getElem? (i := 0) rfl)) all0)
  refine og st101 ?_
  have g_d101 : n0 ≤ d101 := hd101.elim (fun q => q ▸ g_d) (fun q => Nat.le_trans (Nat.le_trans Z0 (Keep.refl h0 [b, d]).1) q)
  have sz_d101 : d101 ∈ [b, d] ∨ h0.size ≤ d101 := hd101.elim (fun q => Or.inl (q ▸ List.mem_of_getElem? (i := 1) rfl)) Or.inr
  obtain ⟨JE101, JF101, JC101, JN101, JV101, JX101⟩ := J101
  have nb2 : b ≠ d101 := JE101.neArv JV101 (own_g hw 74 rfl)
  have hcb : own_cap zn (bs.length + (own_wl n + own_sg v)) ≤ 142 := by unfold own_cap; split <;> omega
  have hcg := own_cap_ge zn (bs.length + (own_wl n + own_sg v))
  refine og (fun _ k => XS.aloadN X101.here hx rfl (hb hby d68_33_19) rfl rfl k) ?_
  obtain ⟨v102, T102, L102, X102, hQ102, st102⟩ := vcall X101 hx hZ hown (own_g hw 178 rfl) (own_g hw 179 rfl) (own_g hw 181 rfl) rfl (own_g hw 181 rfl) (own_g hw 180 rfl) (own_g hw 83 rfl) (own_g hw 182 rfl) (by decide) (W := 0) (rm_asbL1 l Z a0 hw [] b d101 k101 (own_cap zn (bs.length + (own_wl n + own_sg v))) bs zc wf n0 T101.heap SS' (O.keep K101 (allS g_b all0)) ⟨JE101, JF101, JC101, JN101, JV101, JX101⟩) rfl (by decide) (by decide) (by decide) (by decide) (g := (mkF m 20 #[.val (.ref b), .val (.long v), .second, .val (.int (Int32.ofNat bs.length)), .val (.int (Int32.ofNat (bs.length + (own_wl n + own_sg v))))] [(.ref b)])) rfl (by rw [hml]; rfl) JE101 (argsL := []) (rest := []) opd_3 rfl rfl rfl (by show 2 * 0 + _ ≤ _; exact Nat.le_of_eq rfl) (hb hby d68_33_20)
  obtain ⟨rfl, rfl, e102⟩ := hQ102
  rw [List.append_nil] at X102
  refine og st102 ?_
  refine og (fun _ k => XS.ifNo X102.here hx rfl (hb hby d68_33_23) rfl ((if0 _ _).trans (feq (by decide : ¬ (1 : Int32) = 0)).1) k) ?_
  refine og (fun _ k => XS.lloadN X102.here hx rfl (hb hby d68_33_26) rfl k) ?_
  refine og (fun _ k => XS.iload X102.here hx rfl (hb hby d68_33_27) rfl k) ?_
  refine og (fun _ k => XS.aloadN X102.here hx rfl (hb hby d68_33_29) rfl rfl k) ?_
  obtain ⟨T103, X103, e103, st103⟩ := getF X102 hx hZ hown (host := "") (Or.inl (own_g hw 87 rfl)) Via.refl e102 JF101 (g := (mkF m 30 #[.val (.ref b), .val (.long v), .second, .val (.int (Int32.ofNat bs.length)), .val (.int (Int32.ofNat (bs.length + (own_wl n + own_sg v))))] [(.ref b), (.int (Int32.ofNat (bs.length + (own_wl n + own_sg v)))), (.long v)])) rfl rfl (hb hby d68_33_30)
  refine og st103 ?_
  obtain ⟨v104, T104, L104, X104, hQ104, st104⟩ := scall X103 hx hZ hown (own_g hw 183 rfl) (own_g hw 184 rfl) (own_g hw 175 rfl) (own_g hw 185 rfl) (by decide) (W := 0) (rm_gcJ l Z a0 hw [] v n d101 k101 (own_cap zn (bs.length + (own_wl n + own_sg v))) bs zc wf n0 d1 d2 kd1 kd2 T101.heap SS' (O.keep K101 (allS g_b all0)) SI' hm JV101 hcg hcb g_d101) e103 (by decide) (by decide) (by decide) (by decide) (g := (mkF m 33 #[.val (.ref b), .val (.long v), .second, .val (.int (Int32.ofNat bs.length)), .val (.int (Int32.ofNat (bs.length + (own_wl n + own_sg v))))] [(.ref d101), (.int (Int32.ofNat (bs.length + (own_wl n + own_sg v)))), (.long v)])) rfl (by rw [hml]; rfl) (argsL := [(.long v), (.int (Int32.ofNat (bs.length + (own_wl n + own_sg v)))), (.ref d101)]) (rest := []) opd_20 rfl rfl rfl (by show 2 * 0 + _ ≤ _; exact Nat.le_of_eq rfl) (hb hby d68_33_33)
  obtain ⟨rfl, N104, K104, V104⟩ := hQ104
  have NN104 := Fr.app NN101 N104
  have KK104 : Keep h0 T104.heap [b, d] := KK101.trans K104 (allS sz_d101 all0)
  refine og st104 ?_
  refine og (fun _ k => XS.pop X104.here hx rfl (hb hby d68_33_36) rfl rfl k) ?_
  refine og (fun _ k => XS.goto X104.here hx rfl (pc0 := 37) (pc' := 52) rfl (hb hby d68_33_37) (by decide) (by decide) k) ?_
  refine og (fun _ k => XS.aloadN X104.here hx rfl (hb hby d68_33_52) rfl rfl k) ?_
  refine og (fun _ k => XS.iload X104.here hx rfl (hb hby d68_33_53) rfl k) ?_
  show OGo p e below _ T104 (mkF m 55 #[.val (.ref b), .val (.long v), .second, .val (.int (Int32.ofNat bs.length)), .val (.int (Int32.ofNat (bs.length + (own_wl n + own_sg v))))] [(.int (Int32.ofNat (bs.length + (own_wl n + own_sg v)))), (.ref b)])
  rw [show Int32.ofNat (bs.length + (own_wl n + own_sg v)) = Int32.ofNat (bs ++ own_num v n).length by rw [List.length_append, own_numlen]]
  obtain ⟨T105, h105, X105, e105, W105, st105⟩ := putF X104 hx hZ hown (host := "") (Or.inl (own_g hw 112 rfl)) Via.refl rfl (JN101.keep K104 (ninS nb2 nin0)) (JE101.keep K104) (Or.inl (own_g hw 113 rfl)) (own_g hw 74 rfl) (ty := .int) (by decide) rfl rfl (g := (mkF m 55 #[.val (.ref b), .val (.long v), .second, .val (.int (Int32.ofNat bs.length)), .val (.int (Int32.ofNat (bs ++ own_num v n).length))] [(.int (Int32.ofNat (bs ++ own_num v n).length)), (.ref b)])) rfl rfl (hb hby d68_33_55)
  have Fw105 := (JN101.keep K104 (ninS nb2 nin0)).same W105
  have N105 := Fr.snoc X105 NN104 g_b
  have KK105 : Keep h0 h105 [b, d] := KK104.wr W105 (Or.inl (List.mem_of_getElem? (i := 0) rfl))
  refine og st105 ?_
  refine og (fun _ k => XS.aloadN X105.here hx rfl (hb hby d68_33_58) rfl rfl k) ?_
  have q106 := ((JF101.keep K104 (ninS nb2 nin0)).other W105 (Or.inr (slot_ne (Or.inl (own_g hw 88 rfl)) (Or.inl (own_g hw 113 rfl)) (by decide) (t := (.array .byte)) (t' := .int) (by decide) (by decide))))
  have q107 := ((JC101.keep K104 (ninS nb2 nin0)).other W105 (Or.inr (slot_ne (Or.inl (own_g hw 90 rfl)) (Or.inl (own_g hw 113 rfl)) (by decide) (t := .byte) (t' := .int) (by decide) (by decide))))
  show OGo p e below _ T105 (mkF m 59 #[.val (.ref b), .val (.long v), .second, .val (.int (Int32.ofNat bs.length)), .val (.int (Int32.ofNat (bs ++ own_num v n).length))] [(.ref b)])
  exact OGo.ret X105 hx (t := (.object "java/lang/AbstractStringBuilder")) hret hlk rfl (Or.inr (Or.inr (Or.inr (Or.inr ⟨rfl, rfl, rfl⟩)))) (hb hby d68_33_59) (by decide) (by decide) (by rw [e105]; exact ⟨rfl, N105, KK105, d101, _, hd101, ⟨((JE101.keep K104).wr W105), q106, q107, Fw105, (V104.other W105 (Ne.symm nb2)), ((JX101.keep K104).wr W105)⟩⟩)
theorem d67_16_0 : DK jdk_67_method_16_code 0 (.aload_n 0) 1 := by decide +kernel
theorem d67_16_1 : DK jdk_67_method_16_code 1 (.lload_n 1) 1 := by decide +kernel
theorem opd_21 : parseMethodDescriptor "(J)Ljava/lang/AbstractStringBuilder;" = some ⟨[.long], some (.object "java/lang/AbstractStringBuilder")⟩ := by decide +kernel
theorem d67_16_2 : DK jdk_67_method_16_code 2 (.invokespecial 56) 3 := by decide +kernel
theorem d67_16_5 : DK jdk_67_method_16_code 5 .pop 1 := by decide +kernel
theorem d67_16_6 : DK jdk_67_method_16_code 6 (.aload_n 0) 1 := by decide +kernel
theorem d67_16_7 : DK jdk_67_method_16_code 7 .areturn 1 := by decide +kernel
theorem opl_rm_appJ : plainFor (⟨"java/lang/StringBuilder", "append", "(J)Ljava/lang/StringBuilder;"⟩ : MethodName) = true := plainFor_of_name (by first | (simp [plainName, overriddenIn]; done) | decide +kernel)
theorem rm_appJ (l : Launch) (Z : State) (a0 : Array Value) (hw : ∀ d ∈ tables_1, d.before a0 Z = true) (ws : List Jvm.Cond) (v : Int64) (n : Nat) (b d : Addr) (k : ClassId) (zn : Nat) (bs : List Value) (zc : Int32) (wf : Value) (n0 : Nat) (d1 d2 : Addr) (kd1 kd2 : ClassId) (h0 : Heap) (SS : own_SS Z zc wf) (O : Old Z n0 h0) (SI : own_SI Z d1 d2 kd1 kd2) (hm : own_mag v n) (J : SBI Z h0 b d k (Int32.ofNat zn) bs) (hzn : zn ≤ 70) (hbz : bs.length ≤ zn) (g_b : n0 ≤ b) (g_d : n0 ≤ d) (hsm : bs.length + (own_wl n + own_sg v) ≤ 70) :
    Con l Z (⟨"java/lang/StringBuilder", "append", "(J)Ljava/lang/StringBuilder;"⟩ : MethodName) jdk_67_method_16_code 3 (some (.object "java/lang/StringBuilder")) ws ({ frames := 5, cells := 1, slots := 142, locals := 78 } : Room) #[(.ref b), (.long v)] h0 (fun v' h L => v' = some (.ref b) ∧ Fr n0 L ∧ Keep h0 h [b, d] ∧ ∃ d' k', (d' = d ∨ h0.size ≤ d') ∧ SBI Z h b d' k' (Int32.ofNat (own_cap zn (bs.length + (own_wl n + own_sg v)))) (bs ++ own_num v n)) := by
  refine Con.intro opl_rm_appJ ?_
  intro p e s m below meth c s₁ hx hby hml hown hret hlk hZ hnm X0 e0
  have SS' := SS
  obtain ⟨hzc, SC, hwf, SF⟩ := SS
  have Z0 : n0 ≤ h0.size := O.1 ▸ O.2.1
  have N0 := Fr.nil n0
  obtain ⟨JE, JF, JC, JN, JV, JX⟩ := J
  have nbd : b ≠ d := JE.neArv JV (own_g hw 74 rfl)
  have SI' := SI
  obtain ⟨S1, V1, S2, V2⟩ := SI
  refine OGo.cast (g' := (mkF m 0 #[.val (.ref b), .val (.long v), .second] [])) (by first | (simp [entryFrame, mkF, argsToLocals, Value.category]; done) | rfl) ?_
  refine og (fun _ k => XS.aloadN X0.here hx rfl (hb hby d67_16_0) rfl rfl k) ?_
  refine og (fun _ k => XS.lloadN X0.here hx rfl (hb hby d67_16_1) rfl k) ?_
  obtain ⟨v108, T108, L108, X108, hQ108, st108⟩ := ucall X0 hx hZ hown (own_g hw 169 rfl) (own_same (own_g hw 117 rfl) rfl (own_g hw 170 rfl) (by decide)) (own_g hw 170 rfl) (own_g hw 99 rfl) (own_g hw 83 rfl) (own_g hw 172 rfl) (by decide) (W := 0) (rm_asbJ l Z a0 hw [] v n b d k zn bs zc wf n0 d1 d2 kd1 kd2 h0 SS' O SI' hm ⟨JE, JF, JC, JN, JV, JX⟩ hzn hbz g_b g_d hsm) e0 (by decide) (by decide) (by decide) (by decide) (g := (mkF m 2 #[.val (.ref b), .val (.long v), .second] [(.long v), (.ref b)])) rfl (by rw [hml]; rfl) JE (argsL := [(.long v)]) (rest := []) opd_21 rfl rfl rfl (by show 2 * 0 + _ ≤ _; exact Nat.le_of_eq rfl) (hb hby d67_16_2)
  obtain ⟨rfl, N108, K108, d108, k108, hd108, J108⟩ := hQ108
  have NN108 := Fr.app N0 N108
  have KK108 : Keep h0 T108.heap [b, d] := (Keep.refl h0 [b, d]).trans K108 (allS (Or.inl (List.mem_of_getElem? (i := 0) rfl)) (allS (Or.inl (List.mem_of_getElem? (i := 1) rfl)) all0))
  refine og st108 ?_
  refine og (fun _ k => XS.pop X108.here hx rfl (hb hby d67_16_5) rfl rfl k) ?_
  refine og (fun _ k => XS.aloadN X108.here hx rfl (hb hby d67_16_6) rfl rfl k) ?_
  show OGo p e below _ T108 (mkF m 7 #[.val (.ref b), .val (.long v), .second] [(.ref b)])
  exact OGo.ret X108 hx (t := (.object "java/lang/StringBuilder")) hret hlk rfl (Or.inr (Or.inr (Or.inr (Or.inr ⟨rfl, rfl, rfl⟩)))) (hb hby d67_16_7) (by decide) (by decide) ⟨rfl, NN108, KK108, d108, _, hd108, J108⟩
theorem d52_21_0 : DK jdk_52_method_21_code 0 (.iconst 0) 1 := by decide +kernel
theorem d52_21_1 : DK jdk_52_method_21_code 1 (.istore 5) 2 := by decide +kernel
theorem d52_21_3 : DK jdk_52_method_21_code 3 (.iload 5) 2 := by decide +kernel
theorem d52_21_5 : DK jdk_52_method_21_code 5 (.iload 4) 2 := by decide +kernel
theorem d52_21_7 : DK jdk_52_method_21_code 7 (.if_icmp .ge 37) 3 := by decide +kernel
theorem d52_21_44 : DK jdk_52_method_21_code 44 (.iload 4) 2 := by decide +kernel
theorem d52_21_46 : DK jdk_52_method_21_code 46 .ireturn 1 := by decide +kernel
theorem d52_21_10 : DK jdk_52_method_21_code 10 (.aload_n 0) 1 := by decide +kernel
theorem d52_21_11 : DK jdk_52_method_21_code 11 (.iload_n 1) 1 := by decide +kernel
theorem d52_21_12 : DK jdk_52_method_21_code 12 .caload 1 := by decide +kernel
theorem d52_21_13 : DK jdk_52_method_21_code 13 (.istore 6) 2 := by decide +kernel
theorem d52_21_15 : DK jdk_52_method_21_code 15 (.iload 6) 2 := by decide +kernel
theorem d52_21_17 : DK jdk_52_method_21_code 17 (.sipush 255) 3 := by decide +kernel
theorem d52_21_20 : DK jdk_52_method_21_code 20 (.if_icmp .le 6) 3 := by decide +kernel
theorem d52_21_26 : DK jdk_52_method_21_code 26 (.aload_n 2) 1 := by decide +kernel
theorem d52_21_27 : DK jdk_52_method_21_code 27 (.iload_n 3) 1 := by decide +kernel
theorem d52_21_28 : DK jdk_52_method_21_code 28 (.iload 6) 2 := by decide +kernel
theorem d52_21_30 : DK jdk_52_method_21_code 30 .i2b 1 := by decide +kernel
theorem d52_21_31 : DK jdk_52_method_21_code 31 .bastore 1 := by decide +kernel
theorem d52_21_32 : DK jdk_52_method_21_code 32 (.iinc 1 1) 3 := by decide +kernel
theorem d52_21_35 : DK jdk_52_method_21_code 35 (.iinc 3 1) 3 := by decide +kernel
theorem d52_21_38 : DK jdk_52_method_21_code 38 (.iinc 5 1) 3 := by decide +kernel
theorem d52_21_41 : DK jdk_52_method_21_code 41 (.goto (-38)) 3 := by decide +kernel
theorem opl_rm_cmp5 : plainFor (⟨"java/lang/StringUTF16", "compress", "([CI[BII)I"⟩ : MethodName) = true := plainFor_of_name (by first | (simp [plainName, overriddenIn]; done) | decide +kernel)
theorem rm_cmp5 (l : Launch) (Z : State) (a0 : Array Value) (hw : ∀ d ∈ tables_1, d.before a0 Z = true) (ws : List Jvm.Cond) (ca b : Addr) (kc kb : ClassId) (cs : List Int32) (zc : Int32) (wf : Value) (n0 : Nat) (h0 : Heap) (SS : own_SS Z zc wf) (O : Old Z n0 h0) (Vc : Arv Z h0 ca kc .char (Int32.ofNat cs.length) (cs.map Value.int) (.int (0 : Int32))) (Vb : Arv Z h0 b kb .byte (Int32.ofNat cs.length) [] (.int (0 : Int32))) (hp : own_ok8 cs) (hbl : cs.length < 2147483648) (nbc : ca ≠ b) (g_b : n0 ≤ b) :
    Con l Z (⟨"java/lang/StringUTF16", "compress", "([CI[BII)I"⟩ : MethodName) jdk_52_method_21_code 7 (some .int) ws ({ frames := 0, cells := 0, slots := 0, locals := 0 } : Room) #[(.ref ca), (.int (0 : Int32)), (.ref b), (.int (0 : Int32)), (.int (Int32.ofNat cs.length))] h0 (fun v h L => v = some (.int (Int32.ofNat cs.length)) ∧ Fr n0 L ∧ Keep h0 h [b] ∧ Arv Z h b kb .byte (Int32.ofNat cs.length) (own_b8 cs) (.int (0 : Int32))) := by
  refine Con.intro opl_rm_cmp5 ?_
  intro p e s m below meth c s₁ hx hby hml hown hret hlk hZ hnm X0 e0
  obtain ⟨hzc, SC, hwf, SF⟩ := SS
  have Z0 : n0 ≤ h0.size := O.1 ▸ O.2.1
  have N0 := Fr.nil n0
  refine OGo.cast (g' := (mkF m 0 #[.val (.ref ca), .val (.int (0 : Int32)), .val (.ref b), .val (.int (0 : Int32)), .val (.int (Int32.ofNat cs.length)), .unset, .unset] [])) (by first | (simp [entryFrame, mkF, argsToLocals, Value.category]; done) | rfl) ?_
  refine og (fun _ k => XS.iconst X0.here hx rfl (hb hby d52_21_0) k) ?_
  refine og (fun _ k => XS.istore X0.here hx rfl (hb hby d52_21_1) rfl (l' := #[.val (.ref ca), .val (.int (0 : Int32)), .val (.ref b), .val (.int (0 : Int32)), .val (.int (Int32.ofNat cs.length)), .val (.int (0 : Int32)), .unset]) rfl k) ?_
  have loop : ∀ (r i : Nat) (T : State) (h : Heap) (locs : List Loc) (s6 : Slot), i + r = cs.length → One s6 → Stand p l e ({ frames := 0, cells := 0, slots := 0, locals := 0 } : Room) s m #[(.ref ca), (.int (0 : Int32)), (.ref b), (.int (0 : Int32)), (.int (Int32.ofNat cs.length))] below meth c T locs 0 0 → T.heap = h → Fr n0 locs → Keep h0 h [b] → Arv Z h ca kc .char (Int32.ofNat cs.length) (cs.map Value.int) (.int (0 : Int32)) → Arv Z h b kb .byte (Int32.ofNat cs.length) (own_b8 (cs.take i)) (.int (0 : Int32)) → OGo p e below (EndQ s ({ frames := 0, cells := 0, slots := 0, locals := 0 } : Room) (fun v h L => v = some (.int (Int32.ofNat cs.length)) ∧ Fr n0 L ∧ Keep h0 h [b] ∧ Arv Z h b kb .byte (Int32.ofNat cs.length) (own_b8 cs) (.int (0 : Int32)))) T (mkF m 3 #[.val (.ref ca), .val (.int (Int32.ofNat i)), .val (.ref b), .val (.int (Int32.ofNat i)), .val (.int (Int32.ofNat cs.length)), .val (.int (Int32.ofNat i)), s6] []) := by
    intro r
    induction r with
    | zero =>
      intro i T h locs s6 hi h6 X eT N K Vc Vb
      have hi' : i = cs.length := by omega
      subst hi'
      rw [List.take_length] at Vb
      refine og (fun _ k => XS.iload X.here hx rfl (hb hby d52_21_3) rfl k) ?_
      refine og (fun _ k => XS.iload X.here hx rfl (hb hby d52_21_5) rfl k) ?_
      refine og (fun _ k => XS.icmpYes X.here hx rfl (pc0 := 7) (pc' := 44) rfl (hb hby d52_21_7) rfl (flt Int32.lt_irrefl).2.1 (by decide) (by decide) k) ?_
      refine og (fun _ k => XS.iload X.here hx rfl (hb hby d52_21_44) rfl k) ?_
      show OGo p e below _ T (mkF m 46 #[.val (.ref ca), .val (.int (Int32.ofNat cs.length)), .val (.ref b), .val (.int (Int32.ofNat cs.length)), .val (.int (Int32.ofNat cs.length)), .val (.int (Int32.ofNat cs.length)), s6] [(.int (Int32.ofNat cs.length))])
      exact OGo.ret X hx (t := .int) hret hlk rfl (Or.inl ⟨rfl, by simp, _, rfl⟩) (hb hby d52_21_46) (by decide) (by decide) (by rw [eT]; exact ⟨rfl, N, K, Vb⟩)
    | succ r ih =>
      intro i T h locs s6 hi h6 X eT N K Vc Vb
      have hil : i < cs.length := by omega
      obtain ⟨x, hxi⟩ : ∃ x, cs[i]? = some x := ⟨_, List.getElem?_eq_getElem hil⟩
      have hx8 := hp x (List.mem_of_getElem? hxi)
      have hlt : Int32.ofNat i < (Int32.ofNat cs.length) := (own_lt (by omega) hbl).mpr hil
      have Vb' : Arv Z h b kb .byte (Int32.ofNat cs.length) (own_b8 (cs.take i) ++ List.replicate 1 (.int (0 : Int32))) (.int (0 : Int32)) := Vb.pad (pad_rep _ _ 1)
      refine og (fun _ k => XS.iload X.here hx rfl (hb hby d52_21_3) rfl k) ?_
      refine og (fun _ k => XS.iload X.here hx rfl (hb hby d52_21_5) rfl k) ?_
      refine og (fun _ k => XS.icmpNo X.here hx rfl (hb hby d52_21_7) rfl (tlt hlt).2.1 k) ?_
      refine og (fun _ k => XS.aloadN X.here hx rfl (hb hby d52_21_10) rfl rfl k) ?_
      refine og (fun _ k => XS.iloadN X.here hx rfl (hb hby d52_21_11) rfl k) ?_
      refine og (fun _ k => caloadV X hx hZ eT Vc ⟨own_nn (by omega), hlt⟩ (own_at hxi (by omega)) (g := (mkF m 12 #[.val (.ref ca), .val (.int (Int32.ofNat i)), .val (.ref b), .val (.int (Int32.ofNat i)), .val (.int (Int32.ofNat cs.length)), .val (.int (Int32.ofNat i)), s6] [(.int (Int32.ofNat i)), (.ref ca)])) rfl rfl (hb hby d52_21_12) _ k) ?_
      refine og (fun _ k => XS.istore X.here hx rfl (hb hby d52_21_13) rfl (own_one h6) k) ?_
      refine og (fun _ k => XS.iload X.here hx rfl (hb hby d52_21_15) rfl k) ?_
      refine og (fun _ k => XS.sipush X.here hx rfl (hb hby d52_21_17) k) ?_
      refine og (fun _ k => XS.icmpYes X.here hx rfl (pc0 := 20) (pc' := 26) rfl (hb hby d52_21_20) rfl (flt hx8.2).2.2.2 (by decide) (by decide) k) ?_
      refine og (fun _ k => XS.aloadN X.here hx rfl (hb hby d52_21_26) rfl rfl k) ?_
      refine og (fun _ k => XS.iloadN X.here hx rfl (hb hby d52_21_27) rfl k) ?_
      refine og (fun _ k => XS.iload X.here hx rfl (hb hby d52_21_28) rfl k) ?_
      refine og (fun _ k => XS.i2b X.here hx rfl (hb hby d52_21_30) rfl k) ?_
      obtain ⟨T109, h109, X109, e109, W109, Vq109, st109⟩ := bastoreV X hx hZ eT Vb' (j := (Int32.ofNat i)) ⟨own_nn (by omega), hlt⟩ (by rw [own_cl (by omega), List.length_append, own_b8_len]; simp; omega) (g := (mkF m 31 #[.val (.ref ca), .val (.int (Int32.ofNat i)), .val (.ref b), .val (.int (Int32.ofNat i)), .val (.int (Int32.ofNat cs.length)), .val (.int (Int32.ofNat i)), .val (.int x)] [(.int (x.toInt8.toInt32)), (.int (Int32.ofNat i)), (.ref b)])) rfl rfl (hb hby d52_21_31)
      have N109 := Fr.snoc X109 N g_b
      have KK109 : Keep h0 h109 [b] := K.wr W109 (Or.inl (List.mem_of_getElem? (i := 0) rfl))
      refine og st109 ?_
      rw [own_cl (show i < 2147483648 by omega), own_set hxi] at Vq109
      refine og (fun _ k => XS.iinc X109.here hx rfl (hb hby d52_21_32) rfl (l' := #[.val (.ref ca), .val (.int ((Int32.ofNat i) + (1 : Int32))), .val (.ref b), .val (.int (Int32.ofNat i)), .val (.int (Int32.ofNat cs.length)), .val (.int (Int32.ofNat i)), .val (.int x)]) rfl k) ?_
      refine og (fun _ k => XS.iinc X109.here hx rfl (hb hby d52_21_35) rfl (l' := #[.val (.ref ca), .val (.int ((Int32.ofNat i) + (1 : Int32))), .val (.ref b), .val (.int ((Int32.ofNat i) + (1 : Int32))), .val (.int (Int32.ofNat cs.length)), .val (.int (Int32.ofNat i)), .val (.int x)]) rfl k) ?_
      refine og (fun _ k => XS.iinc X109.here hx rfl (hb hby d52_21_38) rfl (l' := #[.val (.ref ca), .val (.int ((Int32.ofNat i) + (1 : Int32))), .val (.ref b), .val (.int ((Int32.ofNat i) + (1 : Int32))), .val (.int (Int32.ofNat cs.length)), .val (.int ((Int32.ofNat i) + (1 : Int32))), .val (.int x)]) rfl k) ?_
      refine og (fun _ k => XS.goto X109.here hx rfl (pc0 := 41) (pc' := 3) rfl (hb hby d52_21_41) (by decide) (by decide) k) ?_
      show OGo p e below _ T109 (mkF m 3 #[.val (.ref ca), .val (.int ((Int32.ofNat i) + (1 : Int32))), .val (.ref b), .val (.int ((Int32.ofNat i) + (1 : Int32))), .val (.int (Int32.ofNat cs.length)), .val (.int ((Int32.ofNat i) + (1 : Int32))), .val (.int x)] [])
      rw [own_inc]
      exact ih (i + 1) T109 h109 _ _ (by omega) (One.val rfl) X109 e109 N109 KK109 (Vc.other W109 nbc) Vq109
  exact loop cs.length 0 _ _ _ _ (Nat.zero_add _) One.u X0 e0 N0 (Keep.refl _ _) Vc Vb
theorem d52_16_0 : DK jdk_52_method_16_code 0 (.iload_n 2) 1 := by decide +kernel
theorem d52_16_1 : DK jdk_52_method_16_code 1 (.newarray .byte) 2 := by decide +kernel
theorem d52_16_3 : DK jdk_52_method_16_code 3 (.astore_n 3) 1 := by decide +kernel
theorem d52_16_4 : DK jdk_52_method_16_code 4 (.aload_n 0) 1 := by decide +kernel
theorem d52_16_5 : DK jdk_52_method_16_code 5 (.iload_n 1) 1 := by decide +kernel
theorem d52_16_6 : DK jdk_52_method_16_code 6 (.aload_n 3) 1 := by decide +kernel
theorem d52_16_7 : DK jdk_52_method_16_code 7 (.iconst 0) 1 := by decide +kernel
theorem d52_16_8 : DK jdk_52_method_16_code 8 (.iload_n 2) 1 := by decide +kernel
theorem opd_22 : parseMethodDescriptor "([CI[BII)I" = some ⟨[(.array .char), .int, (.array .byte), .int, .int], some .int⟩ := by decide +kernel
theorem d52_16_9 : DK jdk_52_method_16_code 9 (.invokestatic 115) 3 := by decide +kernel
theorem d52_16_12 : DK jdk_52_method_16_code 12 (.istore 4) 2 := by decide +kernel
theorem d52_16_14 : DK jdk_52_method_16_code 14 (.iload 4) 2 := by decide +kernel
theorem d52_16_16 : DK jdk_52_method_16_code 16 (.iload_n 2) 1 := by decide +kernel
theorem d52_16_17 : DK jdk_52_method_16_code 17 (.if_icmp .eq 40) 3 := by decide +kernel
theorem d52_16_57 : DK jdk_52_method_16_code 57 (.aload_n 3) 1 := by decide +kernel
theorem d52_16_58 : DK jdk_52_method_16_code 58 .areturn 1 := by decide +kernel
theorem opl_rm_cmp3 : plainFor (⟨"java/lang/StringUTF16", "compress", "([CII)[B"⟩ : MethodName) = true := plainFor_of_name (by first | (simp [plainName, overriddenIn]; done) | decide +kernel)
theorem rm_cmp3 (l : Launch) (Z : State) (a0 : Array Value) (hw : ∀ d ∈ tables_1, d.before a0 Z = true) (ws : List Jvm.Cond) (ca : Addr) (kc : ClassId) (cs : List Int32) (zc : Int32) (wf : Value) (n0 : Nat) (h0 : Heap) (SS : own_SS Z zc wf) (O : Old Z n0 h0) (Vc : Arv Z h0 ca kc .char (Int32.ofNat cs.length) (cs.map Value.int) (.int (0 : Int32))) (hp : own_ok8 cs) (hbl : cs.length < 2147483648) (hcap : cs.length ≤ 2) :
    Con l Z (⟨"java/lang/StringUTF16", "compress", "([CII)[B"⟩ : MethodName) jdk_52_method_16_code 6 (some (.array .byte)) ws ({ frames := 1, cells := 1, slots := 2, locals := 18 } : Room) #[(.ref ca), (.int (0 : Int32)), (.int (Int32.ofNat cs.length))] h0 (fun v h L => ∃ r k', v = some (.ref r) ∧ h0.size ≤ r ∧ Fr n0 L ∧ Keep h0 h [] ∧ Arv Z h r k' .byte (Int32.ofNat cs.length) (own_b8 cs) (.int (0 : Int32))) := by
  refine Con.intro opl_rm_cmp3 ?_
  intro p e s m below meth c s₁ hx hby hml hown hret hlk hZ hnm X0 e0
  have SS' := SS
  obtain ⟨hzc, SC, hwf, SF⟩ := SS
  have Z0 : n0 ≤ h0.size := O.1 ▸ O.2.1
  have N0 := Fr.nil n0
  refine OGo.cast (g' := (mkF m 0 #[.val (.ref ca), .val (.int (0 : Int32)), .val (.int (Int32.ofNat cs.length)), .unset, .unset, .unset] [])) (by first | (simp [entryFrame, mkF, argsToLocals, Value.category]; done) | rfl) ?_
  refine og (fun _ k => XS.iloadN X0.here hx rfl (hb hby d52_16_0) rfl k) ?_
  obtain ⟨T110, h110, k110, X110, e110, E110, A110, AE110, st110⟩ := newPE X0 hx hZ (own_g hw 19 rfl) e0 (g := (mkF m 1 #[.val (.ref ca), .val (.int (0 : Int32)), .val (.int (Int32.ofNat cs.length)), .unset, .unset, .unset] [(.int (Int32.ofNat cs.length))])) rfl (hb hby d52_16_1) rfl (own_nn hbl) (cap := 2) (by rw [own_cl hbl]; exact hcap) (by decide) (by decide) (by decide) (ad := "[B") (by decide)
  obtain ⟨b110, g110⟩ : ∃ z, z = h0.size := ⟨_, rfl⟩
  rw [← g110] at A110 AE110 st110
  have sz_b110 : h0.size ≤ b110 := Nat.le_trans (Keep.refl h0 []).1 (Nat.le_of_eq g110.symm)
  have KK110 : Keep h0 h110 [] := (Keep.refl h0 []).ext E110
  have V110 : Arv Z h110 b110 k110 .byte (Int32.ofNat cs.length) [] (.int (0 : Int32)) := Arv.new A110 (own_nn hbl)
  refine og st110 ?_
  refine og (fun _ k => XS.astoreN X110.here hx rfl (hb hby d52_16_3) rfl rfl (l' := #[.val (.ref ca), .val (.int (0 : Int32)), .val (.int (Int32.ofNat cs.length)), .val (.ref b110), .unset, .unset]) rfl k) ?_
  refine og (fun _ k => XS.aloadN X110.here hx rfl (hb hby d52_16_4) rfl rfl k) ?_
  refine og (fun _ k => XS.iloadN X110.here hx rfl (hb hby d52_16_5) rfl k) ?_
  refine og (fun _ k => XS.aloadN X110.here hx rfl (hb hby d52_16_6) rfl rfl k) ?_
  refine og (fun _ k => XS.iconst X110.here hx rfl (hb hby d52_16_7) k) ?_
  refine og (fun _ k => XS.iloadN X110.here hx rfl (hb hby d52_16_8) rfl k) ?_
  obtain ⟨v111, T111, L111, X111, hQ111, st111⟩ := scall X110 hx hZ hown (own_g hw 20 rfl) (own_g hw 21 rfl) (own_g hw 17 rfl) (own_g hw 22 rfl) (by decide) (W := 0) (rm_cmp5 l Z a0 hw [] ca b110 kc k110 cs zc wf n0 h110 SS' (O.ext E110) (Vc.ext E110) V110 hp hbl (Nat.ne_of_lt (Nat.lt_of_lt_of_le Vc.lt sz_b110)) (Nat.le_trans Z0 sz_b110)) e110 (by decide) (by decide) (by decide) (by decide) (g := (mkF m 9 #[.val (.ref ca), .val (.int (0 : Int32)), .val (.int (Int32.ofNat cs.length)), .val (.ref b110), .unset, .unset] [(.int (Int32.ofNat cs.length)), (.int (0 : Int32)), (.ref b110), (.int (0 : Int32)), (.ref ca)])) rfl (by rw [hml]; rfl) (argsL := [(.ref ca), (.int (0 : Int32)), (.ref b110), (.int (0 : Int32)), (.int (Int32.ofNat cs.length))]) (rest := []) opd_22 rfl rfl rfl (by show 2 * 0 + _ ≤ _; exact Nat.le_of_eq rfl) (hb hby d52_16_9)
  obtain ⟨rfl, N111, K111, V111⟩ := hQ111
  have NN111 := Fr.app N0 N111
  have KK111 : Keep h0 T111.heap [] := KK110.trans K111 (allS (Or.inr sz_b110) all0)
  refine og st111 ?_
  refine og (fun _ k => XS.istore X111.here hx rfl (hb hby d52_16_12) rfl (l' := #[.val (.ref ca), .val (.int (0 : Int32)), .val (.int (Int32.ofNat cs.length)), .val (.ref b110), .val (.int (Int32.ofNat cs.length)), .unset]) rfl k) ?_
  refine og (fun _ k => XS.iload X111.here hx rfl (hb hby d52_16_14) rfl k) ?_
  refine og (fun _ k => XS.iloadN X111.here hx rfl (hb hby d52_16_16) rfl k) ?_
  refine og (fun _ k => XS.icmpYes X111.here hx rfl (pc0 := 17) (pc' := 57) rfl (hb hby d52_16_17) rfl (teq (rfl : (Int32.ofNat cs.length) = (Int32.ofNat cs.length))).1 (by decide) (by decide) k) ?_
  refine og (fun _ k => XS.aloadN X111.here hx rfl (hb hby d52_16_57) rfl rfl k) ?_
  show OGo p e below _ T111 (mkF m 58 #[.val (.ref ca), .val (.int (0 : Int32)), .val (.int (Int32.ofNat cs.length)), .val (.ref b110), .val (.int (Int32.ofNat cs.length)), .unset] [(.ref b110)])
  exact OGo.ret X111 hx (t := (.array .byte)) hret hlk rfl (Or.inr (Or.inr (Or.inr (Or.inr ⟨rfl, rfl, rfl⟩)))) (hb hby d52_16_58) (by decide) (by decide) ⟨b110, _, rfl, sz_b110, NN111, KK111, V111⟩
theorem d52_15_0 : DK jdk_52_method_15_code 0 (.iload_n 1) 1 := by decide +kernel
theorem d52_15_1 : DK jdk_52_method_15_code 1 (.aload_n 0) 1 := by decide +kernel
theorem d52_15_2 : DK jdk_52_method_15_code 2 .arraylength 1 := by decide +kernel
theorem d52_15_3 : DK jdk_52_method_15_code 3 .isub 1 := by decide +kernel
theorem d52_15_4 : DK jdk_52_method_15_code 4 (.bipush 31) 2 := by decide +kernel
theorem d52_15_6 : DK jdk_52_method_15_code 6 .iushr 1 := by decide +kernel
theorem d52_15_7 : DK jdk_52_method_15_code 7 .i2b 1 := by decide +kernel
theorem d52_15_8 : DK jdk_52_method_15_code 8 .ireturn 1 := by decide +kernel
theorem opl_rm_cfal : plainFor (⟨"java/lang/StringUTF16", "coderFromArrayLen", "([BI)B"⟩ : MethodName) = true := plainFor_of_name (by first | (simp [plainName, overriddenIn]; done) | decide +kernel)
theorem rm_cfal (l : Launch) (Z : State) (a0 : Array Value) (hw : ∀ d ∈ tables_1, d.before a0 Z = true) (ws : List Jvm.Cond) (d : Addr) (k : ClassId) (z : Int32) (us : List Value) (h0 : Heap) (V : Arv Z h0 d k .byte z us (.int (0 : Int32))) :
    Con l Z (⟨"java/lang/StringUTF16", "coderFromArrayLen", "([BI)B"⟩ : MethodName) jdk_52_method_15_code 2 (some .byte) ws ({ frames := 0, cells := 0, slots := 0, locals := 0 } : Room) #[(.ref d), (.int z)] h0 (fun v h L => v = some (.int (0 : Int32)) ∧ L = [] ∧ h = h0) := by
  refine Con.intro opl_rm_cfal ?_
  intro p e s m below meth c s₁ hx hby hml hown hret hlk hZ hnm X0 e0
  refine OGo.cast (g' := (mkF m 0 #[.val (.ref d), .val (.int z)] [])) (by first | (simp [entryFrame, mkF, argsToLocals, Value.category]; done) | rfl) ?_
  refine og (fun _ k => XS.iloadN X0.here hx rfl (hb hby d52_15_0) rfl k) ?_
  refine og (fun _ k => XS.aloadN X0.here hx rfl (hb hby d52_15_1) rfl rfl k) ?_
  refine og (fun _ k => alenV X0 hx hZ e0 V (g := (mkF m 2 #[.val (.ref d), .val (.int z)] [(.ref d), (.int z)])) rfl rfl (hb hby d52_15_2) _ k) ?_
  refine og (fun _ k => XS.isub X0.here hx rfl (hb hby d52_15_3) rfl k) ?_
  refine og (fun _ k => XS.bipush X0.here hx rfl (hb hby d52_15_4) k) ?_
  refine og (fun _ k => XS.iushr X0.here hx rfl (hb hby d52_15_6) rfl k) ?_
  refine og (fun _ k => XS.i2b X0.here hx rfl (hb hby d52_15_7) rfl k) ?_
  show OGo p e below _ s₁ (mkF m 8 #[.val (.ref d), .val (.int z)] [(.int ((((z - z).toUInt32 >>> ((31 : Int32) &&& 31).toUInt32).toInt32).toInt8.toInt32))])
  rw [own_cfal]
  show OGo p e below _ s₁ (mkF m 8 #[.val (.ref d), .val (.int z)] [(.int (0 : Int32))])
  exact OGo.ret X0 hx (t := .byte) hret hlk rfl (Or.inl ⟨rfl, by simp, _, rfl⟩) (hb hby d52_15_8) (by decide) (by decide) ⟨rfl, rfl, e0⟩
theorem d42_149_0 : DK jdk_42_method_149_code 0 (.aload_n 0) 1 := by decide +kernel
theorem d42_149_1 : DK jdk_42_method_149_code 1 (.invokespecial 1) 3 := by decide +kernel
theorem d42_149_4 : DK jdk_42_method_149_code 4 (.iload_n 3) 1 := by decide +kernel
theorem d42_149_5 : DK jdk_42_method_149_code 5 (.ifCond .ne 22) 3 := by decide +kernel
theorem d42_149_27 : DK jdk_42_method_149_code 27 (.getstatic 38) 3 := by decide +kernel
theorem d42_149_30 : DK jdk_42_method_149_code 30 (.ifCond .eq 28) 3 := by decide +kernel
theorem d42_149_33 : DK jdk_42_method_149_code 33 (.aload_n 1) 1 := by decide +kernel
theorem d42_149_34 : DK jdk_42_method_149_code 34 (.iload_n 2) 1 := by decide +kernel
theorem d42_149_35 : DK jdk_42_method_149_code 35 (.iload_n 3) 1 := by decide +kernel
theorem opd_23 : parseMethodDescriptor "([CII)[B" = some ⟨[(.array .char), .int, .int], some (.array .byte)⟩ := by decide +kernel
theorem d42_149_36 : DK jdk_42_method_149_code 36 (.invokestatic 177) 3 := by decide +kernel
theorem d42_149_39 : DK jdk_42_method_149_code 39 (.astore 5) 2 := by decide +kernel
theorem d42_149_41 : DK jdk_42_method_149_code 41 (.aload_n 0) 1 := by decide +kernel
theorem d42_149_42 : DK jdk_42_method_149_code 42 (.aload 5) 2 := by decide +kernel
theorem d42_149_44 : DK jdk_42_method_149_code 44 (.iload_n 3) 1 := by decide +kernel
theorem opd_24 : parseMethodDescriptor "([BI)B" = some ⟨[(.array .byte), .int], some .byte⟩ := by decide +kernel
theorem d42_149_45 : DK jdk_42_method_149_code 45 (.invokestatic 47) 3 := by decide +kernel
theorem d42_149_48 : DK jdk_42_method_149_code 48 (.putfield 15) 3 := by decide +kernel
theorem d42_149_51 : DK jdk_42_method_149_code 51 (.aload_n 0) 1 := by decide +kernel
theorem d42_149_52 : DK jdk_42_method_149_code 52 (.aload 5) 2 := by decide +kernel
theorem d42_149_54 : DK jdk_42_method_149_code 54 (.putfield 9) 3 := by decide +kernel
theorem d42_149_57 : DK jdk_42_method_149_code 57 .return_ 1 := by decide +kernel
theorem opl_rm_new4 : plainFor (⟨"java/lang/String", "<init>", "([CIILjava/lang/Void;)V"⟩ : MethodName) = true := plainFor_of_name (by first | (simp [plainName, overriddenIn]; done) | decide +kernel)
theorem rm_new4 (l : Launch) (Z : State) (a0 : Array Value) (hw : ∀ d ∈ tables_1, d.before a0 Z = true) (ws : List Jvm.Cond) (a : Addr) (ca : Addr) (kc : ClassId) (cs : List Int32) (zc : Int32) (wf : Value) (n0 : Nat) (h0 : Heap) (SS : own_SS Z zc wf) (O : Old Z n0 h0) (Vc : Arv Z h0 ca kc .char (Int32.ofNat cs.length) (cs.map Value.int) (.int (0 : Int32))) (hp : own_ok8 cs) (hbl : cs.length < 2147483648) (hcap : cs.length ≤ 2) (E : Exa Z h0 a "java/lang/String") (Fc : Fld Z h0 a "java/lang/String" "coder" "B" (.int (0 : Int32))) (Fv : Fld Z h0 a "java/lang/String" "value" "[B" .null) (g_a : n0 ≤ a) (hne : ¬ (Int32.ofNat cs.length) = 0) (nca : ca ≠ a) :
    Con l Z (⟨"java/lang/String", "<init>", "([CIILjava/lang/Void;)V"⟩ : MethodName) jdk_42_method_149_code 6 none ws ({ frames := 2, cells := 1, slots := 2, locals := 35 } : Room) #[(.ref a), (.ref ca), (.int (0 : Int32)), (.int (Int32.ofNat cs.length)), .null] h0 (fun v h L => v = none ∧ Fr n0 L ∧ Keep h0 h [a] ∧ ∃ r k', h0.size ≤ r ∧ STI Z h a r k' (own_b8 cs)) := by
  refine Con.intro opl_rm_new4 ?_
  intro p e s m below meth c s₁ hx hby hml hown hret hlk hZ hnm X0 e0
  have SS' := SS
  obtain ⟨hzc, SC, hwf, SF⟩ := SS
  have Z0 : n0 ≤ h0.size := O.1 ▸ O.2.1
  have N0 := Fr.nil n0
  refine OGo.cast (g' := (mkF m 0 #[.val (.ref a), .val (.ref ca), .val (.int (0 : Int32)), .val (.int (Int32.ofNat cs.length)), .val .null, .unset] [])) (by first | (simp [entryFrame, mkF, argsToLocals, Value.category]; done) | rfl) ?_
  refine og (fun _ k => XS.aloadN X0.here hx rfl (hb hby d42_149_0) rfl rfl k) ?_
  obtain ⟨T112, X112, e112, st112⟩ := initO X0 hx hZ hown (own_g hw 11 rfl) (own_g hw 12 rfl) (own_g hw 13 rfl) e0 (g := (mkF m 1 #[.val (.ref a), .val (.ref ca), .val (.int (0 : Int32)), .val (.int (Int32.ofNat cs.length)), .val .null, .unset] [(.ref a)])) rfl (by rw [hml]; rfl) rfl (hb hby d42_149_1) (by decide) (W := 0) (by show 2 * 0 + _ ≤ _; exact Nat.le_of_eq rfl) (by decide)
  refine og st112 ?_
  refine og (fun _ k => XS.iloadN X112.here hx rfl (hb hby d42_149_4) rfl k) ?_
  refine og (fun _ k => XS.ifYes X112.here hx rfl (pc0 := 5) (pc' := 27) rfl (hb hby d42_149_5) rfl ((if0 _ _).trans (feq hne).2) (by decide) (by decide) k) ?_
  obtain ⟨T113, X113, e113, st113⟩ := getS2 X112 hx hZ hown (host := "") (Or.inl (own_g hw 14 rfl)) Via.refl e112 (SC.ext O.2) (g := (mkF m 27 #[.val (.ref a), .val (.ref ca), .val (.int (0 : Int32)), .val (.int (Int32.ofNat cs.length)), .val .null, .unset] [])) rfl (hb hby d42_149_27)
  refine og st113 ?_
  refine og (fun _ k => XS.ifNo X113.here hx rfl (hb hby d42_149_30) rfl ((if0 _ _).trans (feq hzc).1) k) ?_
  refine og (fun _ k => XS.aloadN X113.here hx rfl (hb hby d42_149_33) rfl rfl k) ?_
  refine og (fun _ k => XS.iloadN X113.here hx rfl (hb hby d42_149_34) rfl k) ?_
  refine og (fun _ k => XS.iloadN X113.here hx rfl (hb hby d42_149_35) rfl k) ?_
  obtain ⟨v114, T114, L114, X114, hQ114, st114⟩ := scall X113 hx hZ hown (own_g hw 15 rfl) (own_g hw 16 rfl) (own_g hw 17 rfl) (own_g hw 18 rfl) (by decide) (W := 0) (rm_cmp3 l Z a0 hw [] ca kc cs zc wf n0 h0 SS' O Vc hp hbl hcap) e113 (by decide) (by decide) (by decide) (by decide) (g := (mkF m 36 #[.val (.ref a), .val (.ref ca), .val (.int (0 : Int32)), .val (.int (Int32.ofNat cs.length)), .val .null, .unset] [(.int (Int32.ofNat cs.length)), (.int (0 : Int32)), (.ref ca)])) rfl (by rw [hml]; rfl) (argsL := [(.ref ca), (.int (0 : Int32)), (.int (Int32.ofNat cs.length))]) (rest := []) opd_23 rfl rfl rfl (by show 2 * 0 + _ ≤ _; exact Nat.le_of_eq rfl) (hb hby d42_149_36)
  obtain ⟨r114, kr114, rfl, sr114, N114, K114, V114⟩ := hQ114
  have NN114 := Fr.app N0 N114
  have KK114 : Keep h0 T114.heap [a] := (Keep.refl h0 [a]).trans K114 all0
  have sz_r114 : h0.size ≤ r114 := Nat.le_trans (Keep.refl h0 [a]).1 sr114
  refine og st114 ?_
  refine og (fun _ k => XS.astore X114.here hx rfl (hb hby d42_149_39) rfl rfl (l' := #[.val (.ref a), .val (.ref ca), .val (.int (0 : Int32)), .val (.int (Int32.ofNat cs.length)), .val .null, .val (.ref r114)]) rfl k) ?_
  refine og (fun _ k => XS.aloadN X114.here hx rfl (hb hby d42_149_41) rfl rfl k) ?_
  refine og (fun _ k => XS.aload X114.here hx rfl (hb hby d42_149_42) rfl rfl k) ?_
  refine og (fun _ k => XS.iloadN X114.here hx rfl (hb hby d42_149_44) rfl k) ?_
  obtain ⟨v115, T115, L115, X115, hQ115, st115⟩ := scall X114 hx hZ hown (own_g hw 23 rfl) (own_g hw 24 rfl) (own_g hw 17 rfl) (own_g hw 25 rfl) (by decide) (W := 1) (rm_cfal l Z a0 hw [] r114 kr114 (Int32.ofNat cs.length) (own_b8 cs) T114.heap V114) rfl (by decide) (by decide) (by decide) (by decide) (g := (mkF m 45 #[.val (.ref a), .val (.ref ca), .val (.int (0 : Int32)), .val (.int (Int32.ofNat cs.length)), .val .null, .val (.ref r114)] [(.int (Int32.ofNat cs.length)), (.ref r114), (.ref a)])) rfl (by rw [hml]; rfl) (argsL := [(.ref r114), (.int (Int32.ofNat cs.length))]) (rest := [(.ref a)]) opd_24 rfl rfl rfl (by show 2 * 0 + _ ≤ _; exact Nat.le_of_eq rfl) (hb hby d42_149_45)
  obtain ⟨rfl, rfl, e115⟩ := hQ115
  rw [List.append_nil] at X115
  refine og st115 ?_
  obtain ⟨T116, h116, X116, e116, W116, st116⟩ := putFN X115 hx hZ hown (own_g hw 26 rfl) Via.refl e115 (Fc.keep K114 nin0) (E.keep K114) (Or.inr ⟨(own_g hw 27 rfl), rfl, hnm⟩) (own_g hw 1 rfl) (ty := .byte) (v' := (.int (0 : Int32))) (by decide) rfl rfl (g := (mkF m 48 #[.val (.ref a), .val (.ref ca), .val (.int (0 : Int32)), .val (.int (Int32.ofNat cs.length)), .val .null, .val (.ref r114)] [(.int (0 : Int32)), (.ref a)])) rfl rfl (hb hby d42_149_48)
  have Fw116 := (Fc.keep K114 nin0).same W116
  have N116 := Fr.snoc X116 NN114 g_a
  have KK116 : Keep h0 h116 [a] := KK114.wr W116 (Or.inl (List.mem_of_getElem? (i := 0) rfl))
  refine og st116 ?_
  refine og (fun _ k => XS.aloadN X116.here hx rfl (hb hby d42_149_51) rfl rfl k) ?_
  refine og (fun _ k => XS.aload X116.here hx rfl (hb hby d42_149_52) rfl rfl k) ?_
  have q118 := ((Fv.keep K114 nin0).other W116 (Or.inr (slot_ne (Or.inr (own_g hw 29 rfl)) (Or.inr (own_g hw 27 rfl)) (by decide) (t := (.array .byte)) (t' := .byte) (by decide) (by decide))))
  obtain ⟨T117, h117, X117, e117, W117, st117⟩ := putF X116 hx hZ hown (host := "") (Or.inl (own_g hw 28 rfl)) Via.refl e116 q118 ((E.keep K114).wr W116) (Or.inr ⟨(own_g hw 29 rfl), rfl, hnm⟩) (own_g hw 1 rfl) (ty := (.array .byte)) (by decide) rfl rfl (g := (mkF m 54 #[.val (.ref a), .val (.ref ca), .val (.int (0 : Int32)), .val (.int (Int32.ofNat cs.length)), .val .null, .val (.ref r114)] [(.ref r114), (.ref a)])) rfl rfl (hb hby d42_149_54)
  have Fw117 := q118.same W117
  have N117 := Fr.snoc X117 N116 g_a
  have KK117 : Keep h0 h117 [a] := KK116.wr W117 (Or.inl (List.mem_of_getElem? (i := 0) rfl))
  refine og st117 ?_
  have q119 := (Fw116.other W117 (Or.inr (slot_ne (Or.inr (own_g hw 27 rfl)) (Or.inr (own_g hw 29 rfl)) (by decide) (t := .byte) (t' := (.array .byte)) (by decide) (by decide))))
  have ne120 : r114 ≠ a := (Ne.symm (Nat.ne_of_lt (Nat.lt_of_lt_of_le E.lt sz_r114)))
  have q121 := ((V114.other W116 ne120).other W117 ne120)
  show OGo p e below _ T117 (mkF m 57 #[.val (.ref a), .val (.ref ca), .val (.int (0 : Int32)), .val (.int (Int32.ofNat cs.length)), .val .null, .val (.ref r114)] [])
  exact OGo.retV X117 hx hret hlk (hb hby d42_149_57) (by decide) (by decide) (by rw [e117]; exact ⟨rfl, N117, KK117, r114, _, sz_r114, ⟨(((E.keep K114).wr W116).wr W117), q119, Fw117, by rw [own_b8_len]; exact q121⟩⟩)
theorem d42_3_0 : DK jdk_42_method_3_code 0 (.aload_n 0) 1 := by decide +kernel
theorem d42_3_1 : DK jdk_42_method_3_code 1 (.aload_n 1) 1 := by decide +kernel
theorem d42_3_2 : DK jdk_42_method_3_code 2 (.iconst 0) 1 := by decide +kernel
theorem d42_3_3 : DK jdk_42_method_3_code 3 (.aload_n 1) 1 := by decide +kernel
theorem d42_3_4 : DK jdk_42_method_3_code 4 .arraylength 1 := by decide +kernel
theorem d42_3_5 : DK jdk_42_method_3_code 5 .aconst_null 1 := by decide +kernel
theorem opd_25 : parseMethodDescriptor "([CIILjava/lang/Void;)V" = some ⟨[(.array .char), .int, .int, (.object "java/lang/Void")], none⟩ := by decide +kernel
theorem d42_3_6 : DK jdk_42_method_3_code 6 (.invokespecial 27) 3 := by decide +kernel
theorem d42_3_9 : DK jdk_42_method_3_code 9 .return_ 1 := by decide +kernel
theorem opl_rm_new1 : plainFor (⟨"java/lang/String", "<init>", "([C)V"⟩ : MethodName) = true := plainFor_of_name (by first | (simp [plainName, overriddenIn]; done) | decide +kernel)
theorem rm_new1 (l : Launch) (Z : State) (a0 : Array Value) (hw : ∀ d ∈ tables_1, d.before a0 Z = true) (ws : List Jvm.Cond) (a : Addr) (ca : Addr) (kc : ClassId) (cs : List Int32) (zc : Int32) (wf : Value) (n0 : Nat) (h0 : Heap) (SS : own_SS Z zc wf) (O : Old Z n0 h0) (Vc : Arv Z h0 ca kc .char (Int32.ofNat cs.length) (cs.map Value.int) (.int (0 : Int32))) (hp : own_ok8 cs) (hbl : cs.length < 2147483648) (hcap : cs.length ≤ 2) (E : Exa Z h0 a "java/lang/String") (Fc : Fld Z h0 a "java/lang/String" "coder" "B" (.int (0 : Int32))) (Fv : Fld Z h0 a "java/lang/String" "value" "[B" .null) (g_a : n0 ≤ a) (hne : ¬ (Int32.ofNat cs.length) = 0) (nca : ca ≠ a) :
    Con l Z (⟨"java/lang/String", "<init>", "([C)V"⟩ : MethodName) jdk_42_method_3_code 2 none ws ({ frames := 3, cells := 1, slots := 2, locals := 52 } : Room) #[(.ref a), (.ref ca)] h0 (fun v h L => v = none ∧ Fr n0 L ∧ Keep h0 h [a] ∧ ∃ r k', h0.size ≤ r ∧ STI Z h a r k' (own_b8 cs)) := by
  refine Con.intro opl_rm_new1 ?_
  intro p e s m below meth c s₁ hx hby hml hown hret hlk hZ hnm X0 e0
  have SS' := SS
  obtain ⟨hzc, SC, hwf, SF⟩ := SS
  have Z0 : n0 ≤ h0.size := O.1 ▸ O.2.1
  have N0 := Fr.nil n0
  refine OGo.cast (g' := (mkF m 0 #[.val (.ref a), .val (.ref ca)] [])) (by first | (simp [entryFrame, mkF, argsToLocals, Value.category]; done) | rfl) ?_
  refine og (fun _ k => XS.aloadN X0.here hx rfl (hb hby d42_3_0) rfl rfl k) ?_
  refine og (fun _ k => XS.aloadN X0.here hx rfl (hb hby d42_3_1) rfl rfl k) ?_
  refine og (fun _ k => XS.iconst X0.here hx rfl (hb hby d42_3_2) k) ?_
  refine og (fun _ k => XS.aloadN X0.here hx rfl (hb hby d42_3_3) rfl rfl k) ?_
  refine og (fun _ k => alenV X0 hx hZ e0 Vc (g := (mkF m 4 #[.val (.ref a), .val (.ref ca)] [(.ref ca), (.int (0 : Int32)), (.ref ca), (.ref a)])) rfl rfl (hb hby d42_3_4) _ k) ?_
  refine og (fun _ k => XS.aconstNull X0.here hx rfl (hb hby d42_3_5) k) ?_
  obtain ⟨v122, T122, L122, X122, hQ122, st122⟩ := icall X0 hx hZ rfl hown (own_g hw 7 rfl) (own_g hw 8 rfl) (own_g hw 2 rfl) (own_g hw 10 rfl) (by decide) (W := 0) (rm_new4 l Z a0 hw [] a ca kc cs zc wf n0 h0 SS' O Vc hp hbl hcap E Fc Fv g_a hne nca) e0 (by decide) (by decide) (by decide) (by decide) (g := (mkF m 6 #[.val (.ref a), .val (.ref ca)] [.null, (.int (Int32.ofNat cs.length)), (.int (0 : Int32)), (.ref ca), (.ref a)])) rfl (by rw [hml]; rfl) (a := a) (argsL := [(.ref ca), (.int (0 : Int32)), (.int (Int32.ofNat cs.length)), .null]) (rest := []) opd_25 rfl rfl rfl (by show 2 * 0 + _ ≤ _; exact Nat.le_of_eq rfl) (hb hby d42_3_6)
  obtain ⟨rfl, N122, K122, r122, kr122, sr122, I122⟩ := hQ122
  have NN122 := Fr.app N0 N122
  have KK122 : Keep h0 T122.heap [a] := (Keep.refl h0 [a]).trans K122 (allS (Or.inl (List.mem_of_getElem? (i := 0) rfl)) all0)
  refine og st122 ?_
  show OGo p e below _ T122 (mkF m 9 #[.val (.ref a), .val (.ref ca)] [])
  exact OGo.retV X122 hx hret hlk (hb hby d42_3_9) (by decide) (by decide) ⟨rfl, NN122, KK122, r122, _, sr122, I122⟩
theorem d43_3_0 : DK jdk_43_method_3_code 0 (.iload_n 0) 1 := by decide +kernel
theorem d43_3_1 : DK jdk_43_method_3_code 1 (.sipush 255) 3 := by decide +kernel
theorem d43_3_4 : DK jdk_43_method_3_code 4 (.if_icmp .gt 7) 3 := by decide +kernel
theorem d43_3_7 : DK jdk_43_method_3_code 7 (.iconst 1) 1 := by decide +kernel
theorem d43_3_8 : DK jdk_43_method_3_code 8 (.goto 4) 3 := by decide +kernel
theorem d43_3_12 : DK jdk_43_method_3_code 12 .ireturn 1 := by decide +kernel
theorem opl_rm_can : plainFor (⟨"java/lang/StringLatin1", "canEncode", "(C)Z"⟩ : MethodName) = true := plainFor_of_name (by first | (simp [plainName, overriddenIn]; done) | decide +kernel)
theorem rm_can (l : Launch) (Z : State) (a0 : Array Value) (hw : ∀ d ∈ tables_1, d.before a0 Z = true) (ws : List Jvm.Cond) (x : Int32) (h0 : Heap) (hx255 : ¬ (255 : Int32) < x) :
    Con l Z (⟨"java/lang/StringLatin1", "canEncode", "(C)Z"⟩ : MethodName) jdk_43_method_3_code 1 (some .boolean) ws ({ frames := 0, cells := 0, slots := 0, locals := 0 } : Room) #[(.int x)] h0 (fun v h L => v = some (.int (1 : Int32)) ∧ L = [] ∧ h = h0) := by
  refine Con.intro opl_rm_can ?_
  intro p e s m below meth c s₁ hx hby hml hown hret hlk hZ hnm X0 e0
  refine OGo.cast (g' := (mkF m 0 #[.val (.int x)] [])) (by first | (simp [entryFrame, mkF, argsToLocals, Value.category]; done) | rfl) ?_
  refine og (fun _ k => XS.iloadN X0.here hx rfl (hb hby d43_3_0) rfl k) ?_
  refine og (fun _ k => XS.sipush X0.here hx rfl (hb hby d43_3_1) k) ?_
  refine og (fun _ k => XS.icmpNo X0.here hx rfl (hb hby d43_3_4) rfl (flt hx255).2.2.1 k) ?_
  refine og (fun _ k => XS.iconst X0.here hx rfl (hb hby d43_3_7) k) ?_
  refine og (fun _ k => XS.goto X0.here hx rfl (pc0 := 8) (pc' := 12) rfl (hb hby d43_3_8) (by decide) (by decide) k) ?_
  show OGo p e below _ s₁ (mkF m 12 #[.val (.int x)] [(.int (1 : Int32))])
  exact OGo.ret X0 hx (t := .boolean) hret hlk rfl (Or.inl ⟨rfl, by simp, _, rfl⟩) (hb hby d43_3_12) (by decide) (by decide) ⟨rfl, rfl, e0⟩
theorem d43_46_0 : DK jdk_43_method_46_code 0 (.iconst 1) 1 := by decide +kernel
theorem d43_46_1 : DK jdk_43_method_46_code 1 (.newarray .byte) 2 := by decide +kernel
theorem d43_46_3 : DK jdk_43_method_46_code 3 .dup 1 := by decide +kernel
theorem d43_46_4 : DK jdk_43_method_46_code 4 (.iconst 0) 1 := by decide +kernel
theorem d43_46_5 : DK jdk_43_method_46_code 5 (.iload_n 0) 1 := by decide +kernel
theorem d43_46_6 : DK jdk_43_method_46_code 6 .i2b 1 := by decide +kernel
theorem d43_46_7 : DK jdk_43_method_46_code 7 .bastore 1 := by decide +kernel
theorem d43_46_8 : DK jdk_43_method_46_code 8 .areturn 1 := by decide +kernel
theorem opl_rm_toB : plainFor (⟨"java/lang/StringLatin1", "toBytes", "(C)[B"⟩ : MethodName) = true := plainFor_of_name (by first | (simp [plainName, overriddenIn]; done) | decide +kernel)
theorem rm_toB (l : Launch) (Z : State) (a0 : Array Value) (hw : ∀ d ∈ tables_1, d.before a0 Z = true) (ws : List Jvm.Cond) (x : Int32) (zc : Int32) (wf : Value) (n0 : Nat) (h0 : Heap) (SS : own_SS Z zc wf) (O : Old Z n0 h0) :
    Con l Z (⟨"java/lang/StringLatin1", "toBytes", "(C)[B"⟩ : MethodName) jdk_43_method_46_code 1 (some (.array .byte)) ws ({ frames := 0, cells := 1, slots := 1, locals := 0 } : Room) #[(.int x)] h0 (fun v h L => ∃ r k', v = some (.ref r) ∧ h0.size ≤ r ∧ Fr n0 L ∧ Keep h0 h [] ∧ Arv Z h r k' .byte (1 : Int32) (own_b8 [x]) (.int (0 : Int32))) := by
  refine Con.intro opl_rm_toB ?_
  intro p e s m below meth c s₁ hx hby hml hown hret hlk hZ hnm X0 e0
  obtain ⟨hzc, SC, hwf, SF⟩ := SS
  have Z0 : n0 ≤ h0.size := O.1 ▸ O.2.1
  have N0 := Fr.nil n0
  refine OGo.cast (g' := (mkF m 0 #[.val (.int x)] [])) (by first | (simp [entryFrame, mkF, argsToLocals, Value.category]; done) | rfl) ?_
  refine og (fun _ k => XS.iconst X0.here hx rfl (hb hby d43_46_0) k) ?_
  obtain ⟨T123, h123, k123, X123, e123, E123, A123, AE123, st123⟩ := newPE X0 hx hZ (own_g hw 19 rfl) e0 (g := (mkF m 1 #[.val (.int x)] [(.int (1 : Int32))])) rfl (hb hby d43_46_1) rfl (by decide) (cap := 1) (by decide) (by decide) (by decide) (by decide) (ad := "[B") (by decide)
  obtain ⟨b123, g123⟩ : ∃ z, z = h0.size := ⟨_, rfl⟩
  rw [← g123] at A123 AE123 st123
  have sz_b123 : h0.size ≤ b123 := Nat.le_trans (Keep.refl h0 []).1 (Nat.le_of_eq g123.symm)
  have KK123 : Keep h0 h123 [] := (Keep.refl h0 []).ext E123
  have V123 : Arv Z h123 b123 k123 .byte (1 : Int32) [(.int (0 : Int32))] (.int (0 : Int32)) := (Arv.new A123 (by decide)).pad (pad_rep [] (.int (0 : Int32)) 1)
  refine og st123 ?_
  refine og (fun _ k => XS.dup X123.here hx rfl (hb hby d43_46_3) rfl rfl k) ?_
  refine og (fun _ k => XS.iconst X123.here hx rfl (hb hby d43_46_4) k) ?_
  refine og (fun _ k => XS.iloadN X123.here hx rfl (hb hby d43_46_5) rfl k) ?_
  refine og (fun _ k => XS.i2b X123.here hx rfl (hb hby d43_46_6) rfl k) ?_
  obtain ⟨T124, h124, X124, e124, W124, Vq124, st124⟩ := bastoreV X123 hx hZ e123 V123 (j := (0 : Int32)) ⟨by decide, by decide⟩ (by decide) (g := (mkF m 7 #[.val (.int x)] [(.int (x.toInt8.toInt32)), (.int (0 : Int32)), (.ref b123), (.ref b123)])) rfl rfl (hb hby d43_46_7)
  have N124 := Fr.snoc X124 N0 (Nat.le_trans Z0 sz_b123)
  have KK124 : Keep h0 h124 [] := KK123.wr W124 (Or.inr sz_b123)
  refine og st124 ?_
  have V124 : Arv Z h124 b123 k123 .byte (1 : Int32) (own_b8 [x]) (.int (0 : Int32)) := by have q := Vq124; rw [own_i8i8] at q; exact q
  show OGo p e below _ T124 (mkF m 8 #[.val (.int x)] [(.ref b123)])
  exact OGo.ret X124 hx (t := (.array .byte)) hret hlk rfl (Or.inr (Or.inr (Or.inr (Or.inr ⟨rfl, rfl, rfl⟩)))) (hb hby d43_46_8) (by decide) (by decide) (by rw [e124]; exact ⟨b123, _, rfl, sz_b123, N124, KK124, V124⟩)
theorem d42_151_0 : DK jdk_42_method_151_code 0 (.aload_n 0) 1 := by decide +kernel
theorem d42_151_1 : DK jdk_42_method_151_code 1 (.invokespecial 1) 3 := by decide +kernel
theorem d42_151_4 : DK jdk_42_method_151_code 4 (.aload_n 0) 1 := by decide +kernel
theorem d42_151_5 : DK jdk_42_method_151_code 5 (.aload_n 1) 1 := by decide +kernel
theorem d42_151_6 : DK jdk_42_method_151_code 6 (.putfield 9) 3 := by decide +kernel
theorem d42_151_9 : DK jdk_42_method_151_code 9 (.aload_n 0) 1 := by decide +kernel
theorem d42_151_10 : DK jdk_42_method_151_code 10 (.iload_n 2) 1 := by decide +kernel
theorem d42_151_11 : DK jdk_42_method_151_code 11 (.putfield 15) 3 := by decide +kernel
theorem d42_151_14 : DK jdk_42_method_151_code 14 .return_ 1 := by decide +kernel
theorem opl_rm_sbb : plainFor (⟨"java/lang/String", "<init>", "([BB)V"⟩ : MethodName) = true := plainFor_of_name (by first | (simp [plainName, overriddenIn]; done) | decide +kernel)
theorem rm_sbb (l : Launch) (Z : State) (a0 : Array Value) (hw : ∀ d ∈ tables_1, d.before a0 Z = true) (ws : List Jvm.Cond) (a d : Addr) (k : ClassId) (us : List Value) (zc : Int32) (wf : Value) (n0 : Nat) (h0 : Heap) (SS : own_SS Z zc wf) (O : Old Z n0 h0) (V : Arv Z h0 d k .byte (Int32.ofNat us.length) us (.int (0 : Int32))) (E : Exa Z h0 a "java/lang/String") (Fc : Fld Z h0 a "java/lang/String" "coder" "B" (.int (0 : Int32))) (Fv : Fld Z h0 a "java/lang/String" "value" "[B" .null) (g_a : n0 ≤ a) (nda : d ≠ a) :
    Con l Z (⟨"java/lang/String", "<init>", "([BB)V"⟩ : MethodName) jdk_42_method_151_code 3 none ws ({ frames := 1, cells := 0, slots := 0, locals := 12 } : Room) #[(.ref a), (.ref d), (.int (0 : Int32))] h0 (fun v h L => v = none ∧ Fr n0 L ∧ Keep h0 h [a] ∧ STI Z h a d k us) := by
  refine Con.intro opl_rm_sbb ?_
  intro p e s m below meth c s₁ hx hby hml hown hret hlk hZ hnm X0 e0
  obtain ⟨hzc, SC, hwf, SF⟩ := SS
  have Z0 : n0 ≤ h0.size := O.1 ▸ O.2.1
  have N0 := Fr.nil n0
  refine OGo.cast (g' := (mkF m 0 #[.val (.ref a), .val (.ref d), .val (.int (0 : Int32))] [])) (by first | (simp [entryFrame, mkF, argsToLocals, Value.category]; done) | rfl) ?_
  refine og (fun _ k => XS.aloadN X0.here hx rfl (hb hby d42_151_0) rfl rfl k) ?_
  obtain ⟨T125, X125, e125, st125⟩ := initO X0 hx hZ hown (own_g hw 11 rfl) (own_g hw 12 rfl) (own_g hw 13 rfl) e0 (g := (mkF m 1 #[.val (.ref a), .val (.ref d), .val (.int (0 : Int32))] [(.ref a)])) rfl (by rw [hml]; rfl) rfl (hb hby d42_151_1) (by decide) (W := 0) (by show 2 * 0 + _ ≤ _; exact Nat.le_of_eq rfl) (by decide)
  refine og st125 ?_
  refine og (fun _ k => XS.aloadN X125.here hx rfl (hb hby d42_151_4) rfl rfl k) ?_
  refine og (fun _ k => XS.aloadN X125.here hx rfl (hb hby d42_151_5) rfl rfl k) ?_
  obtain ⟨T126, h126, X126, e126, W126, st126⟩ := putF X125 hx hZ hown (host := "") (Or.inl (own_g hw 28 rfl)) Via.refl e125 Fv E (Or.inr ⟨(own_g hw 29 rfl), rfl, hnm⟩) (own_g hw 1 rfl) (ty := (.array .byte)) (by decide) rfl rfl (g := (mkF m 6 #[.val (.ref a), .val (.ref d), .val (.int (0 : Int32))] [(.ref d), (.ref a)])) rfl rfl (hb hby d42_151_6)
  have Fw126 := Fv.same W126
  have N126 := Fr.snoc X126 N0 g_a
  have KK126 : Keep h0 h126 [a] := (Keep.refl h0 [a]).wr W126 (Or.inl (List.mem_of_getElem? (i := 0) rfl))
  refine og st126 ?_
  refine og (fun _ k => XS.aloadN X126.here hx rfl (hb hby d42_151_9) rfl rfl k) ?_
  refine og (fun _ k => XS.iloadN X126.here hx rfl (hb hby d42_151_10) rfl k) ?_
  have q128 := (Fc.other W126 (Or.inr (slot_ne (Or.inr (own_g hw 27 rfl)) (Or.inr (own_g hw 29 rfl)) (by decide) (t := .byte) (t' := (.array .byte)) (by decide) (by decide))))
  obtain ⟨T127, h127, X127, e127, W127, st127⟩ := putFN X126 hx hZ hown (own_g hw 26 rfl) Via.refl e126 q128 (E.wr W126) (Or.inr ⟨(own_g hw 27 rfl), rfl, hnm⟩) (own_g hw 1 rfl) (ty := .byte) (v' := (.int (0 : Int32))) (by decide) rfl rfl (g := (mkF m 11 #[.val (.ref a), .val (.ref d), .val (.int (0 : Int32))] [(.int (0 : Int32)), (.ref a)])) rfl rfl (hb hby d42_151_11)
  have Fw127 := q128.same W127
  have N127 := Fr.snoc X127 N126 g_a
  have KK127 : Keep h0 h127 [a] := KK126.wr W127 (Or.inl (List.mem_of_getElem? (i := 0) rfl))
  refine og st127 ?_
  have q129 := (Fw126.other W127 (Or.inr (slot_ne (Or.inr (own_g hw 29 rfl)) (Or.inr (own_g hw 27 rfl)) (by decide) (t := (.array .byte)) (t' := .byte) (by decide) (by decide))))
  show OGo p e below _ T127 (mkF m 14 #[.val (.ref a), .val (.ref d), .val (.int (0 : Int32))] [])
  exact OGo.retV X127 hx hret hlk (hb hby d42_151_14) (by decide) (by decide) (by rw [e127]; exact ⟨rfl, N127, KK127, ⟨((E.wr W126).wr W127), Fw127, q129, ((V.other W126 nda).other W127 nda)⟩⟩)
theorem d42_139_0 : DK jdk_42_method_139_code 0 (.getstatic 38) 3 := by decide +kernel
theorem d42_139_3 : DK jdk_42_method_139_code 3 (.ifCond .eq 23) 3 := by decide +kernel
theorem d42_139_6 : DK jdk_42_method_139_code 6 (.iload_n 0) 1 := by decide +kernel
theorem opd_26 : parseMethodDescriptor "(C)Z" = some ⟨[.char], some .boolean⟩ := by decide +kernel
theorem d42_139_7 : DK jdk_42_method_139_code 7 (.invokestatic 1015) 3 := by decide +kernel
theorem d42_139_10 : DK jdk_42_method_139_code 10 (.ifCond .eq 16) 3 := by decide +kernel
theorem d42_139_13 : DK jdk_42_method_139_code 13 (.new 10) 3 := by decide +kernel
theorem d42_139_16 : DK jdk_42_method_139_code 16 .dup 1 := by decide +kernel
theorem d42_139_17 : DK jdk_42_method_139_code 17 (.iload_n 0) 1 := by decide +kernel
theorem opd_27 : parseMethodDescriptor "(C)[B" = some ⟨[.char], some (.array .byte)⟩ := by decide +kernel
theorem d42_139_18 : DK jdk_42_method_139_code 18 (.invokestatic 1018) 3 := by decide +kernel
theorem d42_139_21 : DK jdk_42_method_139_code 21 (.iconst 0) 1 := by decide +kernel
theorem opd_28 : parseMethodDescriptor "([BB)V" = some ⟨[(.array .byte), .byte], none⟩ := by decide +kernel
theorem d42_139_22 : DK jdk_42_method_139_code 22 (.invokespecial 209) 3 := by decide +kernel
theorem d42_139_25 : DK jdk_42_method_139_code 25 .areturn 1 := by decide +kernel
theorem opl_rm_valueOf : plainFor (⟨"java/lang/String", "valueOf", "(C)Ljava/lang/String;"⟩ : MethodName) = true := plainFor_of_name (by first | (simp [plainName, overriddenIn]; done) | decide +kernel)
theorem rm_valueOf (l : Launch) (Z : State) (a0 : Array Value) (hw : ∀ d ∈ tables_1, d.before a0 Z = true) (ws : List Jvm.Cond) (x : Int32) (zc : Int32) (wf : Value) (n0 : Nat) (h0 : Heap) (SS : own_SS Z zc wf) (O : Old Z n0 h0) (hx255 : ¬ (255 : Int32) < x) :
    Con l Z (⟨"java/lang/String", "valueOf", "(C)Ljava/lang/String;"⟩ : MethodName) jdk_42_method_139_code 1 (some (.object "java/lang/String")) ws ({ frames := 2, cells := 2, slots := 5, locals := 27 } : Room) #[(.int x)] h0 (fun v h L => ∃ a r k', v = some (.ref a) ∧ h0.size ≤ a ∧ h0.size ≤ r ∧ Fr n0 L ∧ Keep h0 h [] ∧ STI Z h a r k' (own_b8 [x])) := by
  refine Con.intro opl_rm_valueOf ?_
  intro p e s m below meth c s₁ hx hby hml hown hret hlk hZ hnm X0 e0
  have SS' := SS
  obtain ⟨hzc, SC, hwf, SF⟩ := SS
  have Z0 : n0 ≤ h0.size := O.1 ▸ O.2.1
  have N0 := Fr.nil n0
  refine OGo.cast (g' := (mkF m 0 #[.val (.int x)] [])) (by first | (simp [entryFrame, mkF, argsToLocals, Value.category]; done) | rfl) ?_
  obtain ⟨T130, X130, e130, st130⟩ := getS2 X0 hx hZ hown (host := "") (Or.inl (own_g hw 14 rfl)) Via.refl e0 (SC.ext O.2) (g := (mkF m 0 #[.val (.int x)] [])) rfl (hb hby d42_139_0)
  refine og st130 ?_
  refine og (fun _ k => XS.ifNo X130.here hx rfl (hb hby d42_139_3) rfl ((if0 _ _).trans (feq hzc).1) k) ?_
  refine og (fun _ k => XS.iloadN X130.here hx rfl (hb hby d42_139_6) rfl k) ?_
  obtain ⟨v131, T131, L131, X131, hQ131, st131⟩ := scall X130 hx hZ hown (own_g hw 33 rfl) (own_g hw 34 rfl) (own_g hw 35 rfl) (own_g hw 36 rfl) (by decide) (W := 0) (rm_can l Z a0 hw [] x h0 hx255) e130 (by decide) (by decide) (by decide) (by decide) (g := (mkF m 7 #[.val (.int x)] [(.int x)])) rfl (by rw [hml]; rfl) (argsL := [(.int x)]) (rest := []) opd_26 rfl rfl rfl (by show 2 * 0 + _ ≤ _; exact Nat.le_of_eq rfl) (hb hby d42_139_7)
  obtain ⟨rfl, rfl, e131⟩ := hQ131
  rw [List.append_nil] at X131
  refine og st131 ?_
  refine og (fun _ k => XS.ifNo X131.here hx rfl (hb hby d42_139_10) rfl ((if0 _ _).trans (feq (by decide : ¬ (1 : Int32) = 0)).1) k) ?_
  obtain ⟨T132, h132, X132, e132, E132, A132, D132, UN132, st132⟩ := newO X131 hx hZ hown (own_g hw 37 rfl) (own_g hw 1 rfl) (own_g hw 2 rfl) e131 (g := (mkF m 13 #[.val (.int x)] [])) rfl (hb hby d42_139_13) (by decide) (by decide)
  obtain ⟨b132, g132⟩ : ∃ z, z = h0.size := ⟨_, rfl⟩
  rw [← g132] at A132 D132 UN132 st132
  have sz_b132 : h0.size ≤ b132 := Nat.le_trans (Keep.refl h0 []).1 (Nat.le_of_eq g132.symm)
  have KK132 : Keep h0 h132 [] := (Keep.refl h0 []).ext E132
  have F132_coder : Fld Z h132 b132 "java/lang/String" "coder" "B" (.int (0 : Int32)) := D132 (Or.inr (own_g hw 27 rfl)) (ty := .byte) (by decide)
  have F132_value : Fld Z h132 b132 "java/lang/String" "value" "[B" .null := D132 (Or.inr (own_g hw 29 rfl)) (ty := (.array .byte)) (by decide)
  refine og st132 ?_
  refine og (fun _ k => XS.dup X132.here hx rfl (hb hby d42_139_16) rfl rfl k) ?_
  refine og (fun _ k => XS.iloadN X132.here hx rfl (hb hby d42_139_17) rfl k) ?_
  obtain ⟨v133, T133, L133, X133, hQ133, st133⟩ := scall X132 hx hZ hown (own_g hw 38 rfl) (own_g hw 39 rfl) (own_g hw 35 rfl) (own_g hw 40 rfl) (by decide) (W := 2) (rm_toB l Z a0 hw [] x zc wf n0 h132 SS' (O.ext E132)) e132 (by decide) (by decide) (by decide) (by decide) (g := (mkF m 18 #[.val (.int x)] [(.int x), (.ref b132), (.ref b132)])) rfl (by rw [hml]; rfl) (argsL := [(.int x)]) (rest := [(.ref b132), (.ref b132)]) opd_27 rfl rfl rfl (by show 2 * 0 + _ ≤ _; exact Nat.le_of_eq rfl) (hb hby d42_139_18)
  obtain ⟨r133, kr133, rfl, sr133, N133, K133, V133⟩ := hQ133
  have NN133 := Fr.app N0 N133
  have KK133 : Keep h0 T133.heap [] := KK132.trans K133 all0
  have sz_r133 : h0.size ≤ r133 := Nat.le_trans KK132.1 sr133
  refine og st133 ?_
  refine og (fun _ k => XS.iconst X133.here hx rfl (hb hby d42_139_21) k) ?_
  have ne134 : r133 ≠ b132 := (Ne.symm (Nat.ne_of_lt (Nat.lt_of_lt_of_le F132_coder.lt sr133)))
  obtain ⟨v135, T135, L135, X135, hQ135, st135⟩ := icall X133 hx hZ rfl hown (own_g hw 41 rfl) (own_g hw 42 rfl) (own_g hw 2 rfl) (own_g hw 43 rfl) (by decide) (W := 1) (rm_sbb l Z a0 hw [] b132 r133 kr133 (own_b8 [x]) zc wf n0 T133.heap SS' ((O.ext E132).keep K133 all0) V133 (A132.keep K133) (F132_coder.keep K133 nin0) (F132_value.keep K133 nin0) (Nat.le_trans Z0 sz_b132) ne134) rfl (by decide) (by decide) (by decide) (by decide) (g := (mkF m 22 #[.val (.int x)] [(.int (0 : Int32)), (.ref r133), (.ref b132), (.ref b132)])) rfl (by rw [hml]; rfl) (a := b132) (argsL := [(.ref r133), (.int (0 : Int32))]) (rest := [(.ref b132)]) opd_28 rfl rfl rfl (by show 2 * 0 + _ ≤ _; exact Nat.le_of_eq rfl) (hb hby d42_139_22)
  obtain ⟨rfl, N135, K135, I135⟩ := hQ135
  have NN135 := Fr.app NN133 N135
  have KK135 : Keep h0 T135.heap [] := KK133.trans K135 (allS (Or.inr sz_b132) all0)
  refine og st135 ?_
  show OGo p e below _ T135 (mkF m 25 #[.val (.int x)] [(.ref b132)])
  exact OGo.ret X135 hx (t := (.object "java/lang/String")) hret hlk rfl (Or.inr (Or.inr (Or.inr (Or.inr ⟨rfl, rfl, rfl⟩)))) (hb hby d42_139_25) (by decide) (by decide) ⟨b132, r133, _, rfl, sz_b132, sz_r133, NN135, KK135, I135⟩
def own_l7 : List Value := [(.int (108 : Int32)), (.int (101 : Int32)), (.int (97 : Int32)), (.int (115 : Int32)), (.int (101 : Int32)), (.int (75 : Int32)), (.int (101 : Int32)), (.int (121 : Int32))]
theorem own_n7 : own_l7.length = 8 := rfl
def own_l29 : List Value := [(.int (99 : Int32)), (.int (104 : Int32)), (.int (101 : Int32)), (.int (99 : Int32)), (.int (107 : Int32)), (.int (112 : Int32)), (.int (111 : Int32)), (.int (105 : Int32)), (.int (110 : Int32)), (.int (116 : Int32))]
theorem own_n29 : own_l29.length = 10 := rfl
def own_l66 : List Value := [(.int (108 : Int32)), (.int (101 : Int32)), (.int (97 : Int32)), (.int (115 : Int32)), (.int (101 : Int32)), (.int (32 : Int32))]
theorem own_n66 : own_l66.length = 6 := rfl
def own_l68 : List Value := [(.int (32 : Int32)), (.int (40 : Int32)), (.int (111 : Int32)), (.int (119 : Int32)), (.int (110 : Int32)), (.int (101 : Int32)), (.int (114 : Int32)), (.int (32 : Int32))]
theorem own_n68 : own_l68.length = 8 := rfl
def own_l70 : List Value := [(.int (44 : Int32)), (.int (32 : Int32)), (.int (99 : Int32)), (.int (111 : Int32)), (.int (117 : Int32)), (.int (110 : Int32)), (.int (116 : Int32)), (.int (101 : Int32)), (.int (114 : Int32)), (.int (32 : Int32))]
theorem own_n70 : own_l70.length = 10 := rfl
def own_l75 : List Value := [(.int (44 : Int32)), (.int (32 : Int32)), (.int (99 : Int32)), (.int (104 : Int32)), (.int (101 : Int32)), (.int (99 : Int32)), (.int (107 : Int32)), (.int (112 : Int32)), (.int (111 : Int32)), (.int (105 : Int32)), (.int (110 : Int32)), (.int (116 : Int32)), (.int (32 : Int32))]
theorem own_n75 : own_l75.length = 13 := rfl
def own_l77 : List Value := [(.int (41 : Int32))]
theorem own_n77 : own_l77.length = 1 := rfl
theorem own_capin {z m l : Nat} (h : z = 16 ∨ z = 34 ∨ z = 70) (hl : l ≤ z) (hm : m ≤ 70) (h16 : l ≤ 16 → m ≤ 34) : own_cap z m = 16 ∨ own_cap z m = 34 ∨ own_cap z m = 70 := by
  unfold own_cap; split <;> omega
def own_nul : List Value := [(.int (110 : Int32)), (.int (117 : Int32)), (.int (108 : Int32)), (.int (108 : Int32))]
theorem own_nnul : own_nul.length = 4 := rfl
theorem own_seta {bs ys : List Value} {j : Nat} {x : Value} : (bs ++ ys).set (bs.length + j) x = bs ++ ys.set j x := by rw [List.set_append_right _ _ (by omega), Nat.add_sub_cancel_left]
theorem d68_26_0 : DK jdk_68_method_26_code 0 (.aload_n 0) 1 := by decide +kernel
theorem d68_26_1 : DK jdk_68_method_26_code 1 (.aload_n 0) 1 := by decide +kernel
theorem d68_26_2 : DK jdk_68_method_26_code 2 (.getfield 79) 3 := by decide +kernel
theorem d68_26_5 : DK jdk_68_method_26_code 5 (.iconst 4) 1 := by decide +kernel
theorem d68_26_6 : DK jdk_68_method_26_code 6 .iadd 1 := by decide +kernel
theorem d68_26_7 : DK jdk_68_method_26_code 7 (.invokevirtual 100) 3 := by decide +kernel
theorem d68_26_10 : DK jdk_68_method_26_code 10 (.aload_n 0) 1 := by decide +kernel
theorem d68_26_11 : DK jdk_68_method_26_code 11 (.getfield 79) 3 := by decide +kernel
theorem d68_26_14 : DK jdk_68_method_26_code 14 (.istore_n 1) 1 := by decide +kernel
theorem d68_26_15 : DK jdk_68_method_26_code 15 (.aload_n 0) 1 := by decide +kernel
theorem d68_26_16 : DK jdk_68_method_26_code 16 (.getfield 15) 3 := by decide +kernel
theorem d68_26_19 : DK jdk_68_method_26_code 19 (.astore_n 2) 1 := by decide +kernel
theorem d68_26_20 : DK jdk_68_method_26_code 20 (.aload_n 0) 1 := by decide +kernel
theorem d68_26_21 : DK jdk_68_method_26_code 21 (.invokevirtual 83) 3 := by decide +kernel
theorem d68_26_24 : DK jdk_68_method_26_code 24 (.ifCond .eq 38) 3 := by decide +kernel
theorem d68_26_27 : DK jdk_68_method_26_code 27 (.aload_n 2) 1 := by decide +kernel
theorem d68_26_28 : DK jdk_68_method_26_code 28 (.iload_n 1) 1 := by decide +kernel
theorem d68_26_29 : DK jdk_68_method_26_code 29 (.iinc 1 1) 3 := by decide +kernel
theorem d68_26_32 : DK jdk_68_method_26_code 32 (.bipush 110) 2 := by decide +kernel
theorem d68_26_34 : DK jdk_68_method_26_code 34 .bastore 1 := by decide +kernel
theorem d68_26_35 : DK jdk_68_method_26_code 35 (.aload_n 2) 1 := by decide +kernel
theorem d68_26_36 : DK jdk_68_method_26_code 36 (.iload_n 1) 1 := by decide +kernel
theorem d68_26_37 : DK jdk_68_method_26_code 37 (.iinc 1 1) 3 := by decide +kernel
theorem d68_26_40 : DK jdk_68_method_26_code 40 (.bipush 117) 2 := by decide +kernel
theorem d68_26_42 : DK jdk_68_method_26_code 42 .bastore 1 := by decide +kernel
theorem d68_26_43 : DK jdk_68_method_26_code 43 (.aload_n 2) 1 := by decide +kernel
theorem d68_26_44 : DK jdk_68_method_26_code 44 (.iload_n 1) 1 := by decide +kernel
theorem d68_26_45 : DK jdk_68_method_26_code 45 (.iinc 1 1) 3 := by decide +kernel
theorem d68_26_48 : DK jdk_68_method_26_code 48 (.bipush 108) 2 := by decide +kernel
theorem d68_26_50 : DK jdk_68_method_26_code 50 .bastore 1 := by decide +kernel
theorem d68_26_51 : DK jdk_68_method_26_code 51 (.aload_n 2) 1 := by decide +kernel
theorem d68_26_52 : DK jdk_68_method_26_code 52 (.iload_n 1) 1 := by decide +kernel
theorem d68_26_53 : DK jdk_68_method_26_code 53 (.iinc 1 1) 3 := by decide +kernel
theorem d68_26_56 : DK jdk_68_method_26_code 56 (.bipush 108) 2 := by decide +kernel
theorem d68_26_58 : DK jdk_68_method_26_code 58 .bastore 1 := by decide +kernel
theorem d68_26_59 : DK jdk_68_method_26_code 59 (.goto 17) 3 := by decide +kernel
theorem d68_26_76 : DK jdk_68_method_26_code 76 (.aload_n 0) 1 := by decide +kernel
theorem d68_26_77 : DK jdk_68_method_26_code 77 (.iload_n 1) 1 := by decide +kernel
theorem d68_26_78 : DK jdk_68_method_26_code 78 (.putfield 79) 3 := by decide +kernel
theorem d68_26_81 : DK jdk_68_method_26_code 81 (.aload_n 0) 1 := by decide +kernel
theorem d68_26_82 : DK jdk_68_method_26_code 82 .areturn 1 := by decide +kernel
theorem opl_rm_appN0 : plainFor (⟨"java/lang/AbstractStringBuilder", "appendNull", "()Ljava/lang/AbstractStringBuilder;"⟩ : MethodName) = true := plainFor_of_name (by first | (simp [plainName, overriddenIn]; done) | decide +kernel)
theorem rm_appN0 (l : Launch) (Z : State) (a0 : Array Value) (hw : ∀ d ∈ tables_1, d.before a0 Z = true) (ws : List Jvm.Cond) (b d : Addr) (k : ClassId) (zn : Nat) (bs : List Value) (zc : Int32) (wf : Value) (n0 : Nat) (h0 : Heap) (SS : own_SS Z zc wf) (O : Old Z n0 h0) (J : SBI Z h0 b d k (Int32.ofNat zn) bs) (hzn : zn ≤ 70) (hbz : bs.length ≤ zn) (g_b : n0 ≤ b) (g_d : n0 ≤ d) (hsm : bs.length + 4 ≤ 70) :
    Con l Z (⟨"java/lang/AbstractStringBuilder", "appendNull", "()Ljava/lang/AbstractStringBuilder;"⟩ : MethodName) jdk_68_method_26_code 3 (some (.object "java/lang/AbstractStringBuilder")) ws ({ frames := 4, cells := 1, slots := 142, locals := 62 } : Room) #[(.ref b)] h0 (fun v' h L => v' = some (.ref b) ∧ Fr n0 L ∧ Keep h0 h [b, d] ∧ ∃ d' k', (d' = d ∨ h0.size ≤ d') ∧ SBI Z h b d' k' (Int32.ofNat (own_cap zn (bs.length + 4))) (bs ++ own_nul)) := by
  refine Con.intro opl_rm_appN0 ?_
  intro p e s m below meth c s₁ hx hby hml hown hret hlk hZ hnm X0 e0
  have SS' := SS
  obtain ⟨hzc, SC, hwf, SF⟩ := SS
  have Z0 : n0 ≤ h0.size := O.1 ▸ O.2.1
  have N0 := Fr.nil n0
  obtain ⟨JE, JF, JC, JN, JV, JX⟩ := J
  have nbd : b ≠ d := JE.neArv JV (own_g hw 74 rfl)
  refine OGo.cast (g' := (mkF m 0 #[.val (.ref b), .unset, .unset] [])) (by first | (simp [entryFrame, mkF, argsToLocals, Value.category]; done) | rfl) ?_
  refine og (fun _ k => XS.aloadN X0.here hx rfl (hb hby d68_26_0) rfl rfl k) ?_
  refine og (fun _ k => XS.aloadN X0.here hx rfl (hb hby d68_26_1) rfl rfl k) ?_
  obtain ⟨T136, X136, e136, st136⟩ := getF X0 hx hZ hown (host := "") (Or.inl (own_g hw 112 rfl)) Via.refl e0 JN (g := (mkF m 2 #[.val (.ref b), .unset, .unset] [(.ref b), (.ref b)])) rfl rfl (hb hby d68_26_2)
  refine og st136 ?_
  refine og (fun _ k => XS.iconst X136.here hx rfl (hb hby d68_26_5) k) ?_
  refine og (fun _ k => XS.iadd X136.here hx rfl (hb hby d68_26_6) rfl k) ?_
  show OGo p e below _ T136 (mkF m 7 #[.val (.ref b), .unset, .unset] [(.int ((Int32.ofNat bs.length) + (4 : Int32))), (.ref b)])
  rw [show Int32.ofNat bs.length + (4 : Int32) = Int32.ofNat (bs.length + 4) from own_addn _ 4]
  obtain ⟨v137, T137, L137, X137, hQ137, st137⟩ := pcall X136 hx hZ hown (own_g hw 114 rfl) (own_g hw 115 rfl) (own_g hw 117 rfl) (own_g hw 116 rfl) (own_g hw 83 rfl) (own_g hw 118 rfl) (by decide) (W := 0) (rm_ensG l Z a0 hw [] b d k zn bs (bs.length + 4) zc wf n0 h0 SS' O ⟨JE, JF, JC, JN, JV, JX⟩ hzn hbz hsm g_b) e136 (by decide) (by decide) (by decide) (by decide) (g := (mkF m 7 #[.val (.ref b), .unset, .unset] [(.int (Int32.ofNat (bs.length + 4))), (.ref b)])) rfl (by rw [hml]; rfl) JE (argsL := [(.int (Int32.ofNat (bs.length + 4)))]) (rest := []) opd_12 rfl rfl rfl (by show 2 * 0 + _ ≤ _; exact Nat.le_of_eq rfl) (hb hby d68_26_7)
  obtain ⟨rfl, N137, K137, d137, k137, hd137, J137⟩ := hQ137
  have NN137 := Fr.app N0 N137
  have KK137 : Keep h0 T137.heap [b, d] := (Keep.refl h0 [b, d]).trans K137 (allS (Or.inl (List.mem_of_getElem? (i := 0) rfl)) all0)
  refine og st137 ?_
  have g_d137 : n0 ≤ d137 := hd137.elim (fun q => q ▸ g_d) (fun q => Nat.le_trans (Nat.le_trans Z0 (Keep.refl h0 [b, d]).1) q)
  have sz_d137 : d137 ∈ [b, d] ∨ h0.size ≤ d137 := hd137.elim (fun q => Or.inl (q ▸ List.mem_of_getElem? (i := 1) rfl)) Or.inr
  obtain ⟨JE137, JF137, JC137, JN137, JV137, JX137⟩ := J137
  have nb2 : b ≠ d137 := JE137.neArv JV137 (own_g hw 74 rfl)
  have hcb : own_cap zn (bs.length + 4) ≤ 142 := by unfold own_cap; split <;> omega
  have hcg := own_cap_ge zn (bs.length + 4)
  refine og (fun _ k => XS.aloadN X137.here hx rfl (hb hby d68_26_10) rfl rfl k) ?_
  obtain ⟨T138, X138, e138, st138⟩ := getF X137 hx hZ hown (host := "") (Or.inl (own_g hw 112 rfl)) Via.refl rfl JN137 (g := (mkF m 11 #[.val (.ref b), .unset, .unset] [(.ref b)])) rfl rfl (hb hby d68_26_11)
  refine og st138 ?_
  refine og (fun _ k => XS.istoreN X138.here hx rfl (hb hby d68_26_14) rfl (l' := #[.val (.ref b), .val (.int (Int32.ofNat bs.length)), .unset]) rfl k) ?_
  refine og (fun _ k => XS.aloadN X138.here hx rfl (hb hby d68_26_15) rfl rfl k) ?_
  obtain ⟨T139, X139, e139, st139⟩ := getF X138 hx hZ hown (host := "") (Or.inl (own_g hw 87 rfl)) Via.refl e138 JF137 (g := (mkF m 16 #[.val (.ref b), .val (.int (Int32.ofNat bs.length)), .unset] [(.ref b)])) rfl rfl (hb hby d68_26_16)
  refine og st139 ?_
  refine og (fun _ k => XS.astoreN X139.here hx rfl (hb hby d68_26_19) rfl rfl (l' := #[.val (.ref b), .val (.int (Int32.ofNat bs.length)), .val (.ref d137)]) rfl k) ?_
  refine og (fun _ k => XS.aloadN X139.here hx rfl (hb hby d68_26_20) rfl rfl k) ?_
  obtain ⟨v140, T140, L140, X140, hQ140, st140⟩ := vcall X139 hx hZ hown (own_g hw 178 rfl) (own_g hw 179 rfl) (own_g hw 181 rfl) rfl (own_g hw 181 rfl) (own_g hw 180 rfl) (own_g hw 83 rfl) (own_g hw 182 rfl) (by decide) (W := 0) (rm_asbL1 l Z a0 hw [] b d137 k137 (own_cap zn (bs.length + 4)) bs zc wf n0 T137.heap SS' (O.keep K137 (allS g_b all0)) ⟨JE137, JF137, JC137, JN137, JV137, JX137⟩) e139 (by decide) (by decide) (by decide) (by decide) (g := (mkF m 21 #[.val (.ref b), .val (.int (Int32.ofNat bs.length)), .val (.ref d137)] [(.ref b)])) rfl (by rw [hml]; rfl) JE137 (argsL := []) (rest := []) opd_3 rfl rfl rfl (by show 2 * 0 + _ ≤ _; exact Nat.le_of_eq rfl) (hb hby d68_26_21)
  obtain ⟨rfl, rfl, e140⟩ := hQ140
  rw [List.append_nil] at X140
  refine og st140 ?_
  refine og (fun _ k => XS.ifNo X140.here hx rfl (hb hby d68_26_24) rfl ((if0 _ _).trans (feq (by decide : ¬ (1 : Int32) = 0)).1) k) ?_
  have VP : Arv Z T137.heap d137 k137 .byte (Int32.ofNat (own_cap zn (bs.length + 4))) (bs ++ [(.int (0 : Int32)), (.int (0 : Int32)), (.int (0 : Int32)), (.int (0 : Int32))]) (.int (0 : Int32)) := JV137.pad (pad_rep _ _ 4)
  refine og (fun _ k => XS.aloadN X140.here hx rfl (hb hby d68_26_27) rfl rfl k) ?_
  refine og (fun _ k => XS.iloadN X140.here hx rfl (hb hby d68_26_28) rfl k) ?_
  refine og (fun _ k => XS.iinc X140.here hx rfl (hb hby d68_26_29) rfl (l' := #[.val (.ref b), .val (.int ((Int32.ofNat bs.length) + (1 : Int32))), .val (.ref d137)]) rfl k) ?_
  show OGo p e below _ T140 (mkF m 32 #[.val (.ref b), .val (.int ((Int32.ofNat bs.length) + (1 : Int32))), .val (.ref d137)] [(.int (Int32.ofNat bs.length)), (.ref d137)])
  rw [show Int32.ofNat (bs.length) + (1 : Int32) = Int32.ofNat (bs.length + 1) from own_inc _]
  refine og (fun _ k => XS.bipush X140.here hx rfl (hb hby d68_26_32) k) ?_
  obtain ⟨T141, h141, X141, e141, W141, Vq141, st141⟩ := bastoreV X140 hx hZ e140 VP (j := (Int32.ofNat bs.length)) ⟨own_nn (by omega), (own_lt (by omega) (by omega)).mpr (by omega)⟩ (by rw [own_cl (by omega), List.length_append]; show _ < _ + 4; omega) (g := (mkF m 34 #[.val (.ref b), .val (.int (Int32.ofNat (bs.length + 1))), .val (.ref d137)] [(.int (110 : Int32)), (.int (Int32.ofNat bs.length)), (.ref d137)])) rfl rfl (hb hby d68_26_34)
  have N141 := Fr.snoc X141 NN137 g_d137
  have KK141 : Keep h0 h141 [b, d] := KK137.wr W141 sz_d137
  refine og st141 ?_
  rw [own_cl (show bs.length < 2147483648 by omega), show (bs.length) = bs.length + 0 from rfl, own_seta] at Vq141
  have VN0 : Arv Z h141 d137 k137 .byte (Int32.ofNat (own_cap zn (bs.length + 4))) (bs ++ [(.int (110 : Int32)), (.int (0 : Int32)), (.int (0 : Int32)), (.int (0 : Int32))]) (.int (0 : Int32)) := Vq141
  refine og (fun _ k => XS.aloadN X141.here hx rfl (hb hby d68_26_35) rfl rfl k) ?_
  refine og (fun _ k => XS.iloadN X141.here hx rfl (hb hby d68_26_36) rfl k) ?_
  refine og (fun _ k => XS.iinc X141.here hx rfl (hb hby d68_26_37) rfl (l' := #[.val (.ref b), .val (.int ((Int32.ofNat (bs.length + 1)) + (1 : Int32))), .val (.ref d137)]) rfl k) ?_
  show OGo p e below _ T141 (mkF m 40 #[.val (.ref b), .val (.int ((Int32.ofNat (bs.length + 1)) + (1 : Int32))), .val (.ref d137)] [(.int (Int32.ofNat (bs.length + 1))), (.ref d137)])
  rw [show Int32.ofNat (bs.length + 1) + (1 : Int32) = Int32.ofNat (bs.length + 2) from own_inc _]
  refine og (fun _ k => XS.bipush X141.here hx rfl (hb hby d68_26_40) k) ?_
  obtain ⟨T142, h142, X142, e142, W142, Vq142, st142⟩ := bastoreV X141 hx hZ e141 VN0 (j := (Int32.ofNat (bs.length + 1))) ⟨own_nn (by omega), (own_lt (by omega) (by omega)).mpr (by omega)⟩ (by rw [own_cl (by omega), List.length_append]; show _ < _ + 4; omega) (g := (mkF m 42 #[.val (.ref b), .val (.int (Int32.ofNat (bs.length + 2))), .val (.ref d137)] [(.int (117 : Int32)), (.int (Int32.ofNat (bs.length + 1))), (.ref d137)])) rfl rfl (hb hby d68_26_42)
  have N142 := Fr.snoc X142 N141 g_d137
  have KK142 : Keep h0 h142 [b, d] := KK141.wr W142 sz_d137
  refine og st142 ?_
  rw [own_cl (show bs.length + 1 < 2147483648 by omega), show (bs.length + 1) = bs.length + 1 from rfl, own_seta] at Vq142
  have VN1 : Arv Z h142 d137 k137 .byte (Int32.ofNat (own_cap zn (bs.length + 4))) (bs ++ [(.int (110 : Int32)), (.int (117 : Int32)), (.int (0 : Int32)), (.int (0 : Int32))]) (.int (0 : Int32)) := Vq142
  refine og (fun _ k => XS.aloadN X142.here hx rfl (hb hby d68_26_43) rfl rfl k) ?_
  refine og (fun _ k => XS.iloadN X142.here hx rfl (hb hby d68_26_44) rfl k) ?_
  refine og (fun _ k => XS.iinc X142.here hx rfl (hb hby d68_26_45) rfl (l' := #[.val (.ref b), .val (.int ((Int32.ofNat (bs.length + 2)) + (1 : Int32))), .val (.ref d137)]) rfl k) ?_
  show OGo p e below _ T142 (mkF m 48 #[.val (.ref b), .val (.int ((Int32.ofNat (bs.length + 2)) + (1 : Int32))), .val (.ref d137)] [(.int (Int32.ofNat (bs.length + 2))), (.ref d137)])
  rw [show Int32.ofNat (bs.length + 2) + (1 : Int32) = Int32.ofNat (bs.length + 3) from own_inc _]
  refine og (fun _ k => XS.bipush X142.here hx rfl (hb hby d68_26_48) k) ?_
  obtain ⟨T143, h143, X143, e143, W143, Vq143, st143⟩ := bastoreV X142 hx hZ e142 VN1 (j := (Int32.ofNat (bs.length + 2))) ⟨own_nn (by omega), (own_lt (by omega) (by omega)).mpr (by omega)⟩ (by rw [own_cl (by omega), List.length_append]; show _ < _ + 4; omega) (g := (mkF m 50 #[.val (.ref b), .val (.int (Int32.ofNat (bs.length + 3))), .val (.ref d137)] [(.int (108 : Int32)), (.int (Int32.ofNat (bs.length + 2))), (.ref d137)])) rfl rfl (hb hby d68_26_50)
  have N143 := Fr.snoc X143 N142 g_d137
  have KK143 : Keep h0 h143 [b, d] := KK142.wr W143 sz_d137
  refine og st143 ?_
  rw [own_cl (show bs.length + 2 < 2147483648 by omega), show (bs.length + 2) = bs.length + 2 from rfl, own_seta] at Vq143
  have VN2 : Arv Z h143 d137 k137 .byte (Int32.ofNat (own_cap zn (bs.length + 4))) (bs ++ [(.int (110 : Int32)), (.int (117 : Int32)), (.int (108 : Int32)), (.int (0 : Int32))]) (.int (0 : Int32)) := Vq143
  refine og (fun _ k => XS.aloadN X143.here hx rfl (hb hby d68_26_51) rfl rfl k) ?_
  refine og (fun _ k => XS.iloadN X143.here hx rfl (hb hby d68_26_52) rfl k) ?_
  refine og (fun _ k => XS.iinc X143.here hx rfl (hb hby d68_26_53) rfl (l' := #[.val (.ref b), .val (.int ((Int32.ofNat (bs.length + 3)) + (1 : Int32))), .val (.ref d137)]) rfl k) ?_
  show OGo p e below _ T143 (mkF m 56 #[.val (.ref b), .val (.int ((Int32.ofNat (bs.length + 3)) + (1 : Int32))), .val (.ref d137)] [(.int (Int32.ofNat (bs.length + 3))), (.ref d137)])
  rw [show Int32.ofNat (bs.length + 3) + (1 : Int32) = Int32.ofNat (bs.length + 4) from own_inc _]
  refine og (fun _ k => XS.bipush X143.here hx rfl (hb hby d68_26_56) k) ?_
  obtain ⟨T144, h144, X144, e144, W144, Vq144, st144⟩ := bastoreV X143 hx hZ e143 VN2 (j := (Int32.ofNat (bs.length + 3))) ⟨own_nn (by omega), (own_lt (by omega) (by omega)).mpr (by omega)⟩ (by rw [own_cl (by omega), List.length_append]; show _ < _ + 4; omega) (g := (mkF m 58 #[.val (.ref b), .val (.int (Int32.ofNat (bs.length + 4))), .val (.ref d137)] [(.int (108 : Int32)), (.int (Int32.ofNat (bs.length + 3))), (.ref d137)])) rfl rfl (hb hby d68_26_58)
  have N144 := Fr.snoc X144 N143 g_d137
  have KK144 : Keep h0 h144 [b, d] := KK143.wr W144 sz_d137
  refine og st144 ?_
  rw [own_cl (show bs.length + 3 < 2147483648 by omega), show (bs.length + 3) = bs.length + 3 from rfl, own_seta] at Vq144
  have VN3 : Arv Z h144 d137 k137 .byte (Int32.ofNat (own_cap zn (bs.length + 4))) (bs ++ [(.int (110 : Int32)), (.int (117 : Int32)), (.int (108 : Int32)), (.int (108 : Int32))]) (.int (0 : Int32)) := Vq144
  refine og (fun _ k => XS.goto X144.here hx rfl (pc0 := 59) (pc' := 76) rfl (hb hby d68_26_59) (by decide) (by decide) k) ?_
  refine og (fun _ k => XS.aloadN X144.here hx rfl (hb hby d68_26_76) rfl rfl k) ?_
  refine og (fun _ k => XS.iloadN X144.here hx rfl (hb hby d68_26_77) rfl k) ?_
  show OGo p e below _ T144 (mkF m 78 #[.val (.ref b), .val (.int (Int32.ofNat (bs.length + 4))), .val (.ref d137)] [(.int (Int32.ofNat (bs.length + 4))), (.ref b)])
  rw [show Int32.ofNat (bs.length + 4) = Int32.ofNat (bs ++ own_nul).length by rw [List.length_append, own_nnul]]
  have q146 := ((((JN137.other W141 (Or.inl nb2)).other W142 (Or.inl nb2)).other W143 (Or.inl nb2)).other W144 (Or.inl nb2))
  have q147 := ((((JE137.wr W141).wr W142).wr W143).wr W144)
  obtain ⟨T145, h145, X145, e145, W145, st145⟩ := putF X144 hx hZ hown (host := "") (Or.inl (own_g hw 112 rfl)) Via.refl e144 q146 q147 (Or.inl (own_g hw 113 rfl)) (own_g hw 74 rfl) (ty := .int) (by decide) rfl rfl (g := (mkF m 78 #[.val (.ref b), .val (.int (Int32.ofNat (bs ++ own_nul).length)), .val (.ref d137)] [(.int (Int32.ofNat (bs ++ own_nul).length)), (.ref b)])) rfl rfl (hb hby d68_26_78)
  have Fw145 := q146.same W145
  have N145 := Fr.snoc X145 N144 g_b
  have KK145 : Keep h0 h145 [b, d] := KK144.wr W145 (Or.inl (List.mem_of_getElem? (i := 0) rfl))
  refine og st145 ?_
  refine og (fun _ k => XS.aloadN X145.here hx rfl (hb hby d68_26_81) rfl rfl k) ?_
  have VF : Arv Z h145 d137 k137 .byte (Int32.ofNat (own_cap zn (bs.length + 4))) (bs ++ own_nul) (.int (0 : Int32)) := (VN3.other W145 (Ne.symm nb2))
  have q148 := (((((JF137.other W141 (Or.inl nb2)).other W142 (Or.inl nb2)).other W143 (Or.inl nb2)).other W144 (Or.inl nb2)).other W145 (Or.inr (slot_ne (Or.inl (own_g hw 88 rfl)) (Or.inl (own_g hw 113 rfl)) (by decide) (t := (.array .byte)) (t' := .int) (by decide) (by decide))))
  have q149 := (((((JC137.other W141 (Or.inl nb2)).other W142 (Or.inl nb2)).other W143 (Or.inl nb2)).other W144 (Or.inl nb2)).other W145 (Or.inr (slot_ne (Or.inl (own_g hw 90 rfl)) (Or.inl (own_g hw 113 rfl)) (by decide) (t := .byte) (t' := .int) (by decide) (by decide))))
  have q150 := (((((JX137.wr W141).wr W142).wr W143).wr W144).wr W145)
  show OGo p e below _ T145 (mkF m 82 #[.val (.ref b), .val (.int (Int32.ofNat (bs ++ own_nul).length)), .val (.ref d137)] [(.ref b)])
  exact OGo.ret X145 hx (t := (.object "java/lang/AbstractStringBuilder")) hret hlk rfl (Or.inr (Or.inr (Or.inr (Or.inr ⟨rfl, rfl, rfl⟩)))) (hb hby d68_26_82) (by decide) (by decide) (by rw [e145]; exact ⟨rfl, N145, KK145, d137, _, hd137, ⟨(q147.wr W145), q148, q149, Fw145, VF, q150⟩⟩)
theorem d68_22_4 : DK jdk_68_method_22_code 4 (.aload_n 0) 1 := by decide +kernel
theorem opd_29 : parseMethodDescriptor "()Ljava/lang/AbstractStringBuilder;" = some ⟨[], some (.object "java/lang/AbstractStringBuilder")⟩ := by decide +kernel
theorem d68_22_5 : DK jdk_68_method_22_code 5 (.invokevirtual 204) 3 := by decide +kernel
theorem d68_22_8 : DK jdk_68_method_22_code 8 .areturn 1 := by decide +kernel
theorem opl_rm_appN1 : plainFor (⟨"java/lang/AbstractStringBuilder", "append", "(Ljava/lang/String;)Ljava/lang/AbstractStringBuilder;"⟩ : MethodName) = true := plainFor_of_name (by first | (simp [plainName, overriddenIn]; done) | decide +kernel)
theorem rm_appN1 (l : Launch) (Z : State) (a0 : Array Value) (hw : ∀ d ∈ tables_1, d.before a0 Z = true) (ws : List Jvm.Cond) (b d : Addr) (k : ClassId) (zn : Nat) (bs : List Value) (zc : Int32) (wf : Value) (n0 : Nat) (h0 : Heap) (SS : own_SS Z zc wf) (O : Old Z n0 h0) (J : SBI Z h0 b d k (Int32.ofNat zn) bs) (hzn : zn ≤ 70) (hbz : bs.length ≤ zn) (g_b : n0 ≤ b) (g_d : n0 ≤ d) (hsm : bs.length + 4 ≤ 70) :
    Con l Z (⟨"java/lang/AbstractStringBuilder", "append", "(Ljava/lang/String;)Ljava/lang/AbstractStringBuilder;"⟩ : MethodName) jdk_68_method_22_code 3 (some (.object "java/lang/AbstractStringBuilder")) ws ({ frames := 5, cells := 1, slots := 142, locals := 76 } : Room) #[(.ref b), .null] h0 (fun v' h L => v' = some (.ref b) ∧ Fr n0 L ∧ Keep h0 h [b, d] ∧ ∃ d' k', (d' = d ∨ h0.size ≤ d') ∧ SBI Z h b d' k' (Int32.ofNat (own_cap zn (bs.length + 4))) (bs ++ own_nul)) := by
  refine Con.intro opl_rm_appN1 ?_
  intro p e s m below meth c s₁ hx hby hml hown hret hlk hZ hnm X0 e0
  have SS' := SS
  obtain ⟨hzc, SC, hwf, SF⟩ := SS
  have Z0 : n0 ≤ h0.size := O.1 ▸ O.2.1
  have N0 := Fr.nil n0
  obtain ⟨JE, JF, JC, JN, JV, JX⟩ := J
  have nbd : b ≠ d := JE.neArv JV (own_g hw 74 rfl)
  refine OGo.cast (g' := (mkF m 0 #[.val (.ref b), .val .null, .unset] [])) (by first | (simp [entryFrame, mkF, argsToLocals, Value.category]; done) | rfl) ?_
  refine og (fun _ k => XS.aloadN X0.here hx rfl (hb hby d68_22_0) rfl rfl k) ?_
  refine og (fun _ k => XS.ifnonnullNo X0.here hx rfl (hb hby d68_22_1) rfl k) ?_
  refine og (fun _ k => XS.aloadN X0.here hx rfl (hb hby d68_22_4) rfl rfl k) ?_
  obtain ⟨v151, T151, L151, X151, hQ151, st151⟩ := pcall X0 hx hZ hown (own_g hw 284 rfl) (own_g hw 285 rfl) (own_g hw 287 rfl) (own_g hw 286 rfl) (own_g hw 83 rfl) (own_g hw 288 rfl) (by decide) (W := 0) (rm_appN0 l Z a0 hw [] b d k zn bs zc wf n0 h0 SS' O ⟨JE, JF, JC, JN, JV, JX⟩ hzn hbz g_b g_d hsm) e0 (by decide) (by decide) (by decide) (by decide) (g := (mkF m 5 #[.val (.ref b), .val .null, .unset] [(.ref b)])) rfl (by rw [hml]; rfl) JE (argsL := []) (rest := []) opd_29 rfl rfl rfl (by show 2 * 0 + _ ≤ _; exact Nat.le_of_eq rfl) (hb hby d68_22_5)
  obtain ⟨rfl, N151, K151, d151, k151, hd151, J151⟩ := hQ151
  have NN151 := Fr.app N0 N151
  have KK151 : Keep h0 T151.heap [b, d] := (Keep.refl h0 [b, d]).trans K151 (allS (Or.inl (List.mem_of_getElem? (i := 0) rfl)) (allS (Or.inl (List.mem_of_getElem? (i := 1) rfl)) all0))
  refine og st151 ?_
  show OGo p e below _ T151 (mkF m 8 #[.val (.ref b), .val .null, .unset] [(.ref b)])
  exact OGo.ret X151 hx (t := (.object "java/lang/AbstractStringBuilder")) hret hlk rfl (Or.inr (Or.inr (Or.inr (Or.inr ⟨rfl, rfl, rfl⟩)))) (hb hby d68_22_8) (by decide) (by decide) ⟨rfl, NN151, KK151, d151, _, hd151, J151⟩
theorem opl_rm_appN : plainFor (⟨"java/lang/StringBuilder", "append", "(Ljava/lang/String;)Ljava/lang/StringBuilder;"⟩ : MethodName) = true := plainFor_of_name (by first | (simp [plainName, overriddenIn]; done) | decide +kernel)
theorem rm_appN (l : Launch) (Z : State) (a0 : Array Value) (hw : ∀ d ∈ tables_1, d.before a0 Z = true) (ws : List Jvm.Cond) (b d : Addr) (k : ClassId) (zn : Nat) (bs : List Value) (zc : Int32) (wf : Value) (n0 : Nat) (h0 : Heap) (SS : own_SS Z zc wf) (O : Old Z n0 h0) (J : SBI Z h0 b d k (Int32.ofNat zn) bs) (hzn : zn ≤ 70) (hbz : bs.length ≤ zn) (g_b : n0 ≤ b) (g_d : n0 ≤ d) (hsm : bs.length + 4 ≤ 70) :
    Con l Z (⟨"java/lang/StringBuilder", "append", "(Ljava/lang/String;)Ljava/lang/StringBuilder;"⟩ : MethodName) jdk_67_method_7_code 2 (some (.object "java/lang/StringBuilder")) ws ({ frames := 6, cells := 1, slots := 142, locals := 90 } : Room) #[(.ref b), .null] h0 (fun v' h L => v' = some (.ref b) ∧ Fr n0 L ∧ Keep h0 h [b, d] ∧ ∃ d' k', (d' = d ∨ h0.size ≤ d') ∧ SBI Z h b d' k' (Int32.ofNat (own_cap zn (bs.length + 4))) (bs ++ own_nul)) := by
  refine Con.intro opl_rm_appN ?_
  intro p e s m below meth c s₁ hx hby hml hown hret hlk hZ hnm X0 e0
  have SS' := SS
  obtain ⟨hzc, SC, hwf, SF⟩ := SS
  have Z0 : n0 ≤ h0.size := O.1 ▸ O.2.1
  have N0 := Fr.nil n0
  obtain ⟨JE, JF, JC, JN, JV, JX⟩ := J
  have nbd : b ≠ d := JE.neArv JV (own_g hw 74 rfl)
  refine OGo.cast (g' := (mkF m 0 #[.val (.ref b), .val .null] [])) (by first | (simp [entryFrame, mkF, argsToLocals, Value.category]; done) | rfl) ?_
  refine og (fun _ k => XS.aloadN X0.here hx rfl (hb hby d67_7_0) rfl rfl k) ?_
  refine og (fun _ k => XS.aloadN X0.here hx rfl (hb hby d67_7_1) rfl rfl k) ?_
  obtain ⟨v152, T152, L152, X152, hQ152, st152⟩ := ucall X0 hx hZ hown (own_g hw 97 rfl) (own_same (own_g hw 117 rfl) rfl (own_g hw 98 rfl) (by decide)) (own_g hw 98 rfl) (own_g hw 99 rfl) (own_g hw 83 rfl) (own_g hw 101 rfl) (by decide) (W := 0) (rm_appN1 l Z a0 hw [] b d k zn bs zc wf n0 h0 SS' O ⟨JE, JF, JC, JN, JV, JX⟩ hzn hbz g_b g_d hsm) e0 (by decide) (by decide) (by decide) (by decide) (g := (mkF m 2 #[.val (.ref b), .val .null] [.null, (.ref b)])) rfl (by rw [hml]; rfl) JE (argsL := [.null]) (rest := []) opd_14 rfl rfl rfl (by show 2 * 0 + _ ≤ _; exact Nat.le_of_eq rfl) (hb hby d67_7_2)
  obtain ⟨rfl, N152, K152, d152, k152, hd152, J152⟩ := hQ152
  have NN152 := Fr.app N0 N152
  have KK152 : Keep h0 T152.heap [b, d] := (Keep.refl h0 [b, d]).trans K152 (allS (Or.inl (List.mem_of_getElem? (i := 0) rfl)) (allS (Or.inl (List.mem_of_getElem? (i := 1) rfl)) all0))
  refine og st152 ?_
  refine og (fun _ k => XS.pop X152.here hx rfl (hb hby d67_7_5) rfl rfl k) ?_
  refine og (fun _ k => XS.aloadN X152.here hx rfl (hb hby d67_7_6) rfl rfl k) ?_
  show OGo p e below _ T152 (mkF m 7 #[.val (.ref b), .val .null] [(.ref b)])
  exact OGo.ret X152 hx (t := (.object "java/lang/StringBuilder")) hret hlk rfl (Or.inr (Or.inr (Or.inr (Or.inr ⟨rfl, rfl, rfl⟩)))) (hb hby d67_7_7) (by decide) (by decide) ⟨rfl, NN152, KK152, d152, _, hd152, J152⟩
theorem d31_11_0 : DK jdk_31_method_11_code 0 (.aload_n 0) 1 := by decide +kernel
theorem d31_11_1 : DK jdk_31_method_11_code 1 (.ifnonnull 12) 3 := by decide +kernel
theorem d31_11_13 : DK jdk_31_method_11_code 13 (.aload_n 0) 1 := by decide +kernel
theorem d31_11_14 : DK jdk_31_method_11_code 14 .areturn 1 := by decide +kernel
theorem opl_rm_rnn : plainFor (⟨"java/util/Objects", "requireNonNull", "(Ljava/lang/Object;Ljava/lang/String;)Ljava/lang/Object;"⟩ : MethodName) = true := plainFor_of_name (by first | (simp [plainName, overriddenIn]; done) | decide +kernel)
theorem rm_rnn (l : Launch) (Z : State) (a0 : Array Value) (hw : ∀ d ∈ tables_1, d.before a0 Z = true) (ws : List Jvm.Cond) (a x : Addr) (h0 : Heap)  :
    Con l Z (⟨"java/util/Objects", "requireNonNull", "(Ljava/lang/Object;Ljava/lang/String;)Ljava/lang/Object;"⟩ : MethodName) jdk_31_method_11_code 2 (some (.object "java/lang/Object")) ws ({ frames := 0, cells := 0, slots := 0, locals := 0 } : Room) #[(.ref a), (.ref x)] h0 (fun v h L => v = some (.ref a) ∧ L = [] ∧ h = h0) := by
  refine Con.intro opl_rm_rnn ?_
  intro p e s m below meth c s₁ hx hby hml hown hret hlk hZ hnm X0 e0
  refine OGo.cast (g' := (mkF m 0 #[.val (.ref a), .val (.ref x)] [])) (by first | (simp [entryFrame, mkF, argsToLocals, Value.category]; done) | rfl) ?_
  refine og (fun _ k => XS.aloadN X0.here hx rfl (hb hby d31_11_0) rfl rfl k) ?_
  refine og (fun _ k => XS.ifnonnullYes X0.here hx rfl (pc0 := 1) (pc' := 13) rfl (hb hby d31_11_1) rfl (by decide) (by decide) k) ?_
  refine og (fun _ k => XS.aloadN X0.here hx rfl (hb hby d31_11_13) rfl rfl k) ?_
  show OGo p e below _ s₁ (mkF m 14 #[.val (.ref a), .val (.ref x)] [(.ref a)])
  exact OGo.ret X0 hx (t := (.object "java/lang/Object")) hret hlk rfl (Or.inr (Or.inr (Or.inr (Or.inr ⟨rfl, rfl, rfl⟩)))) (hb hby d31_11_14) (by decide) (by decide) ⟨rfl, rfl, e0⟩
theorem d7_1_0 : DK prog_7_method_1_code 0 (.aload_n 0) 1 := by decide +kernel
theorem d7_1_1 : DK prog_7_method_1_code 1 (.invokespecial 1) 3 := by decide +kernel
theorem d7_1_4 : DK prog_7_method_1_code 4 (.aload_n 0) 1 := by decide +kernel
theorem d7_1_5 : DK prog_7_method_1_code 5 (.aload_n 1) 1 := by decide +kernel
theorem d7_1_6 : DK prog_7_method_1_code 6 (.ldc 7) 2 := by decide +kernel
theorem opd_30 : parseMethodDescriptor "(Ljava/lang/Object;Ljava/lang/String;)Ljava/lang/Object;" = some ⟨[(.object "java/lang/Object"), (.object "java/lang/String")], some (.object "java/lang/Object")⟩ := by decide +kernel
theorem d7_1_8 : DK prog_7_method_1_code 8 (.invokestatic 9) 3 := by decide +kernel
theorem d7_1_11 : DK prog_7_method_1_code 11 (.checkcast 15) 3 := by decide +kernel
theorem d7_1_14 : DK prog_7_method_1_code 14 (.putfield 17) 3 := by decide +kernel
theorem d7_1_17 : DK prog_7_method_1_code 17 (.aload_n 0) 1 := by decide +kernel
theorem d7_1_18 : DK prog_7_method_1_code 18 (.aload_n 2) 1 := by decide +kernel
theorem d7_1_19 : DK prog_7_method_1_code 19 (.putfield 22) 3 := by decide +kernel
theorem d7_1_22 : DK prog_7_method_1_code 22 (.aload_n 0) 1 := by decide +kernel
theorem d7_1_23 : DK prog_7_method_1_code 23 (.lload_n 3) 1 := by decide +kernel
theorem d7_1_24 : DK prog_7_method_1_code 24 (.putfield 25) 3 := by decide +kernel
theorem d7_1_27 : DK prog_7_method_1_code 27 (.aload_n 0) 1 := by decide +kernel
theorem d7_1_28 : DK prog_7_method_1_code 28 (.aload 5) 2 := by decide +kernel
theorem d7_1_30 : DK prog_7_method_1_code 30 (.ldc 29) 2 := by decide +kernel
theorem d7_1_32 : DK prog_7_method_1_code 32 (.invokestatic 9) 3 := by decide +kernel
theorem d7_1_35 : DK prog_7_method_1_code 35 (.checkcast 15) 3 := by decide +kernel
theorem d7_1_38 : DK prog_7_method_1_code 38 (.putfield 31) 3 := by decide +kernel
theorem d7_1_41 : DK prog_7_method_1_code 41 .return_ 1 := by decide +kernel
theorem opl_rm_leN : plainFor (⟨"com/example/drain_shards/drainshards/Lease", "<init>", "(Ljava/lang/String;Ljava/lang/String;JLjava/lang/String;)V"⟩ : MethodName) = true := plainFor_of_name (by first | (simp [plainName, overriddenIn]; done) | decide +kernel)
theorem rm_leN (l : Launch) (Z : State) (a0 : Array Value) (hw : ∀ d ∈ tables_1, d.before a0 Z = true) (ws : List Jvm.Cond) (o a1 a2 a3 : Addr) (v : Int64) (zc : Int32) (wf : Value) (n0 : Nat) (h0 : Heap) (SS : own_SS Z zc wf) (O : Old Z n0 h0) (E : Exa Z h0 o "com/example/drain_shards/drainshards/Lease") (g_o : n0 ≤ o) (E1 : Exa Z h0 a1 "java/lang/String") (E3 : Exa Z h0 a3 "java/lang/String") (F0 : Fld Z h0 o "com/example/drain_shards/drainshards/Lease" "leaseKey" "Ljava/lang/String;" .null) (F1 : Fld Z h0 o "com/example/drain_shards/drainshards/Lease" "leaseOwner" "Ljava/lang/String;" .null) (F2 : Fld Z h0 o "com/example/drain_shards/drainshards/Lease" "leaseCounter" "J" (.long (0 : Int64))) (F3 : Fld Z h0 o "com/example/drain_shards/drainshards/Lease" "checkpoint" "Ljava/lang/String;" .null) :
    ConH l Z own_EL (⟨"com/example/drain_shards/drainshards/Lease", "<init>", "(Ljava/lang/String;Ljava/lang/String;JLjava/lang/String;)V"⟩ : MethodName) prog_7_method_1_code 6 none ws ({ frames := 1, cells := 4, slots := 80, locals := 14 } : Room) #[(.ref o), (.ref a1), .null, (.long v), (.ref a3)] h0 (fun v' h L => v' = none ∧ Fr n0 L ∧ Keep h0 h [o] ∧ Exa Z h o "com/example/drain_shards/drainshards/Lease" ∧ Fld Z h o "com/example/drain_shards/drainshards/Lease" "leaseKey" "Ljava/lang/String;" (.ref a1) ∧ Fld Z h o "com/example/drain_shards/drainshards/Lease" "leaseOwner" "Ljava/lang/String;" .null ∧ Fld Z h o "com/example/drain_shards/drainshards/Lease" "leaseCounter" "J" (.long v) ∧ Fld Z h o "com/example/drain_shards/drainshards/Lease" "checkpoint" "Ljava/lang/String;" (.ref a3)) := by
  refine ConH.intro opl_rm_leN ?_
  intro p e s m below meth c s₁ hx hby hml hown hret hlk hZ hnm X0 e0 hs0 hS0 H0 R0
  have SS' := SS
  obtain ⟨hzc, SC, hwf, SF⟩ := SS
  have Z0 : n0 ≤ h0.size := O.1 ▸ O.2.1
  have N0 := Fr.nil n0
  refine OGo.cast (g' := (mkF m 0 #[.val (.ref o), .val (.ref a1), .val .null, .val (.long v), .second, .val (.ref a3)] [])) (by first | (simp [entryFrame, mkF, argsToLocals, Value.category]; done) | rfl) ?_
  refine og (fun _ k => XS.aloadN X0.here hx rfl (hb hby d7_1_0) rfl rfl k) ?_
  obtain ⟨T153, X153, e153, st153⟩ := initO X0 hx hZ hown (own_g hw 50 rfl) (own_g hw 12 rfl) (own_g hw 13 rfl) e0 (g := (mkF m 1 #[.val (.ref o), .val (.ref a1), .val .null, .val (.long v), .second, .val (.ref a3)] [(.ref o)])) rfl (by rw [hml]; rfl) rfl (hb hby d7_1_1) (by decide) (W := 0) (by show 2 * 0 + _ ≤ _; exact Nat.le_of_eq rfl) (by decide)
  refine og st153 ?_
  refine og (fun _ k => XS.aloadN X153.here hx rfl (hb hby d7_1_4) rfl rfl k) ?_
  refine og (fun _ k => XS.aloadN X153.here hx rfl (hb hby d7_1_5) rfl rfl k) ?_
  obtain ⟨a154, T154, h154, kk154, d154, kd154, X154, e154, E154, hS154, hk154, hZ154, hown154, A154, C154, F154, V154, lt154, ltd154, CR154, Li154, sf154, st154⟩ := ldcCH X153 hx hZ hown (own_g hw 51 rfl) (own_wS hw) e153 hS0 (Nat.zero_le _) (own_hEL hw) (List.mem_of_getElem? (i := 0) rfl) H0 (vs := [(.int (108 : Int32)), (.int (101 : Int32)), (.int (97 : Int32)), (.int (115 : Int32)), (.int (101 : Int32)), (.int (75 : Int32)), (.int (101 : Int32)), (.int (121 : Int32))]) (z := (8 : Int32)) (by decide) (by decide) (by decide) (g := (mkF m 6 #[.val (.ref o), .val (.ref a1), .val .null, .val (.long v), .second, .val (.ref a3)] [(.ref a1), (.ref o)])) rfl (hb hby d7_1_6) (n := 32) (by decide) (by decide) (by decide) (by decide)
  have KK154 : Keep h0 h154 [o] := (Keep.refl h0 [o]).ext E154
  have H154 := CR154.1
  have R154 := CHr.trans R0 CR154
  refine og st154 ?_
  obtain ⟨v155, T155, L155, X155, hQ155, st155⟩ := scall X154 hx hZ154 hown154 (own_g hw 54 rfl) (own_g hw 55 rfl) (own_g hw 56 rfl) (own_g hw 57 rfl) (by decide) (W := 1) (rm_rnn l Z a0 hw [] a1 a154 h154 ) e154 (by decide) (by decide) (by decide) (by decide) (g := (mkF m 8 #[.val (.ref o), .val (.ref a1), .val .null, .val (.long v), .second, .val (.ref a3)] [(.ref a154), (.ref a1), (.ref o)])) rfl (by rw [hml]; rfl) (argsL := [(.ref a1), (.ref a154)]) (rest := [(.ref o)]) opd_30 rfl rfl rfl (by show 2 * 0 + _ ≤ _; exact Nat.le_of_eq rfl) (hb hby d7_1_8)
  obtain ⟨rfl, rfl, e155⟩ := hQ155
  rw [List.append_nil] at X155
  refine og st155 ?_
  obtain ⟨T156, X156, e156, st156⟩ := castY X155 hx hZ154 hown154 (own_g hw 58 rfl) e155 (Ins.of_exa (E1.ext E154) (own_g hw 9 rfl)) (g := (mkF m 11 #[.val (.ref o), .val (.ref a1), .val .null, .val (.long v), .second, .val (.ref a3)] [(.ref a1), (.ref o)])) rfl rfl (hb hby d7_1_11)
  refine og st156 ?_
  obtain ⟨T157, h157, X157, e157, W157, st157⟩ := putF X156 hx hZ154 hown154 (host := "") (Or.inl (own_g hw 59 rfl)) Via.refl e156 (F0.ext E154) (E.ext E154) (Or.inr ⟨(own_g hw 60 rfl), rfl, hnm⟩) (own_g hw 45 rfl) (ty := (.object "java/lang/String")) (by decide) rfl rfl (g := (mkF m 14 #[.val (.ref o), .val (.ref a1), .val .null, .val (.long v), .second, .val (.ref a3)] [(.ref a1), (.ref o)])) rfl rfl (hb hby d7_1_14)
  have Fw157 := (F0.ext E154).same W157
  have q158 := (CHr.safe CR154 E.lt (Safe.exa (EL := own_EL) hZ.alike E (by decide) (by decide)))
  have N157 := Fr.snoc X157 N0 g_o
  have KK157 : Keep h0 h157 [o] := KK154.wr W157 (Or.inl (List.mem_of_getElem? (i := 0) rfl))
  have H157 := CHv.wr W157 q158 H154
  have R157 := CHr.trans R154 (CHr.wr W157 q158 H154)
  refine og st157 ?_
  refine og (fun _ k => XS.aloadN X157.here hx rfl (hb hby d7_1_17) rfl rfl k) ?_
  refine og (fun _ k => XS.aloadN X157.here hx rfl (hb hby d7_1_18) rfl rfl k) ?_
  have q160 := ((F1.ext E154).other W157 (Or.inr (slot_ne (Or.inr (own_g hw 62 rfl)) (Or.inr (own_g hw 60 rfl)) (by decide) (t := (.object "java/lang/String")) (t' := (.object "java/lang/String")) (by decide) (by decide))))
  obtain ⟨T159, h159, X159, e159, W159, st159⟩ := putF X157 hx hZ154 hown154 (host := "") (Or.inl (own_g hw 61 rfl)) Via.refl e157 q160 ((E.ext E154).wr W157) (Or.inr ⟨(own_g hw 62 rfl), rfl, hnm⟩) (own_g hw 45 rfl) (ty := (.object "java/lang/String")) (by decide) rfl rfl (g := (mkF m 19 #[.val (.ref o), .val (.ref a1), .val .null, .val (.long v), .second, .val (.ref a3)] [.null, (.ref o)])) rfl rfl (hb hby d7_1_19)
  have Fw159 := q160.same W159
  have N159 := Fr.snoc X159 N157 g_o
  have KK159 : Keep h0 h159 [o] := KK157.wr W159 (Or.inl (List.mem_of_getElem? (i := 0) rfl))
  have H159 := CHv.wr W159 (Safe.wr W157 q158 H154 q158) H157
  have R159 := CHr.trans R157 (CHr.wr W159 (Safe.wr W157 q158 H154 q158) H157)
  refine og st159 ?_
  refine og (fun _ k => XS.aloadN X159.here hx rfl (hb hby d7_1_22) rfl rfl k) ?_
  refine og (fun _ k => XS.lloadN X159.here hx rfl (hb hby d7_1_23) rfl k) ?_
  have q162 := (((F2.ext E154).other W157 (Or.inr (slot_ne (Or.inr (own_g hw 64 rfl)) (Or.inr (own_g hw 60 rfl)) (by decide) (t := .long) (t' := (.object "java/lang/String")) (by decide) (by decide)))).other W159 (Or.inr (slot_ne (Or.inr (own_g hw 64 rfl)) (Or.inr (own_g hw 62 rfl)) (by decide) (t := .long) (t' := (.object "java/lang/String")) (by decide) (by decide))))
  obtain ⟨T161, h161, X161, e161, W161, st161⟩ := putF X159 hx hZ154 hown154 (host := "") (Or.inl (own_g hw 63 rfl)) Via.refl e159 q162 (((E.ext E154).wr W157).wr W159) (Or.inr ⟨(own_g hw 64 rfl), rfl, hnm⟩) (own_g hw 45 rfl) (ty := .long) (by decide) rfl rfl (g := (mkF m 24 #[.val (.ref o), .val (.ref a1), .val .null, .val (.long v), .second, .val (.ref a3)] [(.long v), (.ref o)])) rfl rfl (hb hby d7_1_24)
  have Fw161 := q162.same W161
  have q163 := (Safe.wr W159 (Safe.wr W157 q158 H154 q158) H157 (Safe.wr W157 q158 H154 q158))
  have N161 := Fr.snoc X161 N159 g_o
  have KK161 : Keep h0 h161 [o] := KK159.wr W161 (Or.inl (List.mem_of_getElem? (i := 0) rfl))
  have H161 := CHv.wr W161 q163 H159
  have R161 := CHr.trans R159 (CHr.wr W161 q163 H159)
  refine og st161 ?_
  refine og (fun _ k => XS.aloadN X161.here hx rfl (hb hby d7_1_27) rfl rfl k) ?_
  refine og (fun _ k => XS.aload X161.here hx rfl (hb hby d7_1_28) rfl rfl k) ?_
  obtain ⟨a164, T164, h164, kk164, d164, kd164, X164, e164, E164, hS164, hk164, hZ164, hown164, A164, C164, F164, V164, lt164, ltd164, CR164, Li164, sf164, st164⟩ := ldcCH X161 hx hZ154 hown154 (own_g hw 65 rfl) (own_wS hw) e161 hS154 (Nat.le_trans (Nat.le_trans (Nat.le_trans hk154 (Nat.le_of_eq W157.size.symm)) (Nat.le_of_eq W159.size.symm)) (Nat.le_of_eq W161.size.symm)) (own_hEL hw) (List.mem_of_getElem? (i := 1) rfl) H161 (vs := [(.int (99 : Int32)), (.int (104 : Int32)), (.int (101 : Int32)), (.int (99 : Int32)), (.int (107 : Int32)), (.int (112 : Int32)), (.int (111 : Int32)), (.int (105 : Int32)), (.int (110 : Int32)), (.int (116 : Int32))]) (z := (10 : Int32)) (by decide) (by decide) (by decide) (g := (mkF m 30 #[.val (.ref o), .val (.ref a1), .val .null, .val (.long v), .second, .val (.ref a3)] [(.ref a3), (.ref o)])) rfl (hb hby d7_1_30) (n := 40) (by decide) (by decide) (by decide) (by decide)
  have KK164 : Keep h0 h164 [o] := KK161.ext E164
  have H164 := CR164.1
  have R164 := CHr.trans R161 CR164
  refine og st164 ?_
  obtain ⟨v165, T165, L165, X165, hQ165, st165⟩ := scall X164 hx hZ164 hown164 (own_g hw 54 rfl) (own_g hw 55 rfl) (own_g hw 56 rfl) (own_g hw 57 rfl) (by decide) (W := 1) (rm_rnn l Z a0 hw [] a3 a164 h164 ) e164 (by decide) (by decide) (by decide) (by decide) (g := (mkF m 32 #[.val (.ref o), .val (.ref a1), .val .null, .val (.long v), .second, .val (.ref a3)] [(.ref a164), (.ref a3), (.ref o)])) rfl (by rw [hml]; rfl) (argsL := [(.ref a3), (.ref a164)]) (rest := [(.ref o)]) opd_30 rfl rfl rfl (by show 2 * 0 + _ ≤ _; exact Nat.le_of_eq rfl) (hb hby d7_1_32)
  obtain ⟨rfl, rfl, e165⟩ := hQ165
  rw [List.append_nil] at X165
  refine og st165 ?_
  have q167 := (((((E3.ext E154).wr W157).wr W159).wr W161).ext E164)
  obtain ⟨T166, X166, e166, st166⟩ := castY X165 hx hZ164 hown164 (own_g hw 58 rfl) e165 (Ins.of_exa q167 (own_g hw 9 rfl)) (g := (mkF m 35 #[.val (.ref o), .val (.ref a1), .val .null, .val (.long v), .second, .val (.ref a3)] [(.ref a3), (.ref o)])) rfl rfl (hb hby d7_1_35)
  refine og st166 ?_
  have q169 := (((((F3.ext E154).other W157 (Or.inr (slot_ne (Or.inr (own_g hw 67 rfl)) (Or.inr (own_g hw 60 rfl)) (by decide) (t := (.object "java/lang/String")) (t' := (.object "java/lang/String")) (by decide) (by decide)))).other W159 (Or.inr (slot_ne (Or.inr (own_g hw 67 rfl)) (Or.inr (own_g hw 62 rfl)) (by decide) (t := (.object "java/lang/String")) (t' := (.object "java/lang/String")) (by decide) (by decide)))).other W161 (Or.inr (slot_ne (Or.inr (own_g hw 67 rfl)) (Or.inr (own_g hw 64 rfl)) (by decide) (t := (.object "java/lang/String")) (t' := .long) (by decide) (by decide)))).ext E164)
  have q170 := (((((E.ext E154).wr W157).wr W159).wr W161).ext E164)
  obtain ⟨T168, h168, X168, e168, W168, st168⟩ := putF X166 hx hZ164 hown164 (host := "") (Or.inl (own_g hw 66 rfl)) Via.refl e166 q169 q170 (Or.inr ⟨(own_g hw 67 rfl), rfl, hnm⟩) (own_g hw 45 rfl) (ty := (.object "java/lang/String")) (by decide) rfl rfl (g := (mkF m 38 #[.val (.ref o), .val (.ref a1), .val .null, .val (.long v), .second, .val (.ref a3)] [(.ref a3), (.ref o)])) rfl rfl (hb hby d7_1_38)
  have Fw168 := q169.same W168
  have q171 := (CHr.safe CR164 ((((E.ext E154).wr W157).wr W159).wr W161).lt (Safe.wr W161 q163 H159 q163))
  have N168 := Fr.snoc X168 N161 g_o
  have KK168 : Keep h0 h168 [o] := KK164.wr W168 (Or.inl (List.mem_of_getElem? (i := 0) rfl))
  have H168 := CHv.wr W168 q171 H164
  have R168 := CHr.trans R164 (CHr.wr W168 q171 H164)
  refine og st168 ?_
  have q172 := ((((Fw157.other W159 (Or.inr (slot_ne (Or.inr (own_g hw 60 rfl)) (Or.inr (own_g hw 62 rfl)) (by decide) (t := (.object "java/lang/String")) (t' := (.object "java/lang/String")) (by decide) (by decide)))).other W161 (Or.inr (slot_ne (Or.inr (own_g hw 60 rfl)) (Or.inr (own_g hw 64 rfl)) (by decide) (t := (.object "java/lang/String")) (t' := .long) (by decide) (by decide)))).ext E164).other W168 (Or.inr (slot_ne (Or.inr (own_g hw 60 rfl)) (Or.inr (own_g hw 67 rfl)) (by decide) (t := (.object "java/lang/String")) (t' := (.object "java/lang/String")) (by decide) (by decide))))
  have q173 := (((Fw159.other W161 (Or.inr (slot_ne (Or.inr (own_g hw 62 rfl)) (Or.inr (own_g hw 64 rfl)) (by decide) (t := (.object "java/lang/String")) (t' := .long) (by decide) (by decide)))).ext E164).other W168 (Or.inr (slot_ne (Or.inr (own_g hw 62 rfl)) (Or.inr (own_g hw 67 rfl)) (by decide) (t := (.object "java/lang/String")) (t' := (.object "java/lang/String")) (by decide) (by decide))))
  have q174 := ((Fw161.ext E164).other W168 (Or.inr (slot_ne (Or.inr (own_g hw 64 rfl)) (Or.inr (own_g hw 67 rfl)) (by decide) (t := .long) (t' := (.object "java/lang/String")) (by decide) (by decide))))
  show OGo p e below _ T168 (mkF m 41 #[.val (.ref o), .val (.ref a1), .val .null, .val (.long v), .second, .val (.ref a3)] [])
  exact OGo.retHV X168 hx hZ164 (own_hEL hw) hs0 e168 hS164 (Nat.le_trans hk164 (Nat.le_of_eq W168.size.symm)) H168 R168 hret hlk (hb hby d7_1_41) (by decide) (by decide) (by exact ⟨rfl, N168, KK168, (q170.wr W168), q172, q173, q174, Fw168⟩)
theorem opl_rm_leO : plainFor (⟨"com/example/drain_shards/drainshards/Lease", "<init>", "(Ljava/lang/String;Ljava/lang/String;JLjava/lang/String;)V"⟩ : MethodName) = true := plainFor_of_name (by first | (simp [plainName, overriddenIn]; done) | decide +kernel)
theorem rm_leO (l : Launch) (Z : State) (a0 : Array Value) (hw : ∀ d ∈ tables_1, d.before a0 Z = true) (ws : List Jvm.Cond) (o a1 a2 a3 : Addr) (v : Int64) (zc : Int32) (wf : Value) (n0 : Nat) (h0 : Heap) (SS : own_SS Z zc wf) (O : Old Z n0 h0) (E : Exa Z h0 o "com/example/drain_shards/drainshards/Lease") (g_o : n0 ≤ o) (E1 : Exa Z h0 a1 "java/lang/String") (E3 : Exa Z h0 a3 "java/lang/String") (F0 : Fld Z h0 o "com/example/drain_shards/drainshards/Lease" "leaseKey" "Ljava/lang/String;" .null) (F1 : Fld Z h0 o "com/example/drain_shards/drainshards/Lease" "leaseOwner" "Ljava/lang/String;" .null) (F2 : Fld Z h0 o "com/example/drain_shards/drainshards/Lease" "leaseCounter" "J" (.long (0 : Int64))) (F3 : Fld Z h0 o "com/example/drain_shards/drainshards/Lease" "checkpoint" "Ljava/lang/String;" .null) :
    ConH l Z own_EL (⟨"com/example/drain_shards/drainshards/Lease", "<init>", "(Ljava/lang/String;Ljava/lang/String;JLjava/lang/String;)V"⟩ : MethodName) prog_7_method_1_code 6 none ws ({ frames := 1, cells := 4, slots := 80, locals := 14 } : Room) #[(.ref o), (.ref a1), (.ref a2), (.long v), (.ref a3)] h0 (fun v' h L => v' = none ∧ Fr n0 L ∧ Keep h0 h [o] ∧ Exa Z h o "com/example/drain_shards/drainshards/Lease" ∧ Fld Z h o "com/example/drain_shards/drainshards/Lease" "leaseKey" "Ljava/lang/String;" (.ref a1) ∧ Fld Z h o "com/example/drain_shards/drainshards/Lease" "leaseOwner" "Ljava/lang/String;" (.ref a2) ∧ Fld Z h o "com/example/drain_shards/drainshards/Lease" "leaseCounter" "J" (.long v) ∧ Fld Z h o "com/example/drain_shards/drainshards/Lease" "checkpoint" "Ljava/lang/String;" (.ref a3)) := by
  refine ConH.intro opl_rm_leO ?_
  intro p e s m below meth c s₁ hx hby hml hown hret hlk hZ hnm X0 e0 hs0 hS0 H0 R0
  have SS' := SS
  obtain ⟨hzc, SC, hwf, SF⟩ := SS
  have Z0 : n0 ≤ h0.size := O.1 ▸ O.2.1
  have N0 := Fr.nil n0
  refine OGo.cast (g' := (mkF m 0 #[.val (.ref o), .val (.ref a1), .val (.ref a2), .val (.long v), .second, .val (.ref a3)] [])) (by first | (simp [entryFrame, mkF, argsToLocals, Value.category]; done) | rfl) ?_
  refine og (fun _ k => XS.aloadN X0.here hx rfl (hb hby d7_1_0) rfl rfl k) ?_
  obtain ⟨T175, X175, e175, st175⟩ := initO X0 hx hZ hown (own_g hw 50 rfl) (own_g hw 12 rfl) (own_g hw 13 rfl) e0 (g := (mkF m 1 #[.val (.ref o), .val (.ref a1), .val (.ref a2), .val (.long v), .second, .val (.ref a3)] [(.ref o)])) rfl (by rw [hml]; rfl) rfl (hb hby d7_1_1) (by decide) (W := 0) (by show 2 * 0 + _ ≤ _; exact Nat.le_of_eq rfl) (by decide)
  refine og st175 ?_
  refine og (fun _ k => XS.aloadN X175.here hx rfl (hb hby d7_1_4) rfl rfl k) ?_
  refine og (fun _ k => XS.aloadN X175.here hx rfl (hb hby d7_1_5) rfl rfl k) ?_
  obtain ⟨a176, T176, h176, kk176, d176, kd176, X176, e176, E176, hS176, hk176, hZ176, hown176, A176, C176, F176, V176, lt176, ltd176, CR176, Li176, sf176, st176⟩ := ldcCH X175 hx hZ hown (own_g hw 51 rfl) (own_wS hw) e175 hS0 (Nat.zero_le _) (own_hEL hw) (List.mem_of_getElem? (i := 0) rfl) H0 (vs := [(.int (108 : Int32)), (.int (101 : Int32)), (.int (97 : Int32)), (.int (115 : Int32)), (.int (101 : Int32)), (.int (75 : Int32)), (.int (101 : Int32)), (.int (121 : Int32))]) (z := (8 : Int32)) (by decide) (by decide) (by decide) (g := (mkF m 6 #[.val (.ref o), .val (.ref a1), .val (.ref a2), .val (.long v), .second, .val (.ref a3)] [(.ref a1), (.ref o)])) rfl (hb hby d7_1_6) (n := 32) (by decide) (by decide) (by decide) (by decide)
  have KK176 : Keep h0 h176 [o] := (Keep.refl h0 [o]).ext E176
  have H176 := CR176.1
  have R176 := CHr.trans R0 CR176
  refine og st176 ?_
  obtain ⟨v177, T177, L177, X177, hQ177, st177⟩ := scall X176 hx hZ176 hown176 (own_g hw 54 rfl) (own_g hw 55 rfl) (own_g hw 56 rfl) (own_g hw 57 rfl) (by decide) (W := 1) (rm_rnn l Z a0 hw [] a1 a176 h176 ) e176 (by decide) (by decide) (by decide) (by decide) (g := (mkF m 8 #[.val (.ref o), .val (.ref a1), .val (.ref a2), .val (.long v), .second, .val (.ref a3)] [(.ref a176), (.ref a1), (.ref o)])) rfl (by rw [hml]; rfl) (argsL := [(.ref a1), (.ref a176)]) (rest := [(.ref o)]) opd_30 rfl rfl rfl (by show 2 * 0 + _ ≤ _; exact Nat.le_of_eq rfl) (hb hby d7_1_8)
  obtain ⟨rfl, rfl, e177⟩ := hQ177
  rw [List.append_nil] at X177
  refine og st177 ?_
  obtain ⟨T178, X178, e178, st178⟩ := castY X177 hx hZ176 hown176 (own_g hw 58 rfl) e177 (Ins.of_exa (E1.ext E176) (own_g hw 9 rfl)) (g := (mkF m 11 #[.val (.ref o), .val (.ref a1), .val (.ref a2), .val (.long v), .second, .val (.ref a3)] [(.ref a1), (.ref o)])) rfl rfl (hb hby d7_1_11)
  refine og st178 ?_
  obtain ⟨T179, h179, X179, e179, W179, st179⟩ := putF X178 hx hZ176 hown176 (host := "") (Or.inl (own_g hw 59 rfl)) Via.refl e178 (F0.ext E176) (E.ext E176) (Or.inr ⟨(own_g hw 60 rfl), rfl, hnm⟩) (own_g hw 45 rfl) (ty := (.object "java/lang/String")) (by decide) rfl rfl (g := (mkF m 14 #[.val (.ref o), .val (.ref a1), .val (.ref a2), .val (.long v), .second, .val (.ref a3)] [(.ref a1), (.ref o)])) rfl rfl (hb hby d7_1_14)
  have Fw179 := (F0.ext E176).same W179
  have q180 := (CHr.safe CR176 E.lt (Safe.exa (EL := own_EL) hZ.alike E (by decide) (by decide)))
  have N179 := Fr.snoc X179 N0 g_o
  have KK179 : Keep h0 h179 [o] := KK176.wr W179 (Or.inl (List.mem_of_getElem? (i := 0) rfl))
  have H179 := CHv.wr W179 q180 H176
  have R179 := CHr.trans R176 (CHr.wr W179 q180 H176)
  refine og st179 ?_
  refine og (fun _ k => XS.aloadN X179.here hx rfl (hb hby d7_1_17) rfl rfl k) ?_
  refine og (fun _ k => XS.aloadN X179.here hx rfl (hb hby d7_1_18) rfl rfl k) ?_
  have q182 := ((F1.ext E176).other W179 (Or.inr (slot_ne (Or.inr (own_g hw 62 rfl)) (Or.inr (own_g hw 60 rfl)) (by decide) (t := (.object "java/lang/String")) (t' := (.object "java/lang/String")) (by decide) (by decide))))
  obtain ⟨T181, h181, X181, e181, W181, st181⟩ := putF X179 hx hZ176 hown176 (host := "") (Or.inl (own_g hw 61 rfl)) Via.refl e179 q182 ((E.ext E176).wr W179) (Or.inr ⟨(own_g hw 62 rfl), rfl, hnm⟩) (own_g hw 45 rfl) (ty := (.object "java/lang/String")) (by decide) rfl rfl (g := (mkF m 19 #[.val (.ref o), .val (.ref a1), .val (.ref a2), .val (.long v), .second, .val (.ref a3)] [(.ref a2), (.ref o)])) rfl rfl (hb hby d7_1_19)
  have Fw181 := q182.same W181
  have N181 := Fr.snoc X181 N179 g_o
  have KK181 : Keep h0 h181 [o] := KK179.wr W181 (Or.inl (List.mem_of_getElem? (i := 0) rfl))
  have H181 := CHv.wr W181 (Safe.wr W179 q180 H176 q180) H179
  have R181 := CHr.trans R179 (CHr.wr W181 (Safe.wr W179 q180 H176 q180) H179)
  refine og st181 ?_
  refine og (fun _ k => XS.aloadN X181.here hx rfl (hb hby d7_1_22) rfl rfl k) ?_
  refine og (fun _ k => XS.lloadN X181.here hx rfl (hb hby d7_1_23) rfl k) ?_
  have q184 := (((F2.ext E176).other W179 (Or.inr (slot_ne (Or.inr (own_g hw 64 rfl)) (Or.inr (own_g hw 60 rfl)) (by decide) (t := .long) (t' := (.object "java/lang/String")) (by decide) (by decide)))).other W181 (Or.inr (slot_ne (Or.inr (own_g hw 64 rfl)) (Or.inr (own_g hw 62 rfl)) (by decide) (t := .long) (t' := (.object "java/lang/String")) (by decide) (by decide))))
  obtain ⟨T183, h183, X183, e183, W183, st183⟩ := putF X181 hx hZ176 hown176 (host := "") (Or.inl (own_g hw 63 rfl)) Via.refl e181 q184 (((E.ext E176).wr W179).wr W181) (Or.inr ⟨(own_g hw 64 rfl), rfl, hnm⟩) (own_g hw 45 rfl) (ty := .long) (by decide) rfl rfl (g := (mkF m 24 #[.val (.ref o), .val (.ref a1), .val (.ref a2), .val (.long v), .second, .val (.ref a3)] [(.long v), (.ref o)])) rfl rfl (hb hby d7_1_24)
  have Fw183 := q184.same W183
  have q185 := (Safe.wr W181 (Safe.wr W179 q180 H176 q180) H179 (Safe.wr W179 q180 H176 q180))
  have N183 := Fr.snoc X183 N181 g_o
  have KK183 : Keep h0 h183 [o] := KK181.wr W183 (Or.inl (List.mem_of_getElem? (i := 0) rfl))
  have H183 := CHv.wr W183 q185 H181
  have R183 := CHr.trans R181 (CHr.wr W183 q185 H181)
  refine og st183 ?_
  refine og (fun _ k => XS.aloadN X183.here hx rfl (hb hby d7_1_27) rfl rfl k) ?_
  refine og (fun _ k => XS.aload X183.here hx rfl (hb hby d7_1_28) rfl rfl k) ?_
  obtain ⟨a186, T186, h186, kk186, d186, kd186, X186, e186, E186, hS186, hk186, hZ186, hown186, A186, C186, F186, V186, lt186, ltd186, CR186, Li186, sf186, st186⟩ := ldcCH X183 hx hZ176 hown176 (own_g hw 65 rfl) (own_wS hw) e183 hS176 (Nat.le_trans (Nat.le_trans (Nat.le_trans hk176 (Nat.le_of_eq W179.size.symm)) (Nat.le_of_eq W181.size.symm)) (Nat.le_of_eq W183.size.symm)) (own_hEL hw) (List.mem_of_getElem? (i := 1) rfl) H183 (vs := [(.int (99 : Int32)), (.int (104 : Int32)), (.int (101 : Int32)), (.int (99 : Int32)), (.int (107 : Int32)), (.int (112 : Int32)), (.int (111 : Int32)), (.int (105 : Int32)), (.int (110 : Int32)), (.int (116 : Int32))]) (z := (10 : Int32)) (by decide) (by decide) (by decide) (g := (mkF m 30 #[.val (.ref o), .val (.ref a1), .val (.ref a2), .val (.long v), .second, .val (.ref a3)] [(.ref a3), (.ref o)])) rfl (hb hby d7_1_30) (n := 40) (by decide) (by decide) (by decide) (by decide)
  have KK186 : Keep h0 h186 [o] := KK183.ext E186
  have H186 := CR186.1
  have R186 := CHr.trans R183 CR186
  refine og st186 ?_
  obtain ⟨v187, T187, L187, X187, hQ187, st187⟩ := scall X186 hx hZ186 hown186 (own_g hw 54 rfl) (own_g hw 55 rfl) (own_g hw 56 rfl) (own_g hw 57 rfl) (by decide) (W := 1) (rm_rnn l Z a0 hw [] a3 a186 h186 ) e186 (by decide) (by decide) (by decide) (by decide) (g := (mkF m 32 #[.val (.ref o), .val (.ref a1), .val (.ref a2), .val (.long v), .second, .val (.ref a3)] [(.ref a186), (.ref a3), (.ref o)])) rfl (by rw [hml]; rfl) (argsL := [(.ref a3), (.ref a186)]) (rest := [(.ref o)]) opd_30 rfl rfl rfl (by show 2 * 0 + _ ≤ _; exact Nat.le_of_eq rfl) (hb hby d7_1_32)
  obtain ⟨rfl, rfl, e187⟩ := hQ187
  rw [List.append_nil] at X187
  refine og st187 ?_
  have q189 := (((((E3.ext E176).wr W179).wr W181).wr W183).ext E186)
  obtain ⟨T188, X188, e188, st188⟩ := castY X187 hx hZ186 hown186 (own_g hw 58 rfl) e187 (Ins.of_exa q189 (own_g hw 9 rfl)) (g := (mkF m 35 #[.val (.ref o), .val (.ref a1), .val (.ref a2), .val (.long v), .second, .val (.ref a3)] [(.ref a3), (.ref o)])) rfl rfl (hb hby d7_1_35)
  refine og st188 ?_
  have q191 := (((((F3.ext E176).other W179 (Or.inr (slot_ne (Or.inr (own_g hw 67 rfl)) (Or.inr (own_g hw 60 rfl)) (by decide) (t := (.object "java/lang/String")) (t' := (.object "java/lang/String")) (by decide) (by decide)))).other W181 (Or.inr (slot_ne (Or.inr (own_g hw 67 rfl)) (Or.inr (own_g hw 62 rfl)) (by decide) (t := (.object "java/lang/String")) (t' := (.object "java/lang/String")) (by decide) (by decide)))).other W183 (Or.inr (slot_ne (Or.inr (own_g hw 67 rfl)) (Or.inr (own_g hw 64 rfl)) (by decide) (t := (.object "java/lang/String")) (t' := .long) (by decide) (by decide)))).ext E186)
  have q192 := (((((E.ext E176).wr W179).wr W181).wr W183).ext E186)
  obtain ⟨T190, h190, X190, e190, W190, st190⟩ := putF X188 hx hZ186 hown186 (host := "") (Or.inl (own_g hw 66 rfl)) Via.refl e188 q191 q192 (Or.inr ⟨(own_g hw 67 rfl), rfl, hnm⟩) (own_g hw 45 rfl) (ty := (.object "java/lang/String")) (by decide) rfl rfl (g := (mkF m 38 #[.val (.ref o), .val (.ref a1), .val (.ref a2), .val (.long v), .second, .val (.ref a3)] [(.ref a3), (.ref o)])) rfl rfl (hb hby d7_1_38)
  have Fw190 := q191.same W190
  have q193 := (CHr.safe CR186 ((((E.ext E176).wr W179).wr W181).wr W183).lt (Safe.wr W183 q185 H181 q185))
  have N190 := Fr.snoc X190 N183 g_o
  have KK190 : Keep h0 h190 [o] := KK186.wr W190 (Or.inl (List.mem_of_getElem? (i := 0) rfl))
  have H190 := CHv.wr W190 q193 H186
  have R190 := CHr.trans R186 (CHr.wr W190 q193 H186)
  refine og st190 ?_
  have q194 := ((((Fw179.other W181 (Or.inr (slot_ne (Or.inr (own_g hw 60 rfl)) (Or.inr (own_g hw 62 rfl)) (by decide) (t := (.object "java/lang/String")) (t' := (.object "java/lang/String")) (by decide) (by decide)))).other W183 (Or.inr (slot_ne (Or.inr (own_g hw 60 rfl)) (Or.inr (own_g hw 64 rfl)) (by decide) (t := (.object "java/lang/String")) (t' := .long) (by decide) (by decide)))).ext E186).other W190 (Or.inr (slot_ne (Or.inr (own_g hw 60 rfl)) (Or.inr (own_g hw 67 rfl)) (by decide) (t := (.object "java/lang/String")) (t' := (.object "java/lang/String")) (by decide) (by decide))))
  have q195 := (((Fw181.other W183 (Or.inr (slot_ne (Or.inr (own_g hw 62 rfl)) (Or.inr (own_g hw 64 rfl)) (by decide) (t := (.object "java/lang/String")) (t' := .long) (by decide) (by decide)))).ext E186).other W190 (Or.inr (slot_ne (Or.inr (own_g hw 62 rfl)) (Or.inr (own_g hw 67 rfl)) (by decide) (t := (.object "java/lang/String")) (t' := (.object "java/lang/String")) (by decide) (by decide))))
  have q196 := ((Fw183.ext E186).other W190 (Or.inr (slot_ne (Or.inr (own_g hw 64 rfl)) (Or.inr (own_g hw 67 rfl)) (by decide) (t := .long) (t' := (.object "java/lang/String")) (by decide) (by decide))))
  show OGo p e below _ T190 (mkF m 41 #[.val (.ref o), .val (.ref a1), .val (.ref a2), .val (.long v), .second, .val (.ref a3)] [])
  exact OGo.retHV X190 hx hZ186 (own_hEL hw) hs0 e190 hS186 (Nat.le_trans hk186 (Nat.le_of_eq W190.size.symm)) H190 R190 hret hlk (hb hby d7_1_41) (by decide) (by decide) (by exact ⟨rfl, N190, KK190, (q192.wr W190), q194, q195, q196, Fw190⟩)
theorem d7_7_0 : DK prog_7_method_7_code 0 (.new 48) 3 := by decide +kernel
theorem d7_7_3 : DK prog_7_method_7_code 3 .dup 1 := by decide +kernel
theorem opd_31 : parseMethodDescriptor "()V" = some ⟨[], none⟩ := by decide +kernel
theorem d7_7_4 : DK prog_7_method_7_code 4 (.invokespecial 50) 3 := by decide +kernel
theorem d7_7_7 : DK prog_7_method_7_code 7 (.ldc 66) 2 := by decide +kernel
theorem opd_32 : parseMethodDescriptor "(Ljava/lang/String;)Ljava/lang/StringBuilder;" = some ⟨[(.object "java/lang/String")], some (.object "java/lang/StringBuilder")⟩ := by decide +kernel
theorem d7_7_9 : DK prog_7_method_7_code 9 (.invokevirtual 53) 3 := by decide +kernel
theorem d7_7_12 : DK prog_7_method_7_code 12 (.aload_n 0) 1 := by decide +kernel
theorem d7_7_13 : DK prog_7_method_7_code 13 (.getfield 17) 3 := by decide +kernel
theorem d7_7_16 : DK prog_7_method_7_code 16 (.invokevirtual 53) 3 := by decide +kernel
theorem d7_7_19 : DK prog_7_method_7_code 19 (.ldc 68) 2 := by decide +kernel
theorem d7_7_21 : DK prog_7_method_7_code 21 (.invokevirtual 53) 3 := by decide +kernel
theorem d7_7_24 : DK prog_7_method_7_code 24 (.aload_n 0) 1 := by decide +kernel
theorem d7_7_25 : DK prog_7_method_7_code 25 (.getfield 22) 3 := by decide +kernel
theorem d7_7_28 : DK prog_7_method_7_code 28 (.invokevirtual 53) 3 := by decide +kernel
theorem d7_7_31 : DK prog_7_method_7_code 31 (.ldc 70) 2 := by decide +kernel
theorem d7_7_33 : DK prog_7_method_7_code 33 (.invokevirtual 53) 3 := by decide +kernel
theorem d7_7_36 : DK prog_7_method_7_code 36 (.aload_n 0) 1 := by decide +kernel
theorem d7_7_37 : DK prog_7_method_7_code 37 (.getfield 25) 3 := by decide +kernel
theorem opd_33 : parseMethodDescriptor "(J)Ljava/lang/StringBuilder;" = some ⟨[.long], some (.object "java/lang/StringBuilder")⟩ := by decide +kernel
theorem d7_7_40 : DK prog_7_method_7_code 40 (.invokevirtual 72) 3 := by decide +kernel
theorem d7_7_43 : DK prog_7_method_7_code 43 (.ldc 75) 2 := by decide +kernel
theorem d7_7_45 : DK prog_7_method_7_code 45 (.invokevirtual 53) 3 := by decide +kernel
theorem d7_7_48 : DK prog_7_method_7_code 48 (.aload_n 0) 1 := by decide +kernel
theorem d7_7_49 : DK prog_7_method_7_code 49 (.getfield 31) 3 := by decide +kernel
theorem d7_7_52 : DK prog_7_method_7_code 52 (.invokevirtual 53) 3 := by decide +kernel
theorem d7_7_55 : DK prog_7_method_7_code 55 (.ldc 77) 2 := by decide +kernel
theorem d7_7_57 : DK prog_7_method_7_code 57 (.invokevirtual 53) 3 := by decide +kernel
theorem opd_34 : parseMethodDescriptor "()Ljava/lang/String;" = some ⟨[], some (.object "java/lang/String")⟩ := by decide +kernel
theorem d7_7_60 : DK prog_7_method_7_code 60 (.invokevirtual 59) 3 := by decide +kernel
theorem d7_7_63 : DK prog_7_method_7_code 63 .areturn 1 := by decide +kernel
theorem opl_rm_tsN : plainFor (⟨"com/example/drain_shards/drainshards/Lease", "toString", "()Ljava/lang/String;"⟩ : MethodName) = true := plainFor_of_name (by first | (simp [plainName, overriddenIn]; done) | decide +kernel)
theorem rm_tsN (l : Launch) (Z : State) (a0 : Array Value) (hw : ∀ d ∈ tables_1, d.before a0 Z = true) (ws : List Jvm.Cond) (o a1 e1 a2 e2 a3 e3 : Addr) (k1 k2 k3 : ClassId) (ks os cs : List Value) (v : Int64) (n : Nat) (zc : Int32) (wf : Value) (n0 : Nat) (d1 d2 : Addr) (kd1 kd2 : ClassId) (h0 : Heap) (SS : own_SS Z zc wf) (O : Old Z n0 h0) (SI : own_SI Z d1 d2 kd1 kd2) (hm : own_mag v n) (I : STI Z h0 a1 e1 k1 ks) (I3 : STI Z h0 a3 e3 k3 cs) (hks : ks.length = 2) (hcs : cs.length = 2) (F0 : Fld Z h0 o "com/example/drain_shards/drainshards/Lease" "leaseKey" "Ljava/lang/String;" (.ref a1)) (F1 : Fld Z h0 o "com/example/drain_shards/drainshards/Lease" "leaseOwner" "Ljava/lang/String;" .null) (F2 : Fld Z h0 o "com/example/drain_shards/drainshards/Lease" "leaseCounter" "J" (.long v)) (F3 : Fld Z h0 o "com/example/drain_shards/drainshards/Lease" "checkpoint" "Ljava/lang/String;" (.ref a3)) :
    ConH l Z own_EL (⟨"com/example/drain_shards/drainshards/Lease", "toString", "()Ljava/lang/String;"⟩ : MethodName) prog_7_method_7_code 1 (some (.object "java/lang/String")) ws ({ frames := 7, cells := 23, slots := 1544, locals := 103 } : Room) #[(.ref o)] h0 (fun v' h L => ∃ x r k', v' = some (.ref x) ∧ h0.size ≤ x ∧ Fr n0 L ∧ Keep h0 h [] ∧ STI Z h x r k' (own_l66 ++ ks ++ own_l68 ++ own_nul ++ own_l70 ++ own_num v n ++ own_l75 ++ cs ++ own_l77)) := by
  refine ConH.intro opl_rm_tsN ?_
  intro p e s m below meth c s₁ hx hby hml hown hret hlk hZ hnm X0 e0 hs0 hS0 H0 R0
  have SS' := SS
  obtain ⟨hzc, SC, hwf, SF⟩ := SS
  have Z0 : n0 ≤ h0.size := O.1 ▸ O.2.1
  have N0 := Fr.nil n0
  obtain ⟨P1, P2, P3, P4⟩ := own_wlp hm.1
  have hsg := own_sgle v
  obtain ⟨IE, IC, IF, IV⟩ := I
  obtain ⟨I3E, I3C, I3F, I3V⟩ := I3
  refine OGo.cast (g' := (mkF m 0 #[.val (.ref o)] [])) (by first | (simp [entryFrame, mkF, argsToLocals, Value.category]; done) | rfl) ?_
  obtain ⟨T197, h197, X197, e197, E197, A197, D197, UN197, st197⟩ := newO X0 hx hZ hown (own_g hw 73 rfl) (own_g hw 74 rfl) (own_g hw 75 rfl) e0 (g := (mkF m 0 #[.val (.ref o)] [])) rfl (hb hby d7_7_0) (by decide) (by decide)
  obtain ⟨b197, g197⟩ : ∃ z, z = h0.size := ⟨_, rfl⟩
  rw [← g197] at A197 D197 UN197 st197
  have sz_b197 : h0.size ≤ b197 := Nat.le_trans (Keep.refl h0 []).1 (Nat.le_of_eq g197.symm)
  have KK197 : Keep h0 h197 [] := (Keep.refl h0 []).ext E197
  have H197 := CHv.ext E197 H0
  have R197 := CHr.trans R0 (CHr.ext E197 H0)
  have F197_value : Fld Z h197 b197 "java/lang/AbstractStringBuilder" "value" "[B" .null := D197 (Or.inl (own_g hw 88 rfl)) (ty := (.array .byte)) (by decide)
  have F197_coder : Fld Z h197 b197 "java/lang/AbstractStringBuilder" "coder" "B" (.int (0 : Int32)) := D197 (Or.inl (own_g hw 90 rfl)) (ty := .byte) (by decide)
  have F197_count : Fld Z h197 b197 "java/lang/AbstractStringBuilder" "count" "I" (.int (0 : Int32)) := D197 (Or.inl (own_g hw 113 rfl)) (ty := .int) (by decide)
  refine og st197 ?_
  refine og (fun _ k => XS.dup X197.here hx rfl (hb hby d7_7_3) rfl rfl k) ?_
  have q198 := (Safe.ext E197 H0 (Safe.new (Nat.le_of_eq g197.symm)))
  obtain ⟨v199, T199, L199, X199, hQ199, st199⟩ := icall X197 hx hZ rfl hown (own_g hw 76 rfl) (own_g hw 77 rfl) (own_g hw 75 rfl) (own_g hw 78 rfl) (by decide) (W := 1) (rm_sbInit l Z a0 hw [] b197 zc wf n0 h197 SS' (O.ext E197) A197 F197_value F197_coder F197_count (Nat.le_trans Z0 sz_b197)) e197 (by decide) (by decide) (by decide) (by decide) (g := (mkF m 4 #[.val (.ref o)] [(.ref b197), (.ref b197)])) rfl (by rw [hml]; rfl) (a := b197) (argsL := []) (rest := [(.ref b197)]) opd_31 rfl rfl rfl (by show 2 * 0 + _ ≤ _; exact Nat.le_of_eq rfl) (hb hby d7_7_4)
  obtain ⟨rfl, N199, K199, d199, k199, sd199, J199⟩ := hQ199
  have NN199 := Fr.app N0 N199
  have KK199 : Keep h0 T199.heap [] := KK197.trans K199 (allS (Or.inr sz_b197) all0)
  have H199 := CHv.keep K199 (sfS q198 sf0) H197
  have R199 := CHr.trans R197 (CHr.keep K199 (sfS q198 sf0) H197)
  have sz_d199 : h0.size ≤ d199 := Nat.le_trans KK197.1 sd199
  refine og st199 ?_
  obtain ⟨JE199, JF199, JC199, JN199, JV199, JX199⟩ := J199
  have nb199 : b197 ≠ d199 := JE199.neArv JV199 (own_g hw 74 rfl)
  have hz199 : (16 : Nat) = 16 ∨ (16 : Nat) = 34 ∨ (16 : Nat) = 70 := Or.inl rfl
  have hl199 : ([] : List Value).length = 0 := rfl
  have hb199 : ([] : List Value).length ≤ 16 := Nat.zero_le _
  obtain ⟨a200, T200, h200, kk200, d200, kd200, X200, e200, E200, hS200, hk200, hZ200, hown200, A200, C200, F200, V200, lt200, ltd200, CR200, Li200, sf200, st200⟩ := ldcCH X199 hx hZ hown (own_g hw 91 rfl) (own_wS hw) rfl hS0 (Nat.le_trans (Nat.le_trans (Nat.zero_le _) E197.1) K199.1) (own_hEL hw) (List.mem_of_getElem? (i := 2) rfl) H199 (vs := [(.int (108 : Int32)), (.int (101 : Int32)), (.int (97 : Int32)), (.int (115 : Int32)), (.int (101 : Int32)), (.int (32 : Int32))]) (z := (6 : Int32)) (by decide) (by decide) (by decide) (g := (mkF m 7 #[.val (.ref o)] [(.ref b197)])) rfl (hb hby d7_7_7) (n := 24) (by decide) (by decide) (by decide) (by decide)
  have KK200 : Keep h0 h200 [] := KK199.ext E200
  have H200 := CR200.1
  have R200 := CHr.trans R199 CR200
  refine og st200 ?_
  have LV200 : Arv Z h200 d200 kd200 .byte (Int32.ofNat own_l66.length) own_l66 (.int (0 : Int32)) := V200
  have q201 := (CHr.safe CR200 JV199.lt (Safe.keep K199 (sfS q198 sf0) H197 (Safe.new sd199)))
  have q202 := (((O.ext E197).keep K199 (allS (Nat.le_trans Z0 sz_b197) all0)).ext E200)
  have q203 := (CHr.safe CR200 JF199.lt (Safe.keep K199 (sfS q198 sf0) H197 q198))
  obtain ⟨v204, T204, L204, X204, hQ204, st204⟩ := vcall X200 hx hZ200 hown200 (own_g hw 92 rfl) (own_g hw 93 rfl) (own_g hw 95 rfl) rfl (own_g hw 95 rfl) (own_g hw 94 rfl) (own_g hw 75 rfl) (own_g hw 96 rfl) (by decide) (W := 0) (rm_sbAppG l Z a0 hw [] b197 d199 k199 16 ([] : List Value) a200 d200 kd200 own_l66 zc wf n0 h200 SS' q202 ⟨(JE199.ext E200), (JF199.ext E200), (JC199.ext E200), (JN199.ext E200), (JV199.ext E200), (JX199.ext E200)⟩ (by rcases hz199 with q | q | q <;> omega) hb199 ⟨A200, C200, F200, LV200⟩ (Nat.le_trans Z0 sz_b197) (Nat.le_trans Z0 sz_d199) (by rw [hl199, own_n66]; omega) (Ne.symm (sf200 _ q201).2) (Ne.symm (sf200 _ q203).1)) e200 (by decide) (by decide) (by decide) (by decide) (g := (mkF m 9 #[.val (.ref o)] [(.ref a200), (.ref b197)])) rfl (by rw [hml]; rfl) (JE199.ext E200) (argsL := [(.ref a200)]) (rest := []) opd_32 rfl rfl rfl (by show 2 * 0 + _ ≤ _; exact Nat.le_of_eq rfl) (hb hby d7_7_9)
  obtain ⟨rfl, N204, K204, d204, k204, hd204, J204⟩ := hQ204
  have NN204 := Fr.app NN199 N204
  have KK204 : Keep h0 T204.heap [] := KK200.trans K204 (allS (Or.inr sz_b197) (allS (Or.inr sz_d199) all0))
  have H204 := CHv.keep K204 (sfS q203 (sfS q201 sf0)) H200
  have R204 := CHr.trans R200 (CHr.keep K204 (sfS q203 (sfS q201 sf0)) H200)
  refine og st204 ?_
  obtain ⟨W204, hW204⟩ : ∃ z, z = ([] : List Value) ++ own_l66 := ⟨_, rfl⟩
  have lW204 : W204.length = 0 + 6 := by rw [hW204, List.length_append, hl199, own_n66]
  obtain ⟨z204, ez204⟩ : ∃ z, z = own_cap 16 (([] : List Value).length + own_l66.length) := ⟨_, rfl⟩
  have hz204 : z204 = 16 ∨ z204 = 34 ∨ z204 = 70 := by rw [ez204]; exact own_capin hz199 hb199 (by rw [hl199, own_n66]; omega) (by rw [hl199, own_n66]; intro q; omega)
  have hb204 : W204.length ≤ z204 := by rw [ez204, hW204, List.length_append]; exact own_cap_ge _ _
  rw [← ez204, ← hW204] at J204
  obtain ⟨JE204, JF204, JC204, JN204, JV204, JX204⟩ := J204
  have sz_d204 : h0.size ≤ d204 := hd204.elim (fun q => q ▸ sz_d199) (fun q => Nat.le_trans KK200.1 q)
  have nb204 : b197 ≠ d204 := JE204.neArv JV204 (own_g hw 74 rfl)
  refine og (fun _ k => XS.aloadN X204.here hx rfl (hb hby d7_7_12) rfl rfl k) ?_
  have q206 := ((((F0.ext E197).keep K199 (ninS (Nat.ne_of_lt (Nat.lt_of_lt_of_le F0.lt sz_b197)) nin0)).ext E200).keep K204 (ninS (Nat.ne_of_lt (Nat.lt_of_lt_of_le F0.lt sz_b197)) (ninS (Nat.ne_of_lt (Nat.lt_of_lt_of_le F0.lt sz_d199)) nin0)))
  obtain ⟨T205, X205, e205, st205⟩ := getF X204 hx hZ200 hown200 (host := "") (Or.inl (own_g hw 59 rfl)) Via.refl rfl q206 (g := (mkF m 13 #[.val (.ref o)] [(.ref o), (.ref b197)])) rfl rfl (hb hby d7_7_13)
  refine og st205 ?_
  have q207 := (Safe.keep K204 (sfS q203 (sfS q201 sf0)) H200 (own_safeAlt q201 hd204))
  have q208 := (q202.keep K204 (allS (Nat.le_trans Z0 sz_b197) (allS (Nat.le_trans Z0 sz_d199) all0)))
  have q209 := ((((IE.ext E197).keep K199).ext E200).keep K204)
  have q210 := ((((IC.ext E197).keep K199 (ninS (Nat.ne_of_lt (Nat.lt_of_lt_of_le IE.lt sz_b197)) nin0)).ext E200).keep K204 (ninS (Nat.ne_of_lt (Nat.lt_of_lt_of_le IE.lt sz_b197)) (ninS (Nat.ne_of_lt (Nat.lt_of_lt_of_le IE.lt sz_d199)) nin0)))
  have q211 := ((((IF.ext E197).keep K199 (ninS (Nat.ne_of_lt (Nat.lt_of_lt_of_le IE.lt sz_b197)) nin0)).ext E200).keep K204 (ninS (Nat.ne_of_lt (Nat.lt_of_lt_of_le IE.lt sz_b197)) (ninS (Nat.ne_of_lt (Nat.lt_of_lt_of_le IE.lt sz_d199)) nin0)))
  have q212 := ((((IV.ext E197).keep K199 (ninS (Nat.ne_of_lt (Nat.lt_of_lt_of_le IV.lt sz_b197)) nin0)).ext E200).keep K204 (ninS (Nat.ne_of_lt (Nat.lt_of_lt_of_le IV.lt sz_b197)) (ninS (Nat.ne_of_lt (Nat.lt_of_lt_of_le IV.lt sz_d199)) nin0)))
  have q213 := (Safe.keep K204 (sfS q203 (sfS q201 sf0)) H200 q203)
  obtain ⟨v214, T214, L214, X214, hQ214, st214⟩ := vcall X205 hx hZ200 hown200 (own_g hw 92 rfl) (own_g hw 93 rfl) (own_g hw 95 rfl) rfl (own_g hw 95 rfl) (own_g hw 94 rfl) (own_g hw 75 rfl) (own_g hw 96 rfl) (by decide) (W := 0) (rm_sbAppG l Z a0 hw [] b197 d204 k204 z204 W204 a1 e1 k1 ks zc wf n0 T204.heap SS' q208 ⟨JE204, JF204, JC204, JN204, JV204, JX204⟩ (by rcases hz204 with q | q | q <;> omega) hb204 ⟨q209, q210, q211, q212⟩ (Nat.le_trans Z0 sz_b197) (Nat.le_trans Z0 sz_d204) (by rw [lW204, hks]; omega) (Nat.ne_of_lt (Nat.lt_of_lt_of_le IV.lt sz_d204)) (Nat.ne_of_lt (Nat.lt_of_lt_of_le IE.lt sz_b197))) e205 (by decide) (by decide) (by decide) (by decide) (g := (mkF m 16 #[.val (.ref o)] [(.ref a1), (.ref b197)])) rfl (by rw [hml]; rfl) JE204 (argsL := [(.ref a1)]) (rest := []) opd_32 rfl rfl rfl (by show 2 * 0 + _ ≤ _; exact Nat.le_of_eq rfl) (hb hby d7_7_16)
  obtain ⟨rfl, N214, K214, d214, k214, hd214, J214⟩ := hQ214
  have NN214 := Fr.app NN204 N214
  have KK214 : Keep h0 T214.heap [] := KK204.trans K214 (allS (Or.inr sz_b197) (allS (Or.inr sz_d204) all0))
  have H214 := CHv.keep K214 (sfS q213 (sfS q207 sf0)) H204
  have R214 := CHr.trans R204 (CHr.keep K214 (sfS q213 (sfS q207 sf0)) H204)
  refine og st214 ?_
  obtain ⟨W214, hW214⟩ : ∃ z, z = W204 ++ ks := ⟨_, rfl⟩
  have lW214 : W214.length = 0 + 6 + 2 := by rw [hW214, List.length_append, lW204, hks]
  obtain ⟨z214, ez214⟩ : ∃ z, z = own_cap z204 (W204.length + ks.length) := ⟨_, rfl⟩
  have hz214 : z214 = 16 ∨ z214 = 34 ∨ z214 = 70 := by rw [ez214]; exact own_capin hz204 hb204 (by rw [lW204, hks]; omega) (by rw [lW204, hks]; intro q; omega)
  have hb214 : W214.length ≤ z214 := by rw [ez214, hW214, List.length_append]; exact own_cap_ge _ _
  rw [← ez214, ← hW214] at J214
  obtain ⟨JE214, JF214, JC214, JN214, JV214, JX214⟩ := J214
  have sz_d214 : h0.size ≤ d214 := hd214.elim (fun q => q ▸ sz_d204) (fun q => Nat.le_trans KK204.1 q)
  have nb214 : b197 ≠ d214 := JE214.neArv JV214 (own_g hw 74 rfl)
  obtain ⟨a215, T215, h215, kk215, d215, kd215, X215, e215, E215, hS215, hk215, hZ215, hown215, A215, C215, F215, V215, lt215, ltd215, CR215, Li215, sf215, st215⟩ := ldcCH X214 hx hZ200 hown200 (own_g hw 139 rfl) (own_wS hw) rfl hS200 (Nat.le_trans (Nat.le_trans hk200 K204.1) K214.1) (own_hEL hw) (List.mem_of_getElem? (i := 3) rfl) H214 (vs := [(.int (32 : Int32)), (.int (40 : Int32)), (.int (111 : Int32)), (.int (119 : Int32)), (.int (110 : Int32)), (.int (101 : Int32)), (.int (114 : Int32)), (.int (32 : Int32))]) (z := (8 : Int32)) (by decide) (by decide) (by decide) (g := (mkF m 19 #[.val (.ref o)] [(.ref b197)])) rfl (hb hby d7_7_19) (n := 32) (by decide) (by decide) (by decide) (by decide)
  have KK215 : Keep h0 h215 [] := KK214.ext E215
  have H215 := CR215.1
  have R215 := CHr.trans R214 CR215
  refine og st215 ?_
  have LV215 : Arv Z h215 d215 kd215 .byte (Int32.ofNat own_l68.length) own_l68 (.int (0 : Int32)) := V215
  have q216 := (CHr.safe CR215 JV214.lt (Safe.keep K214 (sfS q213 (sfS q207 sf0)) H204 (own_safeAlt q207 hd214)))
  have q217 := ((q208.keep K214 (allS (Nat.le_trans Z0 sz_b197) (allS (Nat.le_trans Z0 sz_d204) all0))).ext E215)
  have q218 := (CHr.safe CR215 JF214.lt (Safe.keep K214 (sfS q213 (sfS q207 sf0)) H204 q213))
  obtain ⟨v219, T219, L219, X219, hQ219, st219⟩ := vcall X215 hx hZ215 hown215 (own_g hw 92 rfl) (own_g hw 93 rfl) (own_g hw 95 rfl) rfl (own_g hw 95 rfl) (own_g hw 94 rfl) (own_g hw 75 rfl) (own_g hw 96 rfl) (by decide) (W := 0) (rm_sbAppG l Z a0 hw [] b197 d214 k214 z214 W214 a215 d215 kd215 own_l68 zc wf n0 h215 SS' q217 ⟨(JE214.ext E215), (JF214.ext E215), (JC214.ext E215), (JN214.ext E215), (JV214.ext E215), (JX214.ext E215)⟩ (by rcases hz214 with q | q | q <;> omega) hb214 ⟨A215, C215, F215, LV215⟩ (Nat.le_trans Z0 sz_b197) (Nat.le_trans Z0 sz_d214) (by rw [lW214, own_n68]; omega) (Ne.symm (sf215 _ q216).2) (Ne.symm (sf215 _ q218).1)) e215 (by decide) (by decide) (by decide) (by decide) (g := (mkF m 21 #[.val (.ref o)] [(.ref a215), (.ref b197)])) rfl (by rw [hml]; rfl) (JE214.ext E215) (argsL := [(.ref a215)]) (rest := []) opd_32 rfl rfl rfl (by show 2 * 0 + _ ≤ _; exact Nat.le_of_eq rfl) (hb hby d7_7_21)
  obtain ⟨rfl, N219, K219, d219, k219, hd219, J219⟩ := hQ219
  have NN219 := Fr.app NN214 N219
  have KK219 : Keep h0 T219.heap [] := KK215.trans K219 (allS (Or.inr sz_b197) (allS (Or.inr sz_d214) all0))
  have H219 := CHv.keep K219 (sfS q218 (sfS q216 sf0)) H215
  have R219 := CHr.trans R215 (CHr.keep K219 (sfS q218 (sfS q216 sf0)) H215)
  refine og st219 ?_
  obtain ⟨W219, hW219⟩ : ∃ z, z = W214 ++ own_l68 := ⟨_, rfl⟩
  have lW219 : W219.length = 0 + 6 + 2 + 8 := by rw [hW219, List.length_append, lW214, own_n68]
  obtain ⟨z219, ez219⟩ : ∃ z, z = own_cap z214 (W214.length + own_l68.length) := ⟨_, rfl⟩
  have hz219 : z219 = 16 ∨ z219 = 34 ∨ z219 = 70 := by rw [ez219]; exact own_capin hz214 hb214 (by rw [lW214, own_n68]; omega) (by rw [lW214, own_n68]; intro q; omega)
  have hb219 : W219.length ≤ z219 := by rw [ez219, hW219, List.length_append]; exact own_cap_ge _ _
  rw [← ez219, ← hW219] at J219
  obtain ⟨JE219, JF219, JC219, JN219, JV219, JX219⟩ := J219
  have sz_d219 : h0.size ≤ d219 := hd219.elim (fun q => q ▸ sz_d214) (fun q => Nat.le_trans KK215.1 q)
  have nb219 : b197 ≠ d219 := JE219.neArv JV219 (own_g hw 74 rfl)
  refine og (fun _ k => XS.aloadN X219.here hx rfl (hb hby d7_7_24) rfl rfl k) ?_
  have q221 := (((((((F1.ext E197).keep K199 (ninS (Nat.ne_of_lt (Nat.lt_of_lt_of_le F0.lt sz_b197)) nin0)).ext E200).keep K204 (ninS (Nat.ne_of_lt (Nat.lt_of_lt_of_le F0.lt sz_b197)) (ninS (Nat.ne_of_lt (Nat.lt_of_lt_of_le F0.lt sz_d199)) nin0))).keep K214 (ninS (Nat.ne_of_lt (Nat.lt_of_lt_of_le F0.lt sz_b197)) (ninS (Nat.ne_of_lt (Nat.lt_of_lt_of_le F0.lt sz_d204)) nin0))).ext E215).keep K219 (ninS (Nat.ne_of_lt (Nat.lt_of_lt_of_le F0.lt sz_b197)) (ninS (Nat.ne_of_lt (Nat.lt_of_lt_of_le F0.lt sz_d214)) nin0)))
  obtain ⟨T220, X220, e220, st220⟩ := getF X219 hx hZ215 hown215 (host := "") (Or.inl (own_g hw 61 rfl)) Via.refl rfl q221 (g := (mkF m 25 #[.val (.ref o)] [(.ref o), (.ref b197)])) rfl rfl (hb hby d7_7_25)
  refine og st220 ?_
  have q222 := (Safe.keep K219 (sfS q218 (sfS q216 sf0)) H215 (own_safeAlt q216 hd219))
  have q223 := (q217.keep K219 (allS (Nat.le_trans Z0 sz_b197) (allS (Nat.le_trans Z0 sz_d214) all0)))
  have q224 := (Safe.keep K219 (sfS q218 (sfS q216 sf0)) H215 q218)
  obtain ⟨v225, T225, L225, X225, hQ225, st225⟩ := vcall X220 hx hZ215 hown215 (own_g hw 92 rfl) (own_g hw 93 rfl) (own_g hw 95 rfl) rfl (own_g hw 95 rfl) (own_g hw 94 rfl) (own_g hw 75 rfl) (own_g hw 96 rfl) (by decide) (W := 0) (rm_appN l Z a0 hw [] b197 d219 k219 z219 W219 zc wf n0 T219.heap SS' q223 ⟨JE219, JF219, JC219, JN219, JV219, JX219⟩ (by rcases hz219 with q | q | q <;> omega) hb219 (Nat.le_trans Z0 sz_b197) (Nat.le_trans Z0 sz_d219) (by rw [lW219]; omega)) e220 (by decide) (by decide) (by decide) (by decide) (g := (mkF m 28 #[.val (.ref o)] [.null, (.ref b197)])) rfl (by rw [hml]; rfl) JE219 (argsL := [.null]) (rest := []) opd_32 rfl rfl rfl (by show 2 * 0 + _ ≤ _; exact Nat.le_of_eq rfl) (hb hby d7_7_28)
  obtain ⟨rfl, N225, K225, d225, k225, hd225, J225⟩ := hQ225
  have NN225 := Fr.app NN219 N225
  have KK225 : Keep h0 T225.heap [] := KK219.trans K225 (allS (Or.inr sz_b197) (allS (Or.inr sz_d219) all0))
  have H225 := CHv.keep K225 (sfS q224 (sfS q222 sf0)) H219
  have R225 := CHr.trans R219 (CHr.keep K225 (sfS q224 (sfS q222 sf0)) H219)
  refine og st225 ?_
  obtain ⟨W225, hW225⟩ : ∃ z, z = W219 ++ own_nul := ⟨_, rfl⟩
  have lW225 : W225.length = 0 + 6 + 2 + 8 + 4 := by rw [hW225, List.length_append, lW219, own_nnul]
  obtain ⟨z225, ez225⟩ : ∃ z, z = own_cap z219 (W219.length + 4) := ⟨_, rfl⟩
  have hz225 : z225 = 16 ∨ z225 = 34 ∨ z225 = 70 := by rw [ez225]; exact own_capin hz219 hb219 (by rw [lW219]; omega) (by rw [lW219]; intro q; omega)
  have hb225 : W225.length ≤ z225 := by rw [ez225, hW225, List.length_append, own_nnul]; exact own_cap_ge _ _
  rw [← ez225, ← hW225] at J225
  obtain ⟨JE225, JF225, JC225, JN225, JV225, JX225⟩ := J225
  have sz_d225 : h0.size ≤ d225 := hd225.elim (fun q => q ▸ sz_d219) (fun q => Nat.le_trans KK219.1 q)
  have nb225 : b197 ≠ d225 := JE225.neArv JV225 (own_g hw 74 rfl)
  obtain ⟨a226, T226, h226, kk226, d226, kd226, X226, e226, E226, hS226, hk226, hZ226, hown226, A226, C226, F226, V226, lt226, ltd226, CR226, Li226, sf226, st226⟩ := ldcCH X225 hx hZ215 hown215 (own_g hw 163 rfl) (own_wS hw) rfl hS215 (Nat.le_trans (Nat.le_trans hk215 K219.1) K225.1) (own_hEL hw) (List.mem_of_getElem? (i := 4) rfl) H225 (vs := [(.int (44 : Int32)), (.int (32 : Int32)), (.int (99 : Int32)), (.int (111 : Int32)), (.int (117 : Int32)), (.int (110 : Int32)), (.int (116 : Int32)), (.int (101 : Int32)), (.int (114 : Int32)), (.int (32 : Int32))]) (z := (10 : Int32)) (by decide) (by decide) (by decide) (g := (mkF m 31 #[.val (.ref o)] [(.ref b197)])) rfl (hb hby d7_7_31) (n := 40) (by decide) (by decide) (by decide) (by decide)
  have KK226 : Keep h0 h226 [] := KK225.ext E226
  have H226 := CR226.1
  have R226 := CHr.trans R225 CR226
  refine og st226 ?_
  have LV226 : Arv Z h226 d226 kd226 .byte (Int32.ofNat own_l70.length) own_l70 (.int (0 : Int32)) := V226
  have q227 := (CHr.safe CR226 JV225.lt (Safe.keep K225 (sfS q224 (sfS q222 sf0)) H219 (own_safeAlt q222 hd225)))
  have q228 := ((q223.keep K225 (allS (Nat.le_trans Z0 sz_b197) (allS (Nat.le_trans Z0 sz_d219) all0))).ext E226)
  have q229 := (CHr.safe CR226 JF225.lt (Safe.keep K225 (sfS q224 (sfS q222 sf0)) H219 q224))
  obtain ⟨v230, T230, L230, X230, hQ230, st230⟩ := vcall X226 hx hZ226 hown226 (own_g hw 92 rfl) (own_g hw 93 rfl) (own_g hw 95 rfl) rfl (own_g hw 95 rfl) (own_g hw 94 rfl) (own_g hw 75 rfl) (own_g hw 96 rfl) (by decide) (W := 0) (rm_sbAppG l Z a0 hw [] b197 d225 k225 z225 W225 a226 d226 kd226 own_l70 zc wf n0 h226 SS' q228 ⟨(JE225.ext E226), (JF225.ext E226), (JC225.ext E226), (JN225.ext E226), (JV225.ext E226), (JX225.ext E226)⟩ (by rcases hz225 with q | q | q <;> omega) hb225 ⟨A226, C226, F226, LV226⟩ (Nat.le_trans Z0 sz_b197) (Nat.le_trans Z0 sz_d225) (by rw [lW225, own_n70]; omega) (Ne.symm (sf226 _ q227).2) (Ne.symm (sf226 _ q229).1)) e226 (by decide) (by decide) (by decide) (by decide) (g := (mkF m 33 #[.val (.ref o)] [(.ref a226), (.ref b197)])) rfl (by rw [hml]; rfl) (JE225.ext E226) (argsL := [(.ref a226)]) (rest := []) opd_32 rfl rfl rfl (by show 2 * 0 + _ ≤ _; exact Nat.le_of_eq rfl) (hb hby d7_7_33)
  obtain ⟨rfl, N230, K230, d230, k230, hd230, J230⟩ := hQ230
  have NN230 := Fr.app NN225 N230
  have KK230 : Keep h0 T230.heap [] := KK226.trans K230 (allS (Or.inr sz_b197) (allS (Or.inr sz_d225) all0))
  have H230 := CHv.keep K230 (sfS q229 (sfS q227 sf0)) H226
  have R230 := CHr.trans R226 (CHr.keep K230 (sfS q229 (sfS q227 sf0)) H226)
  refine og st230 ?_
  obtain ⟨W230, hW230⟩ : ∃ z, z = W225 ++ own_l70 := ⟨_, rfl⟩
  have lW230 : W230.length = 0 + 6 + 2 + 8 + 4 + 10 := by rw [hW230, List.length_append, lW225, own_n70]
  obtain ⟨z230, ez230⟩ : ∃ z, z = own_cap z225 (W225.length + own_l70.length) := ⟨_, rfl⟩
  have hz230 : z230 = 16 ∨ z230 = 34 ∨ z230 = 70 := by rw [ez230]; exact own_capin hz225 hb225 (by rw [lW225, own_n70]; omega) (by rw [lW225, own_n70]; intro q; omega)
  have hb230 : W230.length ≤ z230 := by rw [ez230, hW230, List.length_append]; exact own_cap_ge _ _
  rw [← ez230, ← hW230] at J230
  obtain ⟨JE230, JF230, JC230, JN230, JV230, JX230⟩ := J230
  have sz_d230 : h0.size ≤ d230 := hd230.elim (fun q => q ▸ sz_d225) (fun q => Nat.le_trans KK226.1 q)
  have nb230 : b197 ≠ d230 := JE230.neArv JV230 (own_g hw 74 rfl)
  refine og (fun _ k => XS.aloadN X230.here hx rfl (hb hby d7_7_36) rfl rfl k) ?_
  have q232 := ((((((((((F2.ext E197).keep K199 (ninS (Nat.ne_of_lt (Nat.lt_of_lt_of_le F0.lt sz_b197)) nin0)).ext E200).keep K204 (ninS (Nat.ne_of_lt (Nat.lt_of_lt_of_le F0.lt sz_b197)) (ninS (Nat.ne_of_lt (Nat.lt_of_lt_of_le F0.lt sz_d199)) nin0))).keep K214 (ninS (Nat.ne_of_lt (Nat.lt_of_lt_of_le F0.lt sz_b197)) (ninS (Nat.ne_of_lt (Nat.lt_of_lt_of_le F0.lt sz_d204)) nin0))).ext E215).keep K219 (ninS (Nat.ne_of_lt (Nat.lt_of_lt_of_le F0.lt sz_b197)) (ninS (Nat.ne_of_lt (Nat.lt_of_lt_of_le F0.lt sz_d214)) nin0))).keep K225 (ninS (Nat.ne_of_lt (Nat.lt_of_lt_of_le F0.lt sz_b197)) (ninS (Nat.ne_of_lt (Nat.lt_of_lt_of_le F0.lt sz_d219)) nin0))).ext E226).keep K230 (ninS (Nat.ne_of_lt (Nat.lt_of_lt_of_le F0.lt sz_b197)) (ninS (Nat.ne_of_lt (Nat.lt_of_lt_of_le F0.lt sz_d225)) nin0)))
  obtain ⟨T231, X231, e231, st231⟩ := getF X230 hx hZ226 hown226 (host := "") (Or.inl (own_g hw 63 rfl)) Via.refl rfl q232 (g := (mkF m 37 #[.val (.ref o)] [(.ref o), (.ref b197)])) rfl rfl (hb hby d7_7_37)
  refine og st231 ?_
  have q233 := (Safe.keep K230 (sfS q229 (sfS q227 sf0)) H226 (own_safeAlt q227 hd230))
  have q234 := (q228.keep K230 (allS (Nat.le_trans Z0 sz_b197) (allS (Nat.le_trans Z0 sz_d225) all0)))
  have q235 := (Safe.keep K230 (sfS q229 (sfS q227 sf0)) H226 q229)
  obtain ⟨v236, T236, L236, X236, hQ236, st236⟩ := vcall X231 hx hZ226 hown226 (own_g hw 164 rfl) (own_g hw 165 rfl) (own_g hw 167 rfl) rfl (own_g hw 167 rfl) (own_g hw 166 rfl) (own_g hw 75 rfl) (own_g hw 168 rfl) (by decide) (W := 0) (rm_appJ l Z a0 hw [] v n b197 d230 k230 z230 W230 zc wf n0 d1 d2 kd1 kd2 T230.heap SS' q234 SI hm ⟨JE230, JF230, JC230, JN230, JV230, JX230⟩ (by rcases hz230 with q | q | q <;> omega) hb230 (Nat.le_trans Z0 sz_b197) (Nat.le_trans Z0 sz_d230) (by rw [lW230]; omega)) e231 (by decide) (by decide) (by decide) (by decide) (g := (mkF m 40 #[.val (.ref o)] [(.long v), (.ref b197)])) rfl (by rw [hml]; rfl) JE230 (argsL := [(.long v)]) (rest := []) opd_33 rfl rfl rfl (by show 2 * 0 + _ ≤ _; exact Nat.le_of_eq rfl) (hb hby d7_7_40)
  obtain ⟨rfl, N236, K236, d236, k236, hd236, J236⟩ := hQ236
  have NN236 := Fr.app NN230 N236
  have KK236 : Keep h0 T236.heap [] := KK230.trans K236 (allS (Or.inr sz_b197) (allS (Or.inr sz_d230) all0))
  have H236 := CHv.keep K236 (sfS q235 (sfS q233 sf0)) H230
  have R236 := CHr.trans R230 (CHr.keep K236 (sfS q235 (sfS q233 sf0)) H230)
  refine og st236 ?_
  obtain ⟨W236, hW236⟩ : ∃ z, z = W230 ++ own_num v n := ⟨_, rfl⟩
  have lW236 : W236.length = 0 + 6 + 2 + 8 + 4 + 10 + (own_wl n + own_sg v) := by rw [hW236, List.length_append, lW230, own_numlen]
  obtain ⟨z236, ez236⟩ : ∃ z, z = own_cap z230 (W230.length + (own_wl n + own_sg v)) := ⟨_, rfl⟩
  have hz236 : z236 = 16 ∨ z236 = 34 ∨ z236 = 70 := by rw [ez236]; exact own_capin hz230 hb230 (by rw [lW230]; omega) (by rw [lW230]; intro q; omega)
  have hb236 : W236.length ≤ z236 := by rw [ez236, hW236, List.length_append, own_numlen]; exact own_cap_ge _ _
  rw [← ez236, ← hW236] at J236
  obtain ⟨JE236, JF236, JC236, JN236, JV236, JX236⟩ := J236
  have sz_d236 : h0.size ≤ d236 := hd236.elim (fun q => q ▸ sz_d230) (fun q => Nat.le_trans KK230.1 q)
  have nb236 : b197 ≠ d236 := JE236.neArv JV236 (own_g hw 74 rfl)
  obtain ⟨a237, T237, h237, kk237, d237, kd237, X237, e237, E237, hS237, hk237, hZ237, hown237, A237, C237, F237, V237, lt237, ltd237, CR237, Li237, sf237, st237⟩ := ldcCH X236 hx hZ226 hown226 (own_g hw 189 rfl) (own_wS hw) rfl hS226 (Nat.le_trans (Nat.le_trans hk226 K230.1) K236.1) (own_hEL hw) (List.mem_of_getElem? (i := 5) rfl) H236 (vs := [(.int (44 : Int32)), (.int (32 : Int32)), (.int (99 : Int32)), (.int (104 : Int32)), (.int (101 : Int32)), (.int (99 : Int32)), (.int (107 : Int32)), (.int (112 : Int32)), (.int (111 : Int32)), (.int (105 : Int32)), (.int (110 : Int32)), (.int (116 : Int32)), (.int (32 : Int32))]) (z := (13 : Int32)) (by decide) (by decide) (by decide) (g := (mkF m 43 #[.val (.ref o)] [(.ref b197)])) rfl (hb hby d7_7_43) (n := 52) (by decide) (by decide) (by decide) (by decide)
  have KK237 : Keep h0 h237 [] := KK236.ext E237
  have H237 := CR237.1
  have R237 := CHr.trans R236 CR237
  refine og st237 ?_
  have LV237 : Arv Z h237 d237 kd237 .byte (Int32.ofNat own_l75.length) own_l75 (.int (0 : Int32)) := V237
  have q238 := (CHr.safe CR237 JV236.lt (Safe.keep K236 (sfS q235 (sfS q233 sf0)) H230 (own_safeAlt q233 hd236)))
  have q239 := ((q234.keep K236 (allS (Nat.le_trans Z0 sz_b197) (allS (Nat.le_trans Z0 sz_d230) all0))).ext E237)
  have q240 := (CHr.safe CR237 JF236.lt (Safe.keep K236 (sfS q235 (sfS q233 sf0)) H230 q235))
  obtain ⟨v241, T241, L241, X241, hQ241, st241⟩ := vcall X237 hx hZ237 hown237 (own_g hw 92 rfl) (own_g hw 93 rfl) (own_g hw 95 rfl) rfl (own_g hw 95 rfl) (own_g hw 94 rfl) (own_g hw 75 rfl) (own_g hw 96 rfl) (by decide) (W := 0) (rm_sbAppG l Z a0 hw [] b197 d236 k236 z236 W236 a237 d237 kd237 own_l75 zc wf n0 h237 SS' q239 ⟨(JE236.ext E237), (JF236.ext E237), (JC236.ext E237), (JN236.ext E237), (JV236.ext E237), (JX236.ext E237)⟩ (by rcases hz236 with q | q | q <;> omega) hb236 ⟨A237, C237, F237, LV237⟩ (Nat.le_trans Z0 sz_b197) (Nat.le_trans Z0 sz_d236) (by rw [lW236, own_n75]; omega) (Ne.symm (sf237 _ q238).2) (Ne.symm (sf237 _ q240).1)) e237 (by decide) (by decide) (by decide) (by decide) (g := (mkF m 45 #[.val (.ref o)] [(.ref a237), (.ref b197)])) rfl (by rw [hml]; rfl) (JE236.ext E237) (argsL := [(.ref a237)]) (rest := []) opd_32 rfl rfl rfl (by show 2 * 0 + _ ≤ _; exact Nat.le_of_eq rfl) (hb hby d7_7_45)
  obtain ⟨rfl, N241, K241, d241, k241, hd241, J241⟩ := hQ241
  have NN241 := Fr.app NN236 N241
  have KK241 : Keep h0 T241.heap [] := KK237.trans K241 (allS (Or.inr sz_b197) (allS (Or.inr sz_d236) all0))
  have H241 := CHv.keep K241 (sfS q240 (sfS q238 sf0)) H237
  have R241 := CHr.trans R237 (CHr.keep K241 (sfS q240 (sfS q238 sf0)) H237)
  refine og st241 ?_
  obtain ⟨W241, hW241⟩ : ∃ z, z = W236 ++ own_l75 := ⟨_, rfl⟩
  have lW241 : W241.length = 0 + 6 + 2 + 8 + 4 + 10 + (own_wl n + own_sg v) + 13 := by rw [hW241, List.length_append, lW236, own_n75]
  obtain ⟨z241, ez241⟩ : ∃ z, z = own_cap z236 (W236.length + own_l75.length) := ⟨_, rfl⟩
  have hz241 : z241 = 16 ∨ z241 = 34 ∨ z241 = 70 := by rw [ez241]; exact own_capin hz236 hb236 (by rw [lW236, own_n75]; omega) (by rw [lW236, own_n75]; intro q; omega)
  have hb241 : W241.length ≤ z241 := by rw [ez241, hW241, List.length_append]; exact own_cap_ge _ _
  rw [← ez241, ← hW241] at J241
  obtain ⟨JE241, JF241, JC241, JN241, JV241, JX241⟩ := J241
  have sz_d241 : h0.size ≤ d241 := hd241.elim (fun q => q ▸ sz_d236) (fun q => Nat.le_trans KK237.1 q)
  have nb241 : b197 ≠ d241 := JE241.neArv JV241 (own_g hw 74 rfl)
  refine og (fun _ k => XS.aloadN X241.here hx rfl (hb hby d7_7_48) rfl rfl k) ?_
  have q243 := (((((((((((((F3.ext E197).keep K199 (ninS (Nat.ne_of_lt (Nat.lt_of_lt_of_le F0.lt sz_b197)) nin0)).ext E200).keep K204 (ninS (Nat.ne_of_lt (Nat.lt_of_lt_of_le F0.lt sz_b197)) (ninS (Nat.ne_of_lt (Nat.lt_of_lt_of_le F0.lt sz_d199)) nin0))).keep K214 (ninS (Nat.ne_of_lt (Nat.lt_of_lt_of_le F0.lt sz_b197)) (ninS (Nat.ne_of_lt (Nat.lt_of_lt_of_le F0.lt sz_d204)) nin0))).ext E215).keep K219 (ninS (Nat.ne_of_lt (Nat.lt_of_lt_of_le F0.lt sz_b197)) (ninS (Nat.ne_of_lt (Nat.lt_of_lt_of_le F0.lt sz_d214)) nin0))).keep K225 (ninS (Nat.ne_of_lt (Nat.lt_of_lt_of_le F0.lt sz_b197)) (ninS (Nat.ne_of_lt (Nat.lt_of_lt_of_le F0.lt sz_d219)) nin0))).ext E226).keep K230 (ninS (Nat.ne_of_lt (Nat.lt_of_lt_of_le F0.lt sz_b197)) (ninS (Nat.ne_of_lt (Nat.lt_of_lt_of_le F0.lt sz_d225)) nin0))).keep K236 (ninS (Nat.ne_of_lt (Nat.lt_of_lt_of_le F0.lt sz_b197)) (ninS (Nat.ne_of_lt (Nat.lt_of_lt_of_le F0.lt sz_d230)) nin0))).ext E237).keep K241 (ninS (Nat.ne_of_lt (Nat.lt_of_lt_of_le F0.lt sz_b197)) (ninS (Nat.ne_of_lt (Nat.lt_of_lt_of_le F0.lt sz_d236)) nin0)))
  obtain ⟨T242, X242, e242, st242⟩ := getF X241 hx hZ237 hown237 (host := "") (Or.inl (own_g hw 66 rfl)) Via.refl rfl q243 (g := (mkF m 49 #[.val (.ref o)] [(.ref o), (.ref b197)])) rfl rfl (hb hby d7_7_49)
  refine og st242 ?_
  have q244 := (Safe.keep K241 (sfS q240 (sfS q238 sf0)) H237 (own_safeAlt q238 hd241))
  have q245 := (q239.keep K241 (allS (Nat.le_trans Z0 sz_b197) (allS (Nat.le_trans Z0 sz_d236) all0)))
  have q246 := (((((((((((((I3E.ext E197).keep K199).ext E200).keep K204).keep K214).ext E215).keep K219).keep K225).ext E226).keep K230).keep K236).ext E237).keep K241)
  have q247 := (((((((((((((I3C.ext E197).keep K199 (ninS (Nat.ne_of_lt (Nat.lt_of_lt_of_le I3E.lt sz_b197)) nin0)).ext E200).keep K204 (ninS (Nat.ne_of_lt (Nat.lt_of_lt_of_le I3E.lt sz_b197)) (ninS (Nat.ne_of_lt (Nat.lt_of_lt_of_le I3E.lt sz_d199)) nin0))).keep K214 (ninS (Nat.ne_of_lt (Nat.lt_of_lt_of_le I3E.lt sz_b197)) (ninS (Nat.ne_of_lt (Nat.lt_of_lt_of_le I3E.lt sz_d204)) nin0))).ext E215).keep K219 (ninS (Nat.ne_of_lt (Nat.lt_of_lt_of_le I3E.lt sz_b197)) (ninS (Nat.ne_of_lt (Nat.lt_of_lt_of_le I3E.lt sz_d214)) nin0))).keep K225 (ninS (Nat.ne_of_lt (Nat.lt_of_lt_of_le I3E.lt sz_b197)) (ninS (Nat.ne_of_lt (Nat.lt_of_lt_of_le I3E.lt sz_d219)) nin0))).ext E226).keep K230 (ninS (Nat.ne_of_lt (Nat.lt_of_lt_of_le I3E.lt sz_b197)) (ninS (Nat.ne_of_lt (Nat.lt_of_lt_of_le I3E.lt sz_d225)) nin0))).keep K236 (ninS (Nat.ne_of_lt (Nat.lt_of_lt_of_le I3E.lt sz_b197)) (ninS (Nat.ne_of_lt (Nat.lt_of_lt_of_le I3E.lt sz_d230)) nin0))).ext E237).keep K241 (ninS (Nat.ne_of_lt (Nat.lt_of_lt_of_le I3E.lt sz_b197)) (ninS (Nat.ne_of_lt (Nat.lt_of_lt_of_le I3E.lt sz_d236)) nin0)))
  have q248 := (((((((((((((I3F.ext E197).keep K199 (ninS (Nat.ne_of_lt (Nat.lt_of_lt_of_le I3E.lt sz_b197)) nin0)).ext E200).keep K204 (ninS (Nat.ne_of_lt (Nat.lt_of_lt_of_le I3E.lt sz_b197)) (ninS (Nat.ne_of_lt (Nat.lt_of_lt_of_le I3E.lt sz_d199)) nin0))).keep K214 (ninS (Nat.ne_of_lt (Nat.lt_of_lt_of_le I3E.lt sz_b197)) (ninS (Nat.ne_of_lt (Nat.lt_of_lt_of_le I3E.lt sz_d204)) nin0))).ext E215).keep K219 (ninS (Nat.ne_of_lt (Nat.lt_of_lt_of_le I3E.lt sz_b197)) (ninS (Nat.ne_of_lt (Nat.lt_of_lt_of_le I3E.lt sz_d214)) nin0))).keep K225 (ninS (Nat.ne_of_lt (Nat.lt_of_lt_of_le I3E.lt sz_b197)) (ninS (Nat.ne_of_lt (Nat.lt_of_lt_of_le I3E.lt sz_d219)) nin0))).ext E226).keep K230 (ninS (Nat.ne_of_lt (Nat.lt_of_lt_of_le I3E.lt sz_b197)) (ninS (Nat.ne_of_lt (Nat.lt_of_lt_of_le I3E.lt sz_d225)) nin0))).keep K236 (ninS (Nat.ne_of_lt (Nat.lt_of_lt_of_le I3E.lt sz_b197)) (ninS (Nat.ne_of_lt (Nat.lt_of_lt_of_le I3E.lt sz_d230)) nin0))).ext E237).keep K241 (ninS (Nat.ne_of_lt (Nat.lt_of_lt_of_le I3E.lt sz_b197)) (ninS (Nat.ne_of_lt (Nat.lt_of_lt_of_le I3E.lt sz_d236)) nin0)))
  have q249 := (((((((((((((I3V.ext E197).keep K199 (ninS (Nat.ne_of_lt (Nat.lt_of_lt_of_le I3V.lt sz_b197)) nin0)).ext E200).keep K204 (ninS (Nat.ne_of_lt (Nat.lt_of_lt_of_le I3V.lt sz_b197)) (ninS (Nat.ne_of_lt (Nat.lt_of_lt_of_le I3V.lt sz_d199)) nin0))).keep K214 (ninS (Nat.ne_of_lt (Nat.lt_of_lt_of_le I3V.lt sz_b197)) (ninS (Nat.ne_of_lt (Nat.lt_of_lt_of_le I3V.lt sz_d204)) nin0))).ext E215).keep K219 (ninS (Nat.ne_of_lt (Nat.lt_of_lt_of_le I3V.lt sz_b197)) (ninS (Nat.ne_of_lt (Nat.lt_of_lt_of_le I3V.lt sz_d214)) nin0))).keep K225 (ninS (Nat.ne_of_lt (Nat.lt_of_lt_of_le I3V.lt sz_b197)) (ninS (Nat.ne_of_lt (Nat.lt_of_lt_of_le I3V.lt sz_d219)) nin0))).ext E226).keep K230 (ninS (Nat.ne_of_lt (Nat.lt_of_lt_of_le I3V.lt sz_b197)) (ninS (Nat.ne_of_lt (Nat.lt_of_lt_of_le I3V.lt sz_d225)) nin0))).keep K236 (ninS (Nat.ne_of_lt (Nat.lt_of_lt_of_le I3V.lt sz_b197)) (ninS (Nat.ne_of_lt (Nat.lt_of_lt_of_le I3V.lt sz_d230)) nin0))).ext E237).keep K241 (ninS (Nat.ne_of_lt (Nat.lt_of_lt_of_le I3V.lt sz_b197)) (ninS (Nat.ne_of_lt (Nat.lt_of_lt_of_le I3V.lt sz_d236)) nin0)))
  have q250 := (Safe.keep K241 (sfS q240 (sfS q238 sf0)) H237 q240)
  obtain ⟨v251, T251, L251, X251, hQ251, st251⟩ := vcall X242 hx hZ237 hown237 (own_g hw 92 rfl) (own_g hw 93 rfl) (own_g hw 95 rfl) rfl (own_g hw 95 rfl) (own_g hw 94 rfl) (own_g hw 75 rfl) (own_g hw 96 rfl) (by decide) (W := 0) (rm_sbAppG l Z a0 hw [] b197 d241 k241 z241 W241 a3 e3 k3 cs zc wf n0 T241.heap SS' q245 ⟨JE241, JF241, JC241, JN241, JV241, JX241⟩ (by rcases hz241 with q | q | q <;> omega) hb241 ⟨q246, q247, q248, q249⟩ (Nat.le_trans Z0 sz_b197) (Nat.le_trans Z0 sz_d241) (by rw [lW241, hcs]; omega) (Nat.ne_of_lt (Nat.lt_of_lt_of_le I3V.lt sz_d241)) (Nat.ne_of_lt (Nat.lt_of_lt_of_le I3E.lt sz_b197))) e242 (by decide) (by decide) (by decide) (by decide) (g := (mkF m 52 #[.val (.ref o)] [(.ref a3), (.ref b197)])) rfl (by rw [hml]; rfl) JE241 (argsL := [(.ref a3)]) (rest := []) opd_32 rfl rfl rfl (by show 2 * 0 + _ ≤ _; exact Nat.le_of_eq rfl) (hb hby d7_7_52)
  obtain ⟨rfl, N251, K251, d251, k251, hd251, J251⟩ := hQ251
  have NN251 := Fr.app NN241 N251
  have KK251 : Keep h0 T251.heap [] := KK241.trans K251 (allS (Or.inr sz_b197) (allS (Or.inr sz_d241) all0))
  have H251 := CHv.keep K251 (sfS q250 (sfS q244 sf0)) H241
  have R251 := CHr.trans R241 (CHr.keep K251 (sfS q250 (sfS q244 sf0)) H241)
  refine og st251 ?_
  obtain ⟨W251, hW251⟩ : ∃ z, z = W241 ++ cs := ⟨_, rfl⟩
  have lW251 : W251.length = 0 + 6 + 2 + 8 + 4 + 10 + (own_wl n + own_sg v) + 13 + 2 := by rw [hW251, List.length_append, lW241, hcs]
  obtain ⟨z251, ez251⟩ : ∃ z, z = own_cap z241 (W241.length + cs.length) := ⟨_, rfl⟩
  have hz251 : z251 = 16 ∨ z251 = 34 ∨ z251 = 70 := by rw [ez251]; exact own_capin hz241 hb241 (by rw [lW241, hcs]; omega) (by rw [lW241, hcs]; intro q; omega)
  have hb251 : W251.length ≤ z251 := by rw [ez251, hW251, List.length_append]; exact own_cap_ge _ _
  rw [← ez251, ← hW251] at J251
  obtain ⟨JE251, JF251, JC251, JN251, JV251, JX251⟩ := J251
  have sz_d251 : h0.size ≤ d251 := hd251.elim (fun q => q ▸ sz_d241) (fun q => Nat.le_trans KK241.1 q)
  have nb251 : b197 ≠ d251 := JE251.neArv JV251 (own_g hw 74 rfl)
  obtain ⟨a252, T252, h252, kk252, d252, kd252, X252, e252, E252, hS252, hk252, hZ252, hown252, A252, C252, F252, V252, lt252, ltd252, CR252, Li252, sf252, st252⟩ := ldcCH X251 hx hZ237 hown237 (own_g hw 190 rfl) (own_wS hw) rfl hS237 (Nat.le_trans (Nat.le_trans hk237 K241.1) K251.1) (own_hEL hw) (List.mem_of_getElem? (i := 6) rfl) H251 (vs := [(.int (41 : Int32))]) (z := (1 : Int32)) (by decide) (by decide) (by decide) (g := (mkF m 55 #[.val (.ref o)] [(.ref b197)])) rfl (hb hby d7_7_55) (n := 4) (by decide) (by decide) (by decide) (by decide)
  have KK252 : Keep h0 h252 [] := KK251.ext E252
  have H252 := CR252.1
  have R252 := CHr.trans R251 CR252
  refine og st252 ?_
  have LV252 : Arv Z h252 d252 kd252 .byte (Int32.ofNat own_l77.length) own_l77 (.int (0 : Int32)) := V252
  have q253 := (CHr.safe CR252 JV251.lt (Safe.keep K251 (sfS q250 (sfS q244 sf0)) H241 (own_safeAlt q244 hd251)))
  have q254 := ((q245.keep K251 (allS (Nat.le_trans Z0 sz_b197) (allS (Nat.le_trans Z0 sz_d241) all0))).ext E252)
  have q255 := (CHr.safe CR252 JF251.lt (Safe.keep K251 (sfS q250 (sfS q244 sf0)) H241 q250))
  obtain ⟨v256, T256, L256, X256, hQ256, st256⟩ := vcall X252 hx hZ252 hown252 (own_g hw 92 rfl) (own_g hw 93 rfl) (own_g hw 95 rfl) rfl (own_g hw 95 rfl) (own_g hw 94 rfl) (own_g hw 75 rfl) (own_g hw 96 rfl) (by decide) (W := 0) (rm_sbAppG l Z a0 hw [] b197 d251 k251 z251 W251 a252 d252 kd252 own_l77 zc wf n0 h252 SS' q254 ⟨(JE251.ext E252), (JF251.ext E252), (JC251.ext E252), (JN251.ext E252), (JV251.ext E252), (JX251.ext E252)⟩ (by rcases hz251 with q | q | q <;> omega) hb251 ⟨A252, C252, F252, LV252⟩ (Nat.le_trans Z0 sz_b197) (Nat.le_trans Z0 sz_d251) (by rw [lW251, own_n77]; omega) (Ne.symm (sf252 _ q253).2) (Ne.symm (sf252 _ q255).1)) e252 (by decide) (by decide) (by decide) (by decide) (g := (mkF m 57 #[.val (.ref o)] [(.ref a252), (.ref b197)])) rfl (by rw [hml]; rfl) (JE251.ext E252) (argsL := [(.ref a252)]) (rest := []) opd_32 rfl rfl rfl (by show 2 * 0 + _ ≤ _; exact Nat.le_of_eq rfl) (hb hby d7_7_57)
  obtain ⟨rfl, N256, K256, d256, k256, hd256, J256⟩ := hQ256
  have NN256 := Fr.app NN251 N256
  have KK256 : Keep h0 T256.heap [] := KK252.trans K256 (allS (Or.inr sz_b197) (allS (Or.inr sz_d251) all0))
  have H256 := CHv.keep K256 (sfS q255 (sfS q253 sf0)) H252
  have R256 := CHr.trans R252 (CHr.keep K256 (sfS q255 (sfS q253 sf0)) H252)
  refine og st256 ?_
  obtain ⟨W256, hW256⟩ : ∃ z, z = W251 ++ own_l77 := ⟨_, rfl⟩
  have lW256 : W256.length = 0 + 6 + 2 + 8 + 4 + 10 + (own_wl n + own_sg v) + 13 + 2 + 1 := by rw [hW256, List.length_append, lW251, own_n77]
  obtain ⟨z256, ez256⟩ : ∃ z, z = own_cap z251 (W251.length + own_l77.length) := ⟨_, rfl⟩
  have hz256 : z256 = 16 ∨ z256 = 34 ∨ z256 = 70 := by rw [ez256]; exact own_capin hz251 hb251 (by rw [lW251, own_n77]; omega) (by rw [lW251, own_n77]; intro q; omega)
  have hb256 : W256.length ≤ z256 := by rw [ez256, hW256, List.length_append]; exact own_cap_ge _ _
  rw [← ez256, ← hW256] at J256
  obtain ⟨JE256, JF256, JC256, JN256, JV256, JX256⟩ := J256
  have sz_d256 : h0.size ≤ d256 := hd256.elim (fun q => q ▸ sz_d251) (fun q => Nat.le_trans KK252.1 q)
  have nb256 : b197 ≠ d256 := JE256.neArv JV256 (own_g hw 74 rfl)
  have q257 := (q254.keep K256 (allS (Nat.le_trans Z0 sz_b197) (allS (Nat.le_trans Z0 sz_d251) all0)))
  obtain ⟨v258, T258, L258, X258, hQ258, st258⟩ := vcall X256 hx hZ252 hown252 (own_g hw 191 rfl) (own_g hw 192 rfl) (own_g hw 194 rfl) rfl (own_g hw 194 rfl) (own_g hw 193 rfl) (own_g hw 75 rfl) (own_g hw 195 rfl) (by decide) (W := 0) (rm_toS l Z a0 hw [] b197 d256 k256 z256 W256 zc wf n0 T256.heap SS' q257 ⟨JE256, JF256, JC256, JN256, JV256, JX256⟩ (by rcases hz256 with q | q | q <;> omega) (by have := hb256; rw [lW256] at *; rcases hz256 with q | q | q <;> omega) (by rw [lW256]; omega)) rfl (by decide) (by decide) (by decide) (by decide) (g := (mkF m 60 #[.val (.ref o)] [(.ref b197)])) rfl (by rw [hml]; rfl) JE256 (argsL := []) (rest := []) opd_34 rfl rfl rfl (by show 2 * 0 + _ ≤ _; exact Nat.le_of_eq rfl) (hb hby d7_7_60)
  obtain ⟨a258, r258, kr258, rfl, sa258, sr258, N258, K258, I258⟩ := hQ258
  have NN258 := Fr.app NN256 N258
  have KK258 : Keep h0 T258.heap [] := KK256.trans K258 all0
  have H258 := CHv.keep K258 sf0 H256
  have R258 := CHr.trans R256 (CHr.keep K258 sf0 H256)
  have sz_a258 : h0.size ≤ a258 := Nat.le_trans KK256.1 sa258
  have sz_r258 : h0.size ≤ r258 := Nat.le_trans KK256.1 sr258
  refine og st258 ?_
  obtain ⟨IE258, IC258, IF258, IV258⟩ := I258
  have hWf : W256 = own_l66 ++ ks ++ own_l68 ++ own_nul ++ own_l70 ++ own_num v n ++ own_l75 ++ cs ++ own_l77 := by rw [hW256, hW251, hW241, hW236, hW230, hW225, hW219, hW214, hW204]; simp only [List.nil_append]
  show OGo p e below _ T258 (mkF m 63 #[.val (.ref o)] [(.ref a258)])
  exact OGo.retH X258 hx hZ252 (own_hEL hw) hs0 rfl hS252 (Nat.le_trans (Nat.le_trans hk252 K256.1) K258.1) H258 R258 (t := (.object "java/lang/String")) hret hlk rfl (Or.inr (Or.inr (Or.inr (Or.inr ⟨rfl, rfl, rfl⟩)))) (hb hby d7_7_63) (by decide) (by decide) ⟨a258, r258, _, rfl, sz_a258, NN258, KK258, by rw [← hWf]; exact ⟨IE258, IC258, IF258, IV258⟩⟩
theorem opl_rm_tsO : plainFor (⟨"com/example/drain_shards/drainshards/Lease", "toString", "()Ljava/lang/String;"⟩ : MethodName) = true := plainFor_of_name (by first | (simp [plainName, overriddenIn]; done) | decide +kernel)
theorem rm_tsO (l : Launch) (Z : State) (a0 : Array Value) (hw : ∀ d ∈ tables_1, d.before a0 Z = true) (ws : List Jvm.Cond) (o a1 e1 a2 e2 a3 e3 : Addr) (k1 k2 k3 : ClassId) (ks os cs : List Value) (v : Int64) (n : Nat) (zc : Int32) (wf : Value) (n0 : Nat) (d1 d2 : Addr) (kd1 kd2 : ClassId) (h0 : Heap) (SS : own_SS Z zc wf) (O : Old Z n0 h0) (SI : own_SI Z d1 d2 kd1 kd2) (hm : own_mag v n) (I : STI Z h0 a1 e1 k1 ks) (I3 : STI Z h0 a3 e3 k3 cs) (hks : ks.length = 2) (hcs : cs.length = 2) (I2 : STI Z h0 a2 e2 k2 os) (hos : os.length = 1) (F0 : Fld Z h0 o "com/example/drain_shards/drainshards/Lease" "leaseKey" "Ljava/lang/String;" (.ref a1)) (F1 : Fld Z h0 o "com/example/drain_shards/drainshards/Lease" "leaseOwner" "Ljava/lang/String;" (.ref a2)) (F2 : Fld Z h0 o "com/example/drain_shards/drainshards/Lease" "leaseCounter" "J" (.long v)) (F3 : Fld Z h0 o "com/example/drain_shards/drainshards/Lease" "checkpoint" "Ljava/lang/String;" (.ref a3)) :
    ConH l Z own_EL (⟨"com/example/drain_shards/drainshards/Lease", "toString", "()Ljava/lang/String;"⟩ : MethodName) prog_7_method_7_code 1 (some (.object "java/lang/String")) ws ({ frames := 6, cells := 23, slots := 1544, locals := 102 } : Room) #[(.ref o)] h0 (fun v' h L => ∃ x r k', v' = some (.ref x) ∧ h0.size ≤ x ∧ Fr n0 L ∧ Keep h0 h [] ∧ STI Z h x r k' (own_l66 ++ ks ++ own_l68 ++ os ++ own_l70 ++ own_num v n ++ own_l75 ++ cs ++ own_l77)) := by
  refine ConH.intro opl_rm_tsO ?_
  intro p e s m below meth c s₁ hx hby hml hown hret hlk hZ hnm X0 e0 hs0 hS0 H0 R0
  have SS' := SS
  obtain ⟨hzc, SC, hwf, SF⟩ := SS
  have Z0 : n0 ≤ h0.size := O.1 ▸ O.2.1
  have N0 := Fr.nil n0
  obtain ⟨P1, P2, P3, P4⟩ := own_wlp hm.1
  have hsg := own_sgle v
  obtain ⟨IE, IC, IF, IV⟩ := I
  obtain ⟨I3E, I3C, I3F, I3V⟩ := I3
  obtain ⟨I2E, I2C, I2F, I2V⟩ := I2
  refine OGo.cast (g' := (mkF m 0 #[.val (.ref o)] [])) (by first | (simp [entryFrame, mkF, argsToLocals, Value.category]; done) | rfl) ?_
  obtain ⟨T259, h259, X259, e259, E259, A259, D259, UN259, st259⟩ := newO X0 hx hZ hown (own_g hw 73 rfl) (own_g hw 74 rfl) (own_g hw 75 rfl) e0 (g := (mkF m 0 #[.val (.ref o)] [])) rfl (hb hby d7_7_0) (by decide) (by decide)
  obtain ⟨b259, g259⟩ : ∃ z, z = h0.size := ⟨_, rfl⟩
  rw [← g259] at A259 D259 UN259 st259
  have sz_b259 : h0.size ≤ b259 := Nat.le_trans (Keep.refl h0 []).1 (Nat.le_of_eq g259.symm)
  have KK259 : Keep h0 h259 [] := (Keep.refl h0 []).ext E259
  have H259 := CHv.ext E259 H0
  have R259 := CHr.trans R0 (CHr.ext E259 H0)
  have F259_value : Fld Z h259 b259 "java/lang/AbstractStringBuilder" "value" "[B" .null := D259 (Or.inl (own_g hw 88 rfl)) (ty := (.array .byte)) (by decide)
  have F259_coder : Fld Z h259 b259 "java/lang/AbstractStringBuilder" "coder" "B" (.int (0 : Int32)) := D259 (Or.inl (own_g hw 90 rfl)) (ty := .byte) (by decide)
  have F259_count : Fld Z h259 b259 "java/lang/AbstractStringBuilder" "count" "I" (.int (0 : Int32)) := D259 (Or.inl (own_g hw 113 rfl)) (ty := .int) (by decide)
  refine og st259 ?_
  refine og (fun _ k => XS.dup X259.here hx rfl (hb hby d7_7_3) rfl rfl k) ?_
  have q260 := (Safe.ext E259 H0 (Safe.new (Nat.le_of_eq g259.symm)))
  obtain ⟨v261, T261, L261, X261, hQ261, st261⟩ := icall X259 hx hZ rfl hown (own_g hw 76 rfl) (own_g hw 77 rfl) (own_g hw 75 rfl) (own_g hw 78 rfl) (by decide) (W := 1) (rm_sbInit l Z a0 hw [] b259 zc wf n0 h259 SS' (O.ext E259) A259 F259_value F259_coder F259_count (Nat.le_trans Z0 sz_b259)) e259 (by decide) (by decide) (by decide) (by decide) (g := (mkF m 4 #[.val (.ref o)] [(.ref b259), (.ref b259)])) rfl (by rw [hml]; rfl) (a := b259) (argsL := []) (rest := [(.ref b259)]) opd_31 rfl rfl rfl (by show 2 * 0 + _ ≤ _; exact Nat.le_of_eq rfl) (hb hby d7_7_4)
  obtain ⟨rfl, N261, K261, d261, k261, sd261, J261⟩ := hQ261
  have NN261 := Fr.app N0 N261
  have KK261 : Keep h0 T261.heap [] := KK259.trans K261 (allS (Or.inr sz_b259) all0)
  have H261 := CHv.keep K261 (sfS q260 sf0) H259
  have R261 := CHr.trans R259 (CHr.keep K261 (sfS q260 sf0) H259)
  have sz_d261 : h0.size ≤ d261 := Nat.le_trans KK259.1 sd261
  refine og st261 ?_
  obtain ⟨JE261, JF261, JC261, JN261, JV261, JX261⟩ := J261
  have nb261 : b259 ≠ d261 := JE261.neArv JV261 (own_g hw 74 rfl)
  have hz261 : (16 : Nat) = 16 ∨ (16 : Nat) = 34 ∨ (16 : Nat) = 70 := Or.inl rfl
  have hl261 : ([] : List Value).length = 0 := rfl
  have hb261 : ([] : List Value).length ≤ 16 := Nat.zero_le _
  obtain ⟨a262, T262, h262, kk262, d262, kd262, X262, e262, E262, hS262, hk262, hZ262, hown262, A262, C262, F262, V262, lt262, ltd262, CR262, Li262, sf262, st262⟩ := ldcCH X261 hx hZ hown (own_g hw 91 rfl) (own_wS hw) rfl hS0 (Nat.le_trans (Nat.le_trans (Nat.zero_le _) E259.1) K261.1) (own_hEL hw) (List.mem_of_getElem? (i := 2) rfl) H261 (vs := [(.int (108 : Int32)), (.int (101 : Int32)), (.int (97 : Int32)), (.int (115 : Int32)), (.int (101 : Int32)), (.int (32 : Int32))]) (z := (6 : Int32)) (by decide) (by decide) (by decide) (g := (mkF m 7 #[.val (.ref o)] [(.ref b259)])) rfl (hb hby d7_7_7) (n := 24) (by decide) (by decide) (by decide) (by decide)
  have KK262 : Keep h0 h262 [] := KK261.ext E262
  have H262 := CR262.1
  have R262 := CHr.trans R261 CR262
  refine og st262 ?_
  have LV262 : Arv Z h262 d262 kd262 .byte (Int32.ofNat own_l66.length) own_l66 (.int (0 : Int32)) := V262
  have q263 := (CHr.safe CR262 JV261.lt (Safe.keep K261 (sfS q260 sf0) H259 (Safe.new sd261)))
  have q264 := (((O.ext E259).keep K261 (allS (Nat.le_trans Z0 sz_b259) all0)).ext E262)
  have q265 := (CHr.safe CR262 JF261.lt (Safe.keep K261 (sfS q260 sf0) H259 q260))
  obtain ⟨v266, T266, L266, X266, hQ266, st266⟩ := vcall X262 hx hZ262 hown262 (own_g hw 92 rfl) (own_g hw 93 rfl) (own_g hw 95 rfl) rfl (own_g hw 95 rfl) (own_g hw 94 rfl) (own_g hw 75 rfl) (own_g hw 96 rfl) (by decide) (W := 0) (rm_sbAppG l Z a0 hw [] b259 d261 k261 16 ([] : List Value) a262 d262 kd262 own_l66 zc wf n0 h262 SS' q264 ⟨(JE261.ext E262), (JF261.ext E262), (JC261.ext E262), (JN261.ext E262), (JV261.ext E262), (JX261.ext E262)⟩ (by rcases hz261 with q | q | q <;> omega) hb261 ⟨A262, C262, F262, LV262⟩ (Nat.le_trans Z0 sz_b259) (Nat.le_trans Z0 sz_d261) (by rw [hl261, own_n66]; omega) (Ne.symm (sf262 _ q263).2) (Ne.symm (sf262 _ q265).1)) e262 (by decide) (by decide) (by decide) (by decide) (g := (mkF m 9 #[.val (.ref o)] [(.ref a262), (.ref b259)])) rfl (by rw [hml]; rfl) (JE261.ext E262) (argsL := [(.ref a262)]) (rest := []) opd_32 rfl rfl rfl (by show 2 * 0 + _ ≤ _; exact Nat.le_of_eq rfl) (hb hby d7_7_9)
  obtain ⟨rfl, N266, K266, d266, k266, hd266, J266⟩ := hQ266
  have NN266 := Fr.app NN261 N266
  have KK266 : Keep h0 T266.heap [] := KK262.trans K266 (allS (Or.inr sz_b259) (allS (Or.inr sz_d261) all0))
  have H266 := CHv.keep K266 (sfS q265 (sfS q263 sf0)) H262
  have R266 := CHr.trans R262 (CHr.keep K266 (sfS q265 (sfS q263 sf0)) H262)
  refine og st266 ?_
  obtain ⟨W266, hW266⟩ : ∃ z, z = ([] : List Value) ++ own_l66 := ⟨_, rfl⟩
  have lW266 : W266.length = 0 + 6 := by rw [hW266, List.length_append, hl261, own_n66]
  obtain ⟨z266, ez266⟩ : ∃ z, z = own_cap 16 (([] : List Value).length + own_l66.length) := ⟨_, rfl⟩
  have hz266 : z266 = 16 ∨ z266 = 34 ∨ z266 = 70 := by rw [ez266]; exact own_capin hz261 hb261 (by rw [hl261, own_n66]; omega) (by rw [hl261, own_n66]; intro q; omega)
  have hb266 : W266.length ≤ z266 := by rw [ez266, hW266, List.length_append]; exact own_cap_ge _ _
  rw [← ez266, ← hW266] at J266
  obtain ⟨JE266, JF266, JC266, JN266, JV266, JX266⟩ := J266
  have sz_d266 : h0.size ≤ d266 := hd266.elim (fun q => q ▸ sz_d261) (fun q => Nat.le_trans KK262.1 q)
  have nb266 : b259 ≠ d266 := JE266.neArv JV266 (own_g hw 74 rfl)
  refine og (fun _ k => XS.aloadN X266.here hx rfl (hb hby d7_7_12) rfl rfl k) ?_
  have q268 := ((((F0.ext E259).keep K261 (ninS (Nat.ne_of_lt (Nat.lt_of_lt_of_le F0.lt sz_b259)) nin0)).ext E262).keep K266 (ninS (Nat.ne_of_lt (Nat.lt_of_lt_of_le F0.lt sz_b259)) (ninS (Nat.ne_of_lt (Nat.lt_of_lt_of_le F0.lt sz_d261)) nin0)))
  obtain ⟨T267, X267, e267, st267⟩ := getF X266 hx hZ262 hown262 (host := "") (Or.inl (own_g hw 59 rfl)) Via.refl rfl q268 (g := (mkF m 13 #[.val (.ref o)] [(.ref o), (.ref b259)])) rfl rfl (hb hby d7_7_13)
  refine og st267 ?_
  have q269 := (Safe.keep K266 (sfS q265 (sfS q263 sf0)) H262 (own_safeAlt q263 hd266))
  have q270 := (q264.keep K266 (allS (Nat.le_trans Z0 sz_b259) (allS (Nat.le_trans Z0 sz_d261) all0)))
  have q271 := ((((IE.ext E259).keep K261).ext E262).keep K266)
  have q272 := ((((IC.ext E259).keep K261 (ninS (Nat.ne_of_lt (Nat.lt_of_lt_of_le IE.lt sz_b259)) nin0)).ext E262).keep K266 (ninS (Nat.ne_of_lt (Nat.lt_of_lt_of_le IE.lt sz_b259)) (ninS (Nat.ne_of_lt (Nat.lt_of_lt_of_le IE.lt sz_d261)) nin0)))
  have q273 := ((((IF.ext E259).keep K261 (ninS (Nat.ne_of_lt (Nat.lt_of_lt_of_le IE.lt sz_b259)) nin0)).ext E262).keep K266 (ninS (Nat.ne_of_lt (Nat.lt_of_lt_of_le IE.lt sz_b259)) (ninS (Nat.ne_of_lt (Nat.lt_of_lt_of_le IE.lt sz_d261)) nin0)))
  have q274 := ((((IV.ext E259).keep K261 (ninS (Nat.ne_of_lt (Nat.lt_of_lt_of_le IV.lt sz_b259)) nin0)).ext E262).keep K266 (ninS (Nat.ne_of_lt (Nat.lt_of_lt_of_le IV.lt sz_b259)) (ninS (Nat.ne_of_lt (Nat.lt_of_lt_of_le IV.lt sz_d261)) nin0)))
  have q275 := (Safe.keep K266 (sfS q265 (sfS q263 sf0)) H262 q265)
  obtain ⟨v276, T276, L276, X276, hQ276, st276⟩ := vcall X267 hx hZ262 hown262 (own_g hw 92 rfl) (own_g hw 93 rfl) (own_g hw 95 rfl) rfl (own_g hw 95 rfl) (own_g hw 94 rfl) (own_g hw 75 rfl) (own_g hw 96 rfl) (by decide) (W := 0) (rm_sbAppG l Z a0 hw [] b259 d266 k266 z266 W266 a1 e1 k1 ks zc wf n0 T266.heap SS' q270 ⟨JE266, JF266, JC266, JN266, JV266, JX266⟩ (by rcases hz266 with q | q | q <;> omega) hb266 ⟨q271, q272, q273, q274⟩ (Nat.le_trans Z0 sz_b259) (Nat.le_trans Z0 sz_d266) (by rw [lW266, hks]; omega) (Nat.ne_of_lt (Nat.lt_of_lt_of_le IV.lt sz_d266)) (Nat.ne_of_lt (Nat.lt_of_lt_of_le IE.lt sz_b259))) e267 (by decide) (by decide) (by decide) (by decide) (g := (mkF m 16 #[.val (.ref o)] [(.ref a1), (.ref b259)])) rfl (by rw [hml]; rfl) JE266 (argsL := [(.ref a1)]) (rest := []) opd_32 rfl rfl rfl (by show 2 * 0 + _ ≤ _; exact Nat.le_of_eq rfl) (hb hby d7_7_16)
  obtain ⟨rfl, N276, K276, d276, k276, hd276, J276⟩ := hQ276
  have NN276 := Fr.app NN266 N276
  have KK276 : Keep h0 T276.heap [] := KK266.trans K276 (allS (Or.inr sz_b259) (allS (Or.inr sz_d266) all0))
  have H276 := CHv.keep K276 (sfS q275 (sfS q269 sf0)) H266
  have R276 := CHr.trans R266 (CHr.keep K276 (sfS q275 (sfS q269 sf0)) H266)
  refine og st276 ?_
  obtain ⟨W276, hW276⟩ : ∃ z, z = W266 ++ ks := ⟨_, rfl⟩
  have lW276 : W276.length = 0 + 6 + 2 := by rw [hW276, List.length_append, lW266, hks]
  obtain ⟨z276, ez276⟩ : ∃ z, z = own_cap z266 (W266.length + ks.length) := ⟨_, rfl⟩
  have hz276 : z276 = 16 ∨ z276 = 34 ∨ z276 = 70 := by rw [ez276]; exact own_capin hz266 hb266 (by rw [lW266, hks]; omega) (by rw [lW266, hks]; intro q; omega)
  have hb276 : W276.length ≤ z276 := by rw [ez276, hW276, List.length_append]; exact own_cap_ge _ _
  rw [← ez276, ← hW276] at J276
  obtain ⟨JE276, JF276, JC276, JN276, JV276, JX276⟩ := J276
  have sz_d276 : h0.size ≤ d276 := hd276.elim (fun q => q ▸ sz_d266) (fun q => Nat.le_trans KK266.1 q)
  have nb276 : b259 ≠ d276 := JE276.neArv JV276 (own_g hw 74 rfl)
  obtain ⟨a277, T277, h277, kk277, d277, kd277, X277, e277, E277, hS277, hk277, hZ277, hown277, A277, C277, F277, V277, lt277, ltd277, CR277, Li277, sf277, st277⟩ := ldcCH X276 hx hZ262 hown262 (own_g hw 139 rfl) (own_wS hw) rfl hS262 (Nat.le_trans (Nat.le_trans hk262 K266.1) K276.1) (own_hEL hw) (List.mem_of_getElem? (i := 3) rfl) H276 (vs := [(.int (32 : Int32)), (.int (40 : Int32)), (.int (111 : Int32)), (.int (119 : Int32)), (.int (110 : Int32)), (.int (101 : Int32)), (.int (114 : Int32)), (.int (32 : Int32))]) (z := (8 : Int32)) (by decide) (by decide) (by decide) (g := (mkF m 19 #[.val (.ref o)] [(.ref b259)])) rfl (hb hby d7_7_19) (n := 32) (by decide) (by decide) (by decide) (by decide)
  have KK277 : Keep h0 h277 [] := KK276.ext E277
  have H277 := CR277.1
  have R277 := CHr.trans R276 CR277
  refine og st277 ?_
  have LV277 : Arv Z h277 d277 kd277 .byte (Int32.ofNat own_l68.length) own_l68 (.int (0 : Int32)) := V277
  have q278 := (CHr.safe CR277 JV276.lt (Safe.keep K276 (sfS q275 (sfS q269 sf0)) H266 (own_safeAlt q269 hd276)))
  have q279 := ((q270.keep K276 (allS (Nat.le_trans Z0 sz_b259) (allS (Nat.le_trans Z0 sz_d266) all0))).ext E277)
  have q280 := (CHr.safe CR277 JF276.lt (Safe.keep K276 (sfS q275 (sfS q269 sf0)) H266 q275))
  obtain ⟨v281, T281, L281, X281, hQ281, st281⟩ := vcall X277 hx hZ277 hown277 (own_g hw 92 rfl) (own_g hw 93 rfl) (own_g hw 95 rfl) rfl (own_g hw 95 rfl) (own_g hw 94 rfl) (own_g hw 75 rfl) (own_g hw 96 rfl) (by decide) (W := 0) (rm_sbAppG l Z a0 hw [] b259 d276 k276 z276 W276 a277 d277 kd277 own_l68 zc wf n0 h277 SS' q279 ⟨(JE276.ext E277), (JF276.ext E277), (JC276.ext E277), (JN276.ext E277), (JV276.ext E277), (JX276.ext E277)⟩ (by rcases hz276 with q | q | q <;> omega) hb276 ⟨A277, C277, F277, LV277⟩ (Nat.le_trans Z0 sz_b259) (Nat.le_trans Z0 sz_d276) (by rw [lW276, own_n68]; omega) (Ne.symm (sf277 _ q278).2) (Ne.symm (sf277 _ q280).1)) e277 (by decide) (by decide) (by decide) (by decide) (g := (mkF m 21 #[.val (.ref o)] [(.ref a277), (.ref b259)])) rfl (by rw [hml]; rfl) (JE276.ext E277) (argsL := [(.ref a277)]) (rest := []) opd_32 rfl rfl rfl (by show 2 * 0 + _ ≤ _; exact Nat.le_of_eq rfl) (hb hby d7_7_21)
  obtain ⟨rfl, N281, K281, d281, k281, hd281, J281⟩ := hQ281
  have NN281 := Fr.app NN276 N281
  have KK281 : Keep h0 T281.heap [] := KK277.trans K281 (allS (Or.inr sz_b259) (allS (Or.inr sz_d276) all0))
  have H281 := CHv.keep K281 (sfS q280 (sfS q278 sf0)) H277
  have R281 := CHr.trans R277 (CHr.keep K281 (sfS q280 (sfS q278 sf0)) H277)
  refine og st281 ?_
  obtain ⟨W281, hW281⟩ : ∃ z, z = W276 ++ own_l68 := ⟨_, rfl⟩
  have lW281 : W281.length = 0 + 6 + 2 + 8 := by rw [hW281, List.length_append, lW276, own_n68]
  obtain ⟨z281, ez281⟩ : ∃ z, z = own_cap z276 (W276.length + own_l68.length) := ⟨_, rfl⟩
  have hz281 : z281 = 16 ∨ z281 = 34 ∨ z281 = 70 := by rw [ez281]; exact own_capin hz276 hb276 (by rw [lW276, own_n68]; omega) (by rw [lW276, own_n68]; intro q; omega)
  have hb281 : W281.length ≤ z281 := by rw [ez281, hW281, List.length_append]; exact own_cap_ge _ _
  rw [← ez281, ← hW281] at J281
  obtain ⟨JE281, JF281, JC281, JN281, JV281, JX281⟩ := J281
  have sz_d281 : h0.size ≤ d281 := hd281.elim (fun q => q ▸ sz_d276) (fun q => Nat.le_trans KK277.1 q)
  have nb281 : b259 ≠ d281 := JE281.neArv JV281 (own_g hw 74 rfl)
  refine og (fun _ k => XS.aloadN X281.here hx rfl (hb hby d7_7_24) rfl rfl k) ?_
  have q283 := (((((((F1.ext E259).keep K261 (ninS (Nat.ne_of_lt (Nat.lt_of_lt_of_le F0.lt sz_b259)) nin0)).ext E262).keep K266 (ninS (Nat.ne_of_lt (Nat.lt_of_lt_of_le F0.lt sz_b259)) (ninS (Nat.ne_of_lt (Nat.lt_of_lt_of_le F0.lt sz_d261)) nin0))).keep K276 (ninS (Nat.ne_of_lt (Nat.lt_of_lt_of_le F0.lt sz_b259)) (ninS (Nat.ne_of_lt (Nat.lt_of_lt_of_le F0.lt sz_d266)) nin0))).ext E277).keep K281 (ninS (Nat.ne_of_lt (Nat.lt_of_lt_of_le F0.lt sz_b259)) (ninS (Nat.ne_of_lt (Nat.lt_of_lt_of_le F0.lt sz_d276)) nin0)))
  obtain ⟨T282, X282, e282, st282⟩ := getF X281 hx hZ277 hown277 (host := "") (Or.inl (own_g hw 61 rfl)) Via.refl rfl q283 (g := (mkF m 25 #[.val (.ref o)] [(.ref o), (.ref b259)])) rfl rfl (hb hby d7_7_25)
  refine og st282 ?_
  have q284 := (Safe.keep K281 (sfS q280 (sfS q278 sf0)) H277 (own_safeAlt q278 hd281))
  have q285 := (q279.keep K281 (allS (Nat.le_trans Z0 sz_b259) (allS (Nat.le_trans Z0 sz_d276) all0)))
  have q286 := (((((((I2E.ext E259).keep K261).ext E262).keep K266).keep K276).ext E277).keep K281)
  have q287 := (((((((I2C.ext E259).keep K261 (ninS (Nat.ne_of_lt (Nat.lt_of_lt_of_le I2E.lt sz_b259)) nin0)).ext E262).keep K266 (ninS (Nat.ne_of_lt (Nat.lt_of_lt_of_le I2E.lt sz_b259)) (ninS (Nat.ne_of_lt (Nat.lt_of_lt_of_le I2E.lt sz_d261)) nin0))).keep K276 (ninS (Nat.ne_of_lt (Nat.lt_of_lt_of_le I2E.lt sz_b259)) (ninS (Nat.ne_of_lt (Nat.lt_of_lt_of_le I2E.lt sz_d266)) nin0))).ext E277).keep K281 (ninS (Nat.ne_of_lt (Nat.lt_of_lt_of_le I2E.lt sz_b259)) (ninS (Nat.ne_of_lt (Nat.lt_of_lt_of_le I2E.lt sz_d276)) nin0)))
  have q288 := (((((((I2F.ext E259).keep K261 (ninS (Nat.ne_of_lt (Nat.lt_of_lt_of_le I2E.lt sz_b259)) nin0)).ext E262).keep K266 (ninS (Nat.ne_of_lt (Nat.lt_of_lt_of_le I2E.lt sz_b259)) (ninS (Nat.ne_of_lt (Nat.lt_of_lt_of_le I2E.lt sz_d261)) nin0))).keep K276 (ninS (Nat.ne_of_lt (Nat.lt_of_lt_of_le I2E.lt sz_b259)) (ninS (Nat.ne_of_lt (Nat.lt_of_lt_of_le I2E.lt sz_d266)) nin0))).ext E277).keep K281 (ninS (Nat.ne_of_lt (Nat.lt_of_lt_of_le I2E.lt sz_b259)) (ninS (Nat.ne_of_lt (Nat.lt_of_lt_of_le I2E.lt sz_d276)) nin0)))
  have q289 := (((((((I2V.ext E259).keep K261 (ninS (Nat.ne_of_lt (Nat.lt_of_lt_of_le I2V.lt sz_b259)) nin0)).ext E262).keep K266 (ninS (Nat.ne_of_lt (Nat.lt_of_lt_of_le I2V.lt sz_b259)) (ninS (Nat.ne_of_lt (Nat.lt_of_lt_of_le I2V.lt sz_d261)) nin0))).keep K276 (ninS (Nat.ne_of_lt (Nat.lt_of_lt_of_le I2V.lt sz_b259)) (ninS (Nat.ne_of_lt (Nat.lt_of_lt_of_le I2V.lt sz_d266)) nin0))).ext E277).keep K281 (ninS (Nat.ne_of_lt (Nat.lt_of_lt_of_le I2V.lt sz_b259)) (ninS (Nat.ne_of_lt (Nat.lt_of_lt_of_le I2V.lt sz_d276)) nin0)))
  have q290 := (Safe.keep K281 (sfS q280 (sfS q278 sf0)) H277 q280)
  obtain ⟨v291, T291, L291, X291, hQ291, st291⟩ := vcall X282 hx hZ277 hown277 (own_g hw 92 rfl) (own_g hw 93 rfl) (own_g hw 95 rfl) rfl (own_g hw 95 rfl) (own_g hw 94 rfl) (own_g hw 75 rfl) (own_g hw 96 rfl) (by decide) (W := 0) (rm_sbAppG l Z a0 hw [] b259 d281 k281 z281 W281 a2 e2 k2 os zc wf n0 T281.heap SS' q285 ⟨JE281, JF281, JC281, JN281, JV281, JX281⟩ (by rcases hz281 with q | q | q <;> omega) hb281 ⟨q286, q287, q288, q289⟩ (Nat.le_trans Z0 sz_b259) (Nat.le_trans Z0 sz_d281) (by rw [lW281, hos]; omega) (Nat.ne_of_lt (Nat.lt_of_lt_of_le I2V.lt sz_d281)) (Nat.ne_of_lt (Nat.lt_of_lt_of_le I2E.lt sz_b259))) e282 (by decide) (by decide) (by decide) (by decide) (g := (mkF m 28 #[.val (.ref o)] [(.ref a2), (.ref b259)])) rfl (by rw [hml]; rfl) JE281 (argsL := [(.ref a2)]) (rest := []) opd_32 rfl rfl rfl (by show 2 * 0 + _ ≤ _; exact Nat.le_of_eq rfl) (hb hby d7_7_28)
  obtain ⟨rfl, N291, K291, d291, k291, hd291, J291⟩ := hQ291
  have NN291 := Fr.app NN281 N291
  have KK291 : Keep h0 T291.heap [] := KK281.trans K291 (allS (Or.inr sz_b259) (allS (Or.inr sz_d281) all0))
  have H291 := CHv.keep K291 (sfS q290 (sfS q284 sf0)) H281
  have R291 := CHr.trans R281 (CHr.keep K291 (sfS q290 (sfS q284 sf0)) H281)
  refine og st291 ?_
  obtain ⟨W291, hW291⟩ : ∃ z, z = W281 ++ os := ⟨_, rfl⟩
  have lW291 : W291.length = 0 + 6 + 2 + 8 + 1 := by rw [hW291, List.length_append, lW281, hos]
  obtain ⟨z291, ez291⟩ : ∃ z, z = own_cap z281 (W281.length + os.length) := ⟨_, rfl⟩
  have hz291 : z291 = 16 ∨ z291 = 34 ∨ z291 = 70 := by rw [ez291]; exact own_capin hz281 hb281 (by rw [lW281, hos]; omega) (by rw [lW281, hos]; intro q; omega)
  have hb291 : W291.length ≤ z291 := by rw [ez291, hW291, List.length_append]; exact own_cap_ge _ _
  rw [← ez291, ← hW291] at J291
  obtain ⟨JE291, JF291, JC291, JN291, JV291, JX291⟩ := J291
  have sz_d291 : h0.size ≤ d291 := hd291.elim (fun q => q ▸ sz_d281) (fun q => Nat.le_trans KK281.1 q)
  have nb291 : b259 ≠ d291 := JE291.neArv JV291 (own_g hw 74 rfl)
  obtain ⟨a292, T292, h292, kk292, d292, kd292, X292, e292, E292, hS292, hk292, hZ292, hown292, A292, C292, F292, V292, lt292, ltd292, CR292, Li292, sf292, st292⟩ := ldcCH X291 hx hZ277 hown277 (own_g hw 163 rfl) (own_wS hw) rfl hS277 (Nat.le_trans (Nat.le_trans hk277 K281.1) K291.1) (own_hEL hw) (List.mem_of_getElem? (i := 4) rfl) H291 (vs := [(.int (44 : Int32)), (.int (32 : Int32)), (.int (99 : Int32)), (.int (111 : Int32)), (.int (117 : Int32)), (.int (110 : Int32)), (.int (116 : Int32)), (.int (101 : Int32)), (.int (114 : Int32)), (.int (32 : Int32))]) (z := (10 : Int32)) (by decide) (by decide) (by decide) (g := (mkF m 31 #[.val (.ref o)] [(.ref b259)])) rfl (hb hby d7_7_31) (n := 40) (by decide) (by decide) (by decide) (by decide)
  have KK292 : Keep h0 h292 [] := KK291.ext E292
  have H292 := CR292.1
  have R292 := CHr.trans R291 CR292
  refine og st292 ?_
  have LV292 : Arv Z h292 d292 kd292 .byte (Int32.ofNat own_l70.length) own_l70 (.int (0 : Int32)) := V292
  have q293 := (CHr.safe CR292 JV291.lt (Safe.keep K291 (sfS q290 (sfS q284 sf0)) H281 (own_safeAlt q284 hd291)))
  have q294 := ((q285.keep K291 (allS (Nat.le_trans Z0 sz_b259) (allS (Nat.le_trans Z0 sz_d281) all0))).ext E292)
  have q295 := (CHr.safe CR292 JF291.lt (Safe.keep K291 (sfS q290 (sfS q284 sf0)) H281 q290))
  obtain ⟨v296, T296, L296, X296, hQ296, st296⟩ := vcall X292 hx hZ292 hown292 (own_g hw 92 rfl) (own_g hw 93 rfl) (own_g hw 95 rfl) rfl (own_g hw 95 rfl) (own_g hw 94 rfl) (own_g hw 75 rfl) (own_g hw 96 rfl) (by decide) (W := 0) (rm_sbAppG l Z a0 hw [] b259 d291 k291 z291 W291 a292 d292 kd292 own_l70 zc wf n0 h292 SS' q294 ⟨(JE291.ext E292), (JF291.ext E292), (JC291.ext E292), (JN291.ext E292), (JV291.ext E292), (JX291.ext E292)⟩ (by rcases hz291 with q | q | q <;> omega) hb291 ⟨A292, C292, F292, LV292⟩ (Nat.le_trans Z0 sz_b259) (Nat.le_trans Z0 sz_d291) (by rw [lW291, own_n70]; omega) (Ne.symm (sf292 _ q293).2) (Ne.symm (sf292 _ q295).1)) e292 (by decide) (by decide) (by decide) (by decide) (g := (mkF m 33 #[.val (.ref o)] [(.ref a292), (.ref b259)])) rfl (by rw [hml]; rfl) (JE291.ext E292) (argsL := [(.ref a292)]) (rest := []) opd_32 rfl rfl rfl (by show 2 * 0 + _ ≤ _; exact Nat.le_of_eq rfl) (hb hby d7_7_33)
  obtain ⟨rfl, N296, K296, d296, k296, hd296, J296⟩ := hQ296
  have NN296 := Fr.app NN291 N296
  have KK296 : Keep h0 T296.heap [] := KK292.trans K296 (allS (Or.inr sz_b259) (allS (Or.inr sz_d291) all0))
  have H296 := CHv.keep K296 (sfS q295 (sfS q293 sf0)) H292
  have R296 := CHr.trans R292 (CHr.keep K296 (sfS q295 (sfS q293 sf0)) H292)
  refine og st296 ?_
  obtain ⟨W296, hW296⟩ : ∃ z, z = W291 ++ own_l70 := ⟨_, rfl⟩
  have lW296 : W296.length = 0 + 6 + 2 + 8 + 1 + 10 := by rw [hW296, List.length_append, lW291, own_n70]
  obtain ⟨z296, ez296⟩ : ∃ z, z = own_cap z291 (W291.length + own_l70.length) := ⟨_, rfl⟩
  have hz296 : z296 = 16 ∨ z296 = 34 ∨ z296 = 70 := by rw [ez296]; exact own_capin hz291 hb291 (by rw [lW291, own_n70]; omega) (by rw [lW291, own_n70]; intro q; omega)
  have hb296 : W296.length ≤ z296 := by rw [ez296, hW296, List.length_append]; exact own_cap_ge _ _
  rw [← ez296, ← hW296] at J296
  obtain ⟨JE296, JF296, JC296, JN296, JV296, JX296⟩ := J296
  have sz_d296 : h0.size ≤ d296 := hd296.elim (fun q => q ▸ sz_d291) (fun q => Nat.le_trans KK292.1 q)
  have nb296 : b259 ≠ d296 := JE296.neArv JV296 (own_g hw 74 rfl)
  refine og (fun _ k => XS.aloadN X296.here hx rfl (hb hby d7_7_36) rfl rfl k) ?_
  have q298 := ((((((((((F2.ext E259).keep K261 (ninS (Nat.ne_of_lt (Nat.lt_of_lt_of_le F0.lt sz_b259)) nin0)).ext E262).keep K266 (ninS (Nat.ne_of_lt (Nat.lt_of_lt_of_le F0.lt sz_b259)) (ninS (Nat.ne_of_lt (Nat.lt_of_lt_of_le F0.lt sz_d261)) nin0))).keep K276 (ninS (Nat.ne_of_lt (Nat.lt_of_lt_of_le F0.lt sz_b259)) (ninS (Nat.ne_of_lt (Nat.lt_of_lt_of_le F0.lt sz_d266)) nin0))).ext E277).keep K281 (ninS (Nat.ne_of_lt (Nat.lt_of_lt_of_le F0.lt sz_b259)) (ninS (Nat.ne_of_lt (Nat.lt_of_lt_of_le F0.lt sz_d276)) nin0))).keep K291 (ninS (Nat.ne_of_lt (Nat.lt_of_lt_of_le F0.lt sz_b259)) (ninS (Nat.ne_of_lt (Nat.lt_of_lt_of_le F0.lt sz_d281)) nin0))).ext E292).keep K296 (ninS (Nat.ne_of_lt (Nat.lt_of_lt_of_le F0.lt sz_b259)) (ninS (Nat.ne_of_lt (Nat.lt_of_lt_of_le F0.lt sz_d291)) nin0)))
  obtain ⟨T297, X297, e297, st297⟩ := getF X296 hx hZ292 hown292 (host := "") (Or.inl (own_g hw 63 rfl)) Via.refl rfl q298 (g := (mkF m 37 #[.val (.ref o)] [(.ref o), (.ref b259)])) rfl rfl (hb hby d7_7_37)
  refine og st297 ?_
  have q299 := (Safe.keep K296 (sfS q295 (sfS q293 sf0)) H292 (own_safeAlt q293 hd296))
  have q300 := (q294.keep K296 (allS (Nat.le_trans Z0 sz_b259) (allS (Nat.le_trans Z0 sz_d291) all0)))
  have q301 := (Safe.keep K296 (sfS q295 (sfS q293 sf0)) H292 q295)
  obtain ⟨v302, T302, L302, X302, hQ302, st302⟩ := vcall X297 hx hZ292 hown292 (own_g hw 164 rfl) (own_g hw 165 rfl) (own_g hw 167 rfl) rfl (own_g hw 167 rfl) (own_g hw 166 rfl) (own_g hw 75 rfl) (own_g hw 168 rfl) (by decide) (W := 0) (rm_appJ l Z a0 hw [] v n b259 d296 k296 z296 W296 zc wf n0 d1 d2 kd1 kd2 T296.heap SS' q300 SI hm ⟨JE296, JF296, JC296, JN296, JV296, JX296⟩ (by rcases hz296 with q | q | q <;> omega) hb296 (Nat.le_trans Z0 sz_b259) (Nat.le_trans Z0 sz_d296) (by rw [lW296]; omega)) e297 (by decide) (by decide) (by decide) (by decide) (g := (mkF m 40 #[.val (.ref o)] [(.long v), (.ref b259)])) rfl (by rw [hml]; rfl) JE296 (argsL := [(.long v)]) (rest := []) opd_33 rfl rfl rfl (by show 2 * 0 + _ ≤ _; exact Nat.le_of_eq rfl) (hb hby d7_7_40)
  obtain ⟨rfl, N302, K302, d302, k302, hd302, J302⟩ := hQ302
  have NN302 := Fr.app NN296 N302
  have KK302 : Keep h0 T302.heap [] := KK296.trans K302 (allS (Or.inr sz_b259) (allS (Or.inr sz_d296) all0))
  have H302 := CHv.keep K302 (sfS q301 (sfS q299 sf0)) H296
  have R302 := CHr.trans R296 (CHr.keep K302 (sfS q301 (sfS q299 sf0)) H296)
  refine og st302 ?_
  obtain ⟨W302, hW302⟩ : ∃ z, z = W296 ++ own_num v n := ⟨_, rfl⟩
  have lW302 : W302.length = 0 + 6 + 2 + 8 + 1 + 10 + (own_wl n + own_sg v) := by rw [hW302, List.length_append, lW296, own_numlen]
  obtain ⟨z302, ez302⟩ : ∃ z, z = own_cap z296 (W296.length + (own_wl n + own_sg v)) := ⟨_, rfl⟩
  have hz302 : z302 = 16 ∨ z302 = 34 ∨ z302 = 70 := by rw [ez302]; exact own_capin hz296 hb296 (by rw [lW296]; omega) (by rw [lW296]; intro q; omega)
  have hb302 : W302.length ≤ z302 := by rw [ez302, hW302, List.length_append, own_numlen]; exact own_cap_ge _ _
  rw [← ez302, ← hW302] at J302
  obtain ⟨JE302, JF302, JC302, JN302, JV302, JX302⟩ := J302
  have sz_d302 : h0.size ≤ d302 := hd302.elim (fun q => q ▸ sz_d296) (fun q => Nat.le_trans KK296.1 q)
  have nb302 : b259 ≠ d302 := JE302.neArv JV302 (own_g hw 74 rfl)
  obtain ⟨a303, T303, h303, kk303, d303, kd303, X303, e303, E303, hS303, hk303, hZ303, hown303, A303, C303, F303, V303, lt303, ltd303, CR303, Li303, sf303, st303⟩ := ldcCH X302 hx hZ292 hown292 (own_g hw 189 rfl) (own_wS hw) rfl hS292 (Nat.le_trans (Nat.le_trans hk292 K296.1) K302.1) (own_hEL hw) (List.mem_of_getElem? (i := 5) rfl) H302 (vs := [(.int (44 : Int32)), (.int (32 : Int32)), (.int (99 : Int32)), (.int (104 : Int32)), (.int (101 : Int32)), (.int (99 : Int32)), (.int (107 : Int32)), (.int (112 : Int32)), (.int (111 : Int32)), (.int (105 : Int32)), (.int (110 : Int32)), (.int (116 : Int32)), (.int (32 : Int32))]) (z := (13 : Int32)) (by decide) (by decide) (by decide) (g := (mkF m 43 #[.val (.ref o)] [(.ref b259)])) rfl (hb hby d7_7_43) (n := 52) (by decide) (by decide) (by decide) (by decide)
  have KK303 : Keep h0 h303 [] := KK302.ext E303
  have H303 := CR303.1
  have R303 := CHr.trans R302 CR303
  refine og st303 ?_
  have LV303 : Arv Z h303 d303 kd303 .byte (Int32.ofNat own_l75.length) own_l75 (.int (0 : Int32)) := V303
  have q304 := (CHr.safe CR303 JV302.lt (Safe.keep K302 (sfS q301 (sfS q299 sf0)) H296 (own_safeAlt q299 hd302)))
  have q305 := ((q300.keep K302 (allS (Nat.le_trans Z0 sz_b259) (allS (Nat.le_trans Z0 sz_d296) all0))).ext E303)
  have q306 := (CHr.safe CR303 JF302.lt (Safe.keep K302 (sfS q301 (sfS q299 sf0)) H296 q301))
  obtain ⟨v307, T307, L307, X307, hQ307, st307⟩ := vcall X303 hx hZ303 hown303 (own_g hw 92 rfl) (own_g hw 93 rfl) (own_g hw 95 rfl) rfl (own_g hw 95 rfl) (own_g hw 94 rfl) (own_g hw 75 rfl) (own_g hw 96 rfl) (by decide) (W := 0) (rm_sbAppG l Z a0 hw [] b259 d302 k302 z302 W302 a303 d303 kd303 own_l75 zc wf n0 h303 SS' q305 ⟨(JE302.ext E303), (JF302.ext E303), (JC302.ext E303), (JN302.ext E303), (JV302.ext E303), (JX302.ext E303)⟩ (by rcases hz302 with q | q | q <;> omega) hb302 ⟨A303, C303, F303, LV303⟩ (Nat.le_trans Z0 sz_b259) (Nat.le_trans Z0 sz_d302) (by rw [lW302, own_n75]; omega) (Ne.symm (sf303 _ q304).2) (Ne.symm (sf303 _ q306).1)) e303 (by decide) (by decide) (by decide) (by decide) (g := (mkF m 45 #[.val (.ref o)] [(.ref a303), (.ref b259)])) rfl (by rw [hml]; rfl) (JE302.ext E303) (argsL := [(.ref a303)]) (rest := []) opd_32 rfl rfl rfl (by show 2 * 0 + _ ≤ _; exact Nat.le_of_eq rfl) (hb hby d7_7_45)
  obtain ⟨rfl, N307, K307, d307, k307, hd307, J307⟩ := hQ307
  have NN307 := Fr.app NN302 N307
  have KK307 : Keep h0 T307.heap [] := KK303.trans K307 (allS (Or.inr sz_b259) (allS (Or.inr sz_d302) all0))
  have H307 := CHv.keep K307 (sfS q306 (sfS q304 sf0)) H303
  have R307 := CHr.trans R303 (CHr.keep K307 (sfS q306 (sfS q304 sf0)) H303)
  refine og st307 ?_
  obtain ⟨W307, hW307⟩ : ∃ z, z = W302 ++ own_l75 := ⟨_, rfl⟩
  have lW307 : W307.length = 0 + 6 + 2 + 8 + 1 + 10 + (own_wl n + own_sg v) + 13 := by rw [hW307, List.length_append, lW302, own_n75]
  obtain ⟨z307, ez307⟩ : ∃ z, z = own_cap z302 (W302.length + own_l75.length) := ⟨_, rfl⟩
  have hz307 : z307 = 16 ∨ z307 = 34 ∨ z307 = 70 := by rw [ez307]; exact own_capin hz302 hb302 (by rw [lW302, own_n75]; omega) (by rw [lW302, own_n75]; intro q; omega)
  have hb307 : W307.length ≤ z307 := by rw [ez307, hW307, List.length_append]; exact own_cap_ge _ _
  rw [← ez307, ← hW307] at J307
  obtain ⟨JE307, JF307, JC307, JN307, JV307, JX307⟩ := J307
  have sz_d307 : h0.size ≤ d307 := hd307.elim (fun q => q ▸ sz_d302) (fun q => Nat.le_trans KK303.1 q)
  have nb307 : b259 ≠ d307 := JE307.neArv JV307 (own_g hw 74 rfl)
  refine og (fun _ k => XS.aloadN X307.here hx rfl (hb hby d7_7_48) rfl rfl k) ?_
  have q309 := (((((((((((((F3.ext E259).keep K261 (ninS (Nat.ne_of_lt (Nat.lt_of_lt_of_le F0.lt sz_b259)) nin0)).ext E262).keep K266 (ninS (Nat.ne_of_lt (Nat.lt_of_lt_of_le F0.lt sz_b259)) (ninS (Nat.ne_of_lt (Nat.lt_of_lt_of_le F0.lt sz_d261)) nin0))).keep K276 (ninS (Nat.ne_of_lt (Nat.lt_of_lt_of_le F0.lt sz_b259)) (ninS (Nat.ne_of_lt (Nat.lt_of_lt_of_le F0.lt sz_d266)) nin0))).ext E277).keep K281 (ninS (Nat.ne_of_lt (Nat.lt_of_lt_of_le F0.lt sz_b259)) (ninS (Nat.ne_of_lt (Nat.lt_of_lt_of_le F0.lt sz_d276)) nin0))).keep K291 (ninS (Nat.ne_of_lt (Nat.lt_of_lt_of_le F0.lt sz_b259)) (ninS (Nat.ne_of_lt (Nat.lt_of_lt_of_le F0.lt sz_d281)) nin0))).ext E292).keep K296 (ninS (Nat.ne_of_lt (Nat.lt_of_lt_of_le F0.lt sz_b259)) (ninS (Nat.ne_of_lt (Nat.lt_of_lt_of_le F0.lt sz_d291)) nin0))).keep K302 (ninS (Nat.ne_of_lt (Nat.lt_of_lt_of_le F0.lt sz_b259)) (ninS (Nat.ne_of_lt (Nat.lt_of_lt_of_le F0.lt sz_d296)) nin0))).ext E303).keep K307 (ninS (Nat.ne_of_lt (Nat.lt_of_lt_of_le F0.lt sz_b259)) (ninS (Nat.ne_of_lt (Nat.lt_of_lt_of_le F0.lt sz_d302)) nin0)))
  obtain ⟨T308, X308, e308, st308⟩ := getF X307 hx hZ303 hown303 (host := "") (Or.inl (own_g hw 66 rfl)) Via.refl rfl q309 (g := (mkF m 49 #[.val (.ref o)] [(.ref o), (.ref b259)])) rfl rfl (hb hby d7_7_49)
  refine og st308 ?_
  have q310 := (Safe.keep K307 (sfS q306 (sfS q304 sf0)) H303 (own_safeAlt q304 hd307))
  have q311 := (q305.keep K307 (allS (Nat.le_trans Z0 sz_b259) (allS (Nat.le_trans Z0 sz_d302) all0)))
  have q312 := (((((((((((((I3E.ext E259).keep K261).ext E262).keep K266).keep K276).ext E277).keep K281).keep K291).ext E292).keep K296).keep K302).ext E303).keep K307)
  have q313 := (((((((((((((I3C.ext E259).keep K261 (ninS (Nat.ne_of_lt (Nat.lt_of_lt_of_le I3E.lt sz_b259)) nin0)).ext E262).keep K266 (ninS (Nat.ne_of_lt (Nat.lt_of_lt_of_le I3E.lt sz_b259)) (ninS (Nat.ne_of_lt (Nat.lt_of_lt_of_le I3E.lt sz_d261)) nin0))).keep K276 (ninS (Nat.ne_of_lt (Nat.lt_of_lt_of_le I3E.lt sz_b259)) (ninS (Nat.ne_of_lt (Nat.lt_of_lt_of_le I3E.lt sz_d266)) nin0))).ext E277).keep K281 (ninS (Nat.ne_of_lt (Nat.lt_of_lt_of_le I3E.lt sz_b259)) (ninS (Nat.ne_of_lt (Nat.lt_of_lt_of_le I3E.lt sz_d276)) nin0))).keep K291 (ninS (Nat.ne_of_lt (Nat.lt_of_lt_of_le I3E.lt sz_b259)) (ninS (Nat.ne_of_lt (Nat.lt_of_lt_of_le I3E.lt sz_d281)) nin0))).ext E292).keep K296 (ninS (Nat.ne_of_lt (Nat.lt_of_lt_of_le I3E.lt sz_b259)) (ninS (Nat.ne_of_lt (Nat.lt_of_lt_of_le I3E.lt sz_d291)) nin0))).keep K302 (ninS (Nat.ne_of_lt (Nat.lt_of_lt_of_le I3E.lt sz_b259)) (ninS (Nat.ne_of_lt (Nat.lt_of_lt_of_le I3E.lt sz_d296)) nin0))).ext E303).keep K307 (ninS (Nat.ne_of_lt (Nat.lt_of_lt_of_le I3E.lt sz_b259)) (ninS (Nat.ne_of_lt (Nat.lt_of_lt_of_le I3E.lt sz_d302)) nin0)))
  have q314 := (((((((((((((I3F.ext E259).keep K261 (ninS (Nat.ne_of_lt (Nat.lt_of_lt_of_le I3E.lt sz_b259)) nin0)).ext E262).keep K266 (ninS (Nat.ne_of_lt (Nat.lt_of_lt_of_le I3E.lt sz_b259)) (ninS (Nat.ne_of_lt (Nat.lt_of_lt_of_le I3E.lt sz_d261)) nin0))).keep K276 (ninS (Nat.ne_of_lt (Nat.lt_of_lt_of_le I3E.lt sz_b259)) (ninS (Nat.ne_of_lt (Nat.lt_of_lt_of_le I3E.lt sz_d266)) nin0))).ext E277).keep K281 (ninS (Nat.ne_of_lt (Nat.lt_of_lt_of_le I3E.lt sz_b259)) (ninS (Nat.ne_of_lt (Nat.lt_of_lt_of_le I3E.lt sz_d276)) nin0))).keep K291 (ninS (Nat.ne_of_lt (Nat.lt_of_lt_of_le I3E.lt sz_b259)) (ninS (Nat.ne_of_lt (Nat.lt_of_lt_of_le I3E.lt sz_d281)) nin0))).ext E292).keep K296 (ninS (Nat.ne_of_lt (Nat.lt_of_lt_of_le I3E.lt sz_b259)) (ninS (Nat.ne_of_lt (Nat.lt_of_lt_of_le I3E.lt sz_d291)) nin0))).keep K302 (ninS (Nat.ne_of_lt (Nat.lt_of_lt_of_le I3E.lt sz_b259)) (ninS (Nat.ne_of_lt (Nat.lt_of_lt_of_le I3E.lt sz_d296)) nin0))).ext E303).keep K307 (ninS (Nat.ne_of_lt (Nat.lt_of_lt_of_le I3E.lt sz_b259)) (ninS (Nat.ne_of_lt (Nat.lt_of_lt_of_le I3E.lt sz_d302)) nin0)))
  have q315 := (((((((((((((I3V.ext E259).keep K261 (ninS (Nat.ne_of_lt (Nat.lt_of_lt_of_le I3V.lt sz_b259)) nin0)).ext E262).keep K266 (ninS (Nat.ne_of_lt (Nat.lt_of_lt_of_le I3V.lt sz_b259)) (ninS (Nat.ne_of_lt (Nat.lt_of_lt_of_le I3V.lt sz_d261)) nin0))).keep K276 (ninS (Nat.ne_of_lt (Nat.lt_of_lt_of_le I3V.lt sz_b259)) (ninS (Nat.ne_of_lt (Nat.lt_of_lt_of_le I3V.lt sz_d266)) nin0))).ext E277).keep K281 (ninS (Nat.ne_of_lt (Nat.lt_of_lt_of_le I3V.lt sz_b259)) (ninS (Nat.ne_of_lt (Nat.lt_of_lt_of_le I3V.lt sz_d276)) nin0))).keep K291 (ninS (Nat.ne_of_lt (Nat.lt_of_lt_of_le I3V.lt sz_b259)) (ninS (Nat.ne_of_lt (Nat.lt_of_lt_of_le I3V.lt sz_d281)) nin0))).ext E292).keep K296 (ninS (Nat.ne_of_lt (Nat.lt_of_lt_of_le I3V.lt sz_b259)) (ninS (Nat.ne_of_lt (Nat.lt_of_lt_of_le I3V.lt sz_d291)) nin0))).keep K302 (ninS (Nat.ne_of_lt (Nat.lt_of_lt_of_le I3V.lt sz_b259)) (ninS (Nat.ne_of_lt (Nat.lt_of_lt_of_le I3V.lt sz_d296)) nin0))).ext E303).keep K307 (ninS (Nat.ne_of_lt (Nat.lt_of_lt_of_le I3V.lt sz_b259)) (ninS (Nat.ne_of_lt (Nat.lt_of_lt_of_le I3V.lt sz_d302)) nin0)))
  have q316 := (Safe.keep K307 (sfS q306 (sfS q304 sf0)) H303 q306)
  obtain ⟨v317, T317, L317, X317, hQ317, st317⟩ := vcall X308 hx hZ303 hown303 (own_g hw 92 rfl) (own_g hw 93 rfl) (own_g hw 95 rfl) rfl (own_g hw 95 rfl) (own_g hw 94 rfl) (own_g hw 75 rfl) (own_g hw 96 rfl) (by decide) (W := 0) (rm_sbAppG l Z a0 hw [] b259 d307 k307 z307 W307 a3 e3 k3 cs zc wf n0 T307.heap SS' q311 ⟨JE307, JF307, JC307, JN307, JV307, JX307⟩ (by rcases hz307 with q | q | q <;> omega) hb307 ⟨q312, q313, q314, q315⟩ (Nat.le_trans Z0 sz_b259) (Nat.le_trans Z0 sz_d307) (by rw [lW307, hcs]; omega) (Nat.ne_of_lt (Nat.lt_of_lt_of_le I3V.lt sz_d307)) (Nat.ne_of_lt (Nat.lt_of_lt_of_le I3E.lt sz_b259))) e308 (by decide) (by decide) (by decide) (by decide) (g := (mkF m 52 #[.val (.ref o)] [(.ref a3), (.ref b259)])) rfl (by rw [hml]; rfl) JE307 (argsL := [(.ref a3)]) (rest := []) opd_32 rfl rfl rfl (by show 2 * 0 + _ ≤ _; exact Nat.le_of_eq rfl) (hb hby d7_7_52)
  obtain ⟨rfl, N317, K317, d317, k317, hd317, J317⟩ := hQ317
  have NN317 := Fr.app NN307 N317
  have KK317 : Keep h0 T317.heap [] := KK307.trans K317 (allS (Or.inr sz_b259) (allS (Or.inr sz_d307) all0))
  have H317 := CHv.keep K317 (sfS q316 (sfS q310 sf0)) H307
  have R317 := CHr.trans R307 (CHr.keep K317 (sfS q316 (sfS q310 sf0)) H307)
  refine og st317 ?_
  obtain ⟨W317, hW317⟩ : ∃ z, z = W307 ++ cs := ⟨_, rfl⟩
  have lW317 : W317.length = 0 + 6 + 2 + 8 + 1 + 10 + (own_wl n + own_sg v) + 13 + 2 := by rw [hW317, List.length_append, lW307, hcs]
  obtain ⟨z317, ez317⟩ : ∃ z, z = own_cap z307 (W307.length + cs.length) := ⟨_, rfl⟩
  have hz317 : z317 = 16 ∨ z317 = 34 ∨ z317 = 70 := by rw [ez317]; exact own_capin hz307 hb307 (by rw [lW307, hcs]; omega) (by rw [lW307, hcs]; intro q; omega)
  have hb317 : W317.length ≤ z317 := by rw [ez317, hW317, List.length_append]; exact own_cap_ge _ _
  rw [← ez317, ← hW317] at J317
  obtain ⟨JE317, JF317, JC317, JN317, JV317, JX317⟩ := J317
  have sz_d317 : h0.size ≤ d317 := hd317.elim (fun q => q ▸ sz_d307) (fun q => Nat.le_trans KK307.1 q)
  have nb317 : b259 ≠ d317 := JE317.neArv JV317 (own_g hw 74 rfl)
  obtain ⟨a318, T318, h318, kk318, d318, kd318, X318, e318, E318, hS318, hk318, hZ318, hown318, A318, C318, F318, V318, lt318, ltd318, CR318, Li318, sf318, st318⟩ := ldcCH X317 hx hZ303 hown303 (own_g hw 190 rfl) (own_wS hw) rfl hS303 (Nat.le_trans (Nat.le_trans hk303 K307.1) K317.1) (own_hEL hw) (List.mem_of_getElem? (i := 6) rfl) H317 (vs := [(.int (41 : Int32))]) (z := (1 : Int32)) (by decide) (by decide) (by decide) (g := (mkF m 55 #[.val (.ref o)] [(.ref b259)])) rfl (hb hby d7_7_55) (n := 4) (by decide) (by decide) (by decide) (by decide)
  have KK318 : Keep h0 h318 [] := KK317.ext E318
  have H318 := CR318.1
  have R318 := CHr.trans R317 CR318
  refine og st318 ?_
  have LV318 : Arv Z h318 d318 kd318 .byte (Int32.ofNat own_l77.length) own_l77 (.int (0 : Int32)) := V318
  have q319 := (CHr.safe CR318 JV317.lt (Safe.keep K317 (sfS q316 (sfS q310 sf0)) H307 (own_safeAlt q310 hd317)))
  have q320 := ((q311.keep K317 (allS (Nat.le_trans Z0 sz_b259) (allS (Nat.le_trans Z0 sz_d307) all0))).ext E318)
  have q321 := (CHr.safe CR318 JF317.lt (Safe.keep K317 (sfS q316 (sfS q310 sf0)) H307 q316))
  obtain ⟨v322, T322, L322, X322, hQ322, st322⟩ := vcall X318 hx hZ318 hown318 (own_g hw 92 rfl) (own_g hw 93 rfl) (own_g hw 95 rfl) rfl (own_g hw 95 rfl) (own_g hw 94 rfl) (own_g hw 75 rfl) (own_g hw 96 rfl) (by decide) (W := 0) (rm_sbAppG l Z a0 hw [] b259 d317 k317 z317 W317 a318 d318 kd318 own_l77 zc wf n0 h318 SS' q320 ⟨(JE317.ext E318), (JF317.ext E318), (JC317.ext E318), (JN317.ext E318), (JV317.ext E318), (JX317.ext E318)⟩ (by rcases hz317 with q | q | q <;> omega) hb317 ⟨A318, C318, F318, LV318⟩ (Nat.le_trans Z0 sz_b259) (Nat.le_trans Z0 sz_d317) (by rw [lW317, own_n77]; omega) (Ne.symm (sf318 _ q319).2) (Ne.symm (sf318 _ q321).1)) e318 (by decide) (by decide) (by decide) (by decide) (g := (mkF m 57 #[.val (.ref o)] [(.ref a318), (.ref b259)])) rfl (by rw [hml]; rfl) (JE317.ext E318) (argsL := [(.ref a318)]) (rest := []) opd_32 rfl rfl rfl (by show 2 * 0 + _ ≤ _; exact Nat.le_of_eq rfl) (hb hby d7_7_57)
  obtain ⟨rfl, N322, K322, d322, k322, hd322, J322⟩ := hQ322
  have NN322 := Fr.app NN317 N322
  have KK322 : Keep h0 T322.heap [] := KK318.trans K322 (allS (Or.inr sz_b259) (allS (Or.inr sz_d317) all0))
  have H322 := CHv.keep K322 (sfS q321 (sfS q319 sf0)) H318
  have R322 := CHr.trans R318 (CHr.keep K322 (sfS q321 (sfS q319 sf0)) H318)
  refine og st322 ?_
  obtain ⟨W322, hW322⟩ : ∃ z, z = W317 ++ own_l77 := ⟨_, rfl⟩
  have lW322 : W322.length = 0 + 6 + 2 + 8 + 1 + 10 + (own_wl n + own_sg v) + 13 + 2 + 1 := by rw [hW322, List.length_append, lW317, own_n77]
  obtain ⟨z322, ez322⟩ : ∃ z, z = own_cap z317 (W317.length + own_l77.length) := ⟨_, rfl⟩
  have hz322 : z322 = 16 ∨ z322 = 34 ∨ z322 = 70 := by rw [ez322]; exact own_capin hz317 hb317 (by rw [lW317, own_n77]; omega) (by rw [lW317, own_n77]; intro q; omega)
  have hb322 : W322.length ≤ z322 := by rw [ez322, hW322, List.length_append]; exact own_cap_ge _ _
  rw [← ez322, ← hW322] at J322
  obtain ⟨JE322, JF322, JC322, JN322, JV322, JX322⟩ := J322
  have sz_d322 : h0.size ≤ d322 := hd322.elim (fun q => q ▸ sz_d317) (fun q => Nat.le_trans KK318.1 q)
  have nb322 : b259 ≠ d322 := JE322.neArv JV322 (own_g hw 74 rfl)
  have q323 := (q320.keep K322 (allS (Nat.le_trans Z0 sz_b259) (allS (Nat.le_trans Z0 sz_d317) all0)))
  obtain ⟨v324, T324, L324, X324, hQ324, st324⟩ := vcall X322 hx hZ318 hown318 (own_g hw 191 rfl) (own_g hw 192 rfl) (own_g hw 194 rfl) rfl (own_g hw 194 rfl) (own_g hw 193 rfl) (own_g hw 75 rfl) (own_g hw 195 rfl) (by decide) (W := 0) (rm_toS l Z a0 hw [] b259 d322 k322 z322 W322 zc wf n0 T322.heap SS' q323 ⟨JE322, JF322, JC322, JN322, JV322, JX322⟩ (by rcases hz322 with q | q | q <;> omega) (by have := hb322; rw [lW322] at *; rcases hz322 with q | q | q <;> omega) (by rw [lW322]; omega)) rfl (by decide) (by decide) (by decide) (by decide) (g := (mkF m 60 #[.val (.ref o)] [(.ref b259)])) rfl (by rw [hml]; rfl) JE322 (argsL := []) (rest := []) opd_34 rfl rfl rfl (by show 2 * 0 + _ ≤ _; exact Nat.le_of_eq rfl) (hb hby d7_7_60)
  obtain ⟨a324, r324, kr324, rfl, sa324, sr324, N324, K324, I324⟩ := hQ324
  have NN324 := Fr.app NN322 N324
  have KK324 : Keep h0 T324.heap [] := KK322.trans K324 all0
  have H324 := CHv.keep K324 sf0 H322
  have R324 := CHr.trans R322 (CHr.keep K324 sf0 H322)
  have sz_a324 : h0.size ≤ a324 := Nat.le_trans KK322.1 sa324
  have sz_r324 : h0.size ≤ r324 := Nat.le_trans KK322.1 sr324
  refine og st324 ?_
  obtain ⟨IE324, IC324, IF324, IV324⟩ := I324
  have hWf : W322 = own_l66 ++ ks ++ own_l68 ++ os ++ own_l70 ++ own_num v n ++ own_l75 ++ cs ++ own_l77 := by rw [hW322, hW317, hW307, hW302, hW296, hW291, hW281, hW276, hW266]; simp only [List.nil_append]
  show OGo p e below _ T324 (mkF m 63 #[.val (.ref o)] [(.ref a324)])
  exact OGo.retH X324 hx hZ318 (own_hEL hw) hs0 rfl hS318 (Nat.le_trans (Nat.le_trans hk318 K322.1) K324.1) H324 R324 (t := (.object "java/lang/String")) hret hlk rfl (Or.inr (Or.inr (Or.inr (Or.inr ⟨rfl, rfl, rfl⟩)))) (hb hby d7_7_63) (by decide) (by decide) ⟨a324, r324, _, rfl, sz_a324, NN324, KK324, by rw [← hWf]; exact ⟨IE324, IC324, IF324, IV324⟩⟩
theorem d_method_2_0 : DK method_2_code 0 (.iload_n 1) 1 := by decide +kernel
theorem d_method_2_1 : DK method_2_code 1 (.ifCond .lt 24) 3 := by decide +kernel
theorem d_method_2_4 : DK method_2_code 4 (.iload_n 1) 1 := by decide +kernel
theorem d_method_2_5 : DK method_2_code 5 (.aload_n 0) 1 := by decide +kernel
theorem d_method_2_6 : DK method_2_code 6 (.invokevirtual 7) 3 := by decide +kernel
theorem d_method_2_9 : DK method_2_code 9 (.if_icmp .ge 16) 3 := by decide +kernel
theorem d_method_2_12 : DK method_2_code 12 (.aload_n 0) 1 := by decide +kernel
theorem d_method_2_13 : DK method_2_code 13 (.iload_n 1) 1 := by decide +kernel
theorem opd_35 : parseMethodDescriptor "(I)C" = some ⟨[.int], some .char⟩ := by decide +kernel
theorem d_method_2_14 : DK method_2_code 14 (.invokevirtual 13) 3 := by decide +kernel
theorem d_method_2_17 : DK method_2_code 17 (.iload_n 2) 1 := by decide +kernel
theorem d_method_2_18 : DK method_2_code 18 (.if_icmp .ne 7) 3 := by decide +kernel
theorem d_method_2_21 : DK method_2_code 21 (.iconst 1) 1 := by decide +kernel
theorem d_method_2_22 : DK method_2_code 22 (.goto 4) 3 := by decide +kernel
theorem d_method_2_26 : DK method_2_code 26 .ireturn 1 := by decide +kernel
theorem opl_rm_at : plainFor (⟨"com/example/drain_shards/drainshards/LeaseToStringPinLaw", "at", "(Ljava/lang/String;IC)Z"⟩ : MethodName) = true := plainFor_of_name (by first | (simp [plainName, overriddenIn]; done) | decide +kernel)
theorem rm_at (l : Launch) (Z : State) (a0 : Array Value) (hw : ∀ d ∈ tables_1, d.before a0 Z = true) (ws : List Jvm.Cond) (a d : Addr) (k : ClassId) (us : List Value) (i b x : Int32) (zc : Int32) (wf : Value) (n0 : Nat) (h0 : Heap) (SS : own_SS Z zc wf) (O : Old Z n0 h0) (I : STI Z h0 a d k us) (hi0 : ¬ i < 0) (hi1 : i < Int32.ofNat us.length) (hat : us.getD i.toNatClampNeg (.int (0 : Int32)) = .int b) (hbc : (b &&& 255) = x) :
    Con l Z (⟨"com/example/drain_shards/drainshards/LeaseToStringPinLaw", "at", "(Ljava/lang/String;IC)Z"⟩ : MethodName) method_2_code 3 (some .boolean) ws ({ frames := 4, cells := 0, slots := 0, locals := 53 } : Room) #[(.ref a), (.int i), (.int x)] h0 (fun v h L => v = some (.int (1 : Int32)) ∧ L = [] ∧ h = h0) := by
  refine Con.intro opl_rm_at ?_
  intro p e s m below meth c s₁ hx hby hml hown hret hlk hZ hnm X0 e0
  have SS' := SS
  obtain ⟨hzc, SC, hwf, SF⟩ := SS
  have Z0 : n0 ≤ h0.size := O.1 ▸ O.2.1
  have N0 := Fr.nil n0
  obtain ⟨IE, IC, IF, IV⟩ := I
  refine OGo.cast (g' := (mkF m 0 #[.val (.ref a), .val (.int i), .val (.int x)] [])) (by first | (simp [entryFrame, mkF, argsToLocals, Value.category]; done) | rfl) ?_
  refine og (fun _ k => XS.iloadN X0.here hx rfl (hb hby d_method_2_0) rfl k) ?_
  refine og (fun _ k => XS.ifNo X0.here hx rfl (hb hby d_method_2_1) rfl ((if0 _ _).trans (flt hi0).1) k) ?_
  refine og (fun _ k => XS.iloadN X0.here hx rfl (hb hby d_method_2_4) rfl k) ?_
  refine og (fun _ k => XS.aloadN X0.here hx rfl (hb hby d_method_2_5) rfl rfl k) ?_
  obtain ⟨v325, T325, L325, X325, hQ325, st325⟩ := vcall X0 hx hZ hown (own_g hw 251 rfl) (own_g hw 103 rfl) (own_g hw 105 rfl) rfl (own_g hw 105 rfl) (own_g hw 104 rfl) (own_g hw 2 rfl) (own_g hw 106 rfl) (by decide) (W := 1) (rm_length l Z a0 hw [] a d k us zc wf n0 h0 SS' O ⟨IE, IC, IF, IV⟩) e0 (by decide) (by decide) (by decide) (by decide) (g := (mkF m 6 #[.val (.ref a), .val (.int i), .val (.int x)] [(.ref a), (.int i)])) rfl (by rw [hml]; rfl) IE (argsL := []) (rest := [(.int i)]) opd_11 rfl rfl rfl (by show 2 * 0 + _ ≤ _; exact Nat.le_of_eq rfl) (hb hby d_method_2_6)
  obtain ⟨rfl, rfl, e325⟩ := hQ325
  rw [List.append_nil] at X325
  refine og st325 ?_
  refine og (fun _ k => XS.icmpNo X325.here hx rfl (hb hby d_method_2_9) rfl (tlt hi1).2.1 k) ?_
  refine og (fun _ k => XS.aloadN X325.here hx rfl (hb hby d_method_2_12) rfl rfl k) ?_
  refine og (fun _ k => XS.iloadN X325.here hx rfl (hb hby d_method_2_13) rfl k) ?_
  obtain ⟨v326, T326, L326, X326, hQ326, st326⟩ := vcall X325 hx hZ hown (own_g hw 255 rfl) (own_g hw 256 rfl) (own_g hw 258 rfl) rfl (own_g hw 258 rfl) (own_g hw 257 rfl) (own_g hw 2 rfl) (own_g hw 259 rfl) (by decide) (W := 0) (rm_charAt l Z a0 hw [] a d k us i b zc wf n0 h0 SS' O ⟨IE, IC, IF, IV⟩ hi0 hi1 hat) e325 (by decide) (by decide) (by decide) (by decide) (g := (mkF m 14 #[.val (.ref a), .val (.int i), .val (.int x)] [(.int i), (.ref a)])) rfl (by rw [hml]; rfl) IE (argsL := [(.int i)]) (rest := []) opd_35 rfl rfl rfl (by show 2 * 0 + _ ≤ _; exact Nat.le_of_eq rfl) (hb hby d_method_2_14)
  obtain ⟨rfl, rfl, e326⟩ := hQ326
  rw [List.append_nil] at X326
  refine og st326 ?_
  refine og (fun _ k => XS.iloadN X326.here hx rfl (hb hby d_method_2_17) rfl k) ?_
  refine og (fun _ k => XS.icmpNo X326.here hx rfl (hb hby d_method_2_18) rfl (teq hbc).2 k) ?_
  refine og (fun _ k => XS.iconst X326.here hx rfl (hb hby d_method_2_21) k) ?_
  refine og (fun _ k => XS.goto X326.here hx rfl (pc0 := 22) (pc' := 26) rfl (hb hby d_method_2_22) (by decide) (by decide) k) ?_
  show OGo p e below _ T326 (mkF m 26 #[.val (.ref a), .val (.int i), .val (.int x)] [(.int (1 : Int32))])
  exact OGo.ret X326 hx (t := .boolean) hret hlk rfl (Or.inl ⟨rfl, by simp, _, rfl⟩) (hb hby d_method_2_26) (by decide) (by decide) ⟨rfl, rfl, e326⟩
theorem own_magI {v : Int64} {n : Nat} (h : own_mag v n) : (v < 0 → v.toInt = -(n : Int)) ∧ (¬ v < 0 → v.toInt = (n : Int)) := by
  obtain ⟨h1, h2⟩ := h
  have e := Jvm.Free.SBG.negL_toInt (n := n) h1
  constructor
  · intro hv; rw [if_pos hv] at h2; rw [h2]; exact e
  · intro hv
    rw [if_neg hv] at h2
    have c := c_lneg v
    rw [h2, e] at c
    have r := rng64 v
    have hv' : ¬ v.toInt < 0 := fun q => hv (Int64.lt_iff_toInt_lt.mpr q)
    omega
theorem own_ltz {v : Int64} : v < 0 ↔ v.toInt < 0 := Int64.lt_iff_toInt_lt
/-- v / 10^i, in terms of n -/
theorem own_dv {v p : Int64} {n P : Nat} (h : own_mag v n) (hp : p.toInt = (P : Int)) (h1 : ¬ p = -1) : (v < 0 → (v / p).toInt = -((n / P : Nat) : Int)) ∧ (¬ v < 0 → (v / p).toInt = ((n / P : Nat) : Int)) := by
  obtain ⟨a, b⟩ := own_magI h
  have c := c_ldiv v p (P : Int) hp h1
  constructor
  · intro hv
    have e := a hv
    rw [c.2 (own_ltz.mp hv), e, Int.neg_neg, Int.natCast_ediv]
  · intro hv
    have e := b hv
    rw [c.1 (by rw [e]; omega), e, Int.natCast_ediv]
theorem own_nz0 {v p : Int64} {n P : Nat} (h : own_mag v n) (hp : p.toInt = (P : Int)) (h1 : ¬ p = -1) (hP : 1 ≤ P) : v / p = 0 ↔ ¬ P ≤ n := by
  obtain ⟨a, b⟩ := own_dv h hp h1
  have z0 : (0 : Int64).toInt = 0 := rfl
  have key : (v / p).toInt = 0 ↔ n / P = 0 := by
    by_cases hv : v < 0
    · rw [a hv]; omega
    · rw [b hv]; omega
  rw [← Int64.toInt_inj, z0, key, Nat.div_eq_zero_iff]
  omega
theorem d_method_3_0 : DK method_3_code 0 (.lload_n 0) 1 := by decide +kernel
theorem d_method_3_1 : DK method_3_code 1 (.lload_n 2) 1 := by decide +kernel
theorem d_method_3_2 : DK method_3_code 2 .ldiv 1 := by decide +kernel
theorem d_method_3_3 : DK method_3_code 3 (.lconst 0) 1 := by decide +kernel
theorem d_method_3_4 : DK method_3_code 4 .lcmp 1 := by decide +kernel
theorem d_method_3_5 : DK method_3_code 5 (.ifCond .eq 7) 3 := by decide +kernel
theorem d_method_3_12 : DK method_3_code 12 (.iconst 0) 1 := by decide +kernel
theorem d_method_3_13 : DK method_3_code 13 .ireturn 1 := by decide +kernel
theorem d_method_3_8 : DK method_3_code 8 (.iconst 1) 1 := by decide +kernel
theorem d_method_3_9 : DK method_3_code 9 (.goto 4) 3 := by decide +kernel
theorem opl_rm_nz : plainFor (⟨"com/example/drain_shards/drainshards/LeaseToStringPinLaw", "nz", "(JJ)I"⟩ : MethodName) = true := plainFor_of_name (by first | (simp [plainName, overriddenIn]; done) | decide +kernel)
theorem rm_nz (l : Launch) (Z : State) (a0 : Array Value) (hw : ∀ d ∈ tables_1, d.before a0 Z = true) (ws : List Jvm.Cond) (v pp : Int64) (n P : Nat) (h0 : Heap) (hm : own_mag v n) (hp : pp.toInt = (P : Int)) (h1 : ¬ pp = -1) (h0p : ¬ pp = 0) (hP : 1 ≤ P) :
    Con l Z (⟨"com/example/drain_shards/drainshards/LeaseToStringPinLaw", "nz", "(JJ)I"⟩ : MethodName) method_3_code 4 (some .int) ws ({ frames := 0, cells := 0, slots := 0, locals := 0 } : Room) #[(.long v), (.long pp)] h0 (fun v h L => v = some (.int (Int32.ofNat (if P ≤ n then 1 else 0))) ∧ L = [] ∧ h = h0) := by
  refine Con.intro opl_rm_nz ?_
  intro p e s m below meth c s₁ hx hby hml hown hret hlk hZ hnm X0 e0
  refine OGo.cast (g' := (mkF m 0 #[.val (.long v), .second, .val (.long pp), .second] [])) (by first | (simp [entryFrame, mkF, argsToLocals, Value.category]; done) | rfl) ?_
  refine og (fun _ k => XS.lloadN X0.here hx rfl (hb hby d_method_3_0) rfl k) ?_
  refine og (fun _ k => XS.lloadN X0.here hx rfl (hb hby d_method_3_1) rfl k) ?_
  refine og (fun _ k => XS.ldiv X0.here hx rfl (hb hby d_method_3_2) rfl h0p k) ?_
  refine og (fun _ k => XS.lconst X0.here hx rfl (hb hby d_method_3_3) k) ?_
  refine og (fun _ k => XS.lcmp X0.here hx rfl (hb hby d_method_3_4) rfl k) ?_
  by_cases q : P ≤ n
  case neg =>
    refine og (fun _ k => XS.ifYes X0.here hx rfl (pc0 := 5) (pc' := 12) rfl (hb hby d_method_3_5) rfl ((if0 _ _).trans (teq ((lw_eq _ _).mpr ((own_nz0 hm hp h1 hP).mpr q))).1) (by decide) (by decide) k) ?_
    refine og (fun _ k => XS.iconst X0.here hx rfl (hb hby d_method_3_12) k) ?_
    show OGo p e below _ s₁ (mkF m 13 #[.val (.long v), .second, .val (.long pp), .second] [(.int (0 : Int32))])
    exact OGo.ret X0 hx (t := .int) hret hlk rfl (Or.inl ⟨rfl, by simp, _, rfl⟩) (hb hby d_method_3_13) (by decide) (by decide) ⟨by rw [if_neg q]; rfl, rfl, e0⟩
  refine og (fun _ k => XS.ifNo X0.here hx rfl (hb hby d_method_3_5) rfl ((if0 _ _).trans (feq (fun h => absurd q ((own_nz0 hm hp h1 hP).mp ((lw_eq _ _).mp h)))).1) k) ?_
  refine og (fun _ k => XS.iconst X0.here hx rfl (hb hby d_method_3_8) k) ?_
  refine og (fun _ k => XS.goto X0.here hx rfl (pc0 := 9) (pc' := 13) rfl (hb hby d_method_3_9) (by decide) (by decide) k) ?_
  show OGo p e below _ s₁ (mkF m 13 #[.val (.long v), .second, .val (.long pp), .second] [(.int (1 : Int32))])
  exact OGo.ret X0 hx (t := .int) hret hlk rfl (Or.inl ⟨rfl, by simp, _, rfl⟩) (hb hby d_method_3_13) (by decide) (by decide) ⟨by rw [if_pos q]; rfl, rfl, e0⟩
theorem d_method_4_0 : DK method_4_code 0 (.iconst 1) 1 := by decide +kernel
theorem d_method_4_1 : DK method_4_code 1 (.lload_n 0) 1 := by decide +kernel
theorem d_method_4_2 : DK method_4_code 2 (.ldc2_w 17) 3 := by decide +kernel
theorem opd_36 : parseMethodDescriptor "(JJ)I" = some ⟨[.long, .long], some .int⟩ := by decide +kernel
theorem d_method_4_5 : DK method_4_code 5 (.invokestatic 19) 3 := by decide +kernel
theorem d_method_4_8 : DK method_4_code 8 .iadd 1 := by decide +kernel
theorem d_method_4_9 : DK method_4_code 9 (.lload_n 0) 1 := by decide +kernel
theorem d_method_4_10 : DK method_4_code 10 (.ldc2_w 25) 3 := by decide +kernel
theorem d_method_4_13 : DK method_4_code 13 (.invokestatic 19) 3 := by decide +kernel
theorem d_method_4_16 : DK method_4_code 16 .iadd 1 := by decide +kernel
theorem d_method_4_17 : DK method_4_code 17 (.lload_n 0) 1 := by decide +kernel
theorem d_method_4_18 : DK method_4_code 18 (.ldc2_w 27) 3 := by decide +kernel
theorem d_method_4_21 : DK method_4_code 21 (.invokestatic 19) 3 := by decide +kernel
theorem d_method_4_24 : DK method_4_code 24 .iadd 1 := by decide +kernel
theorem d_method_4_25 : DK method_4_code 25 (.lload_n 0) 1 := by decide +kernel
theorem d_method_4_26 : DK method_4_code 26 (.ldc2_w 29) 3 := by decide +kernel
theorem d_method_4_29 : DK method_4_code 29 (.invokestatic 19) 3 := by decide +kernel
theorem d_method_4_32 : DK method_4_code 32 .iadd 1 := by decide +kernel
theorem d_method_4_33 : DK method_4_code 33 (.lload_n 0) 1 := by decide +kernel
theorem d_method_4_34 : DK method_4_code 34 (.ldc2_w 31) 3 := by decide +kernel
theorem d_method_4_37 : DK method_4_code 37 (.invokestatic 19) 3 := by decide +kernel
theorem d_method_4_40 : DK method_4_code 40 .iadd 1 := by decide +kernel
theorem d_method_4_41 : DK method_4_code 41 (.lload_n 0) 1 := by decide +kernel
theorem d_method_4_42 : DK method_4_code 42 (.ldc2_w 33) 3 := by decide +kernel
theorem d_method_4_45 : DK method_4_code 45 (.invokestatic 19) 3 := by decide +kernel
theorem d_method_4_48 : DK method_4_code 48 .iadd 1 := by decide +kernel
theorem d_method_4_49 : DK method_4_code 49 (.lload_n 0) 1 := by decide +kernel
theorem d_method_4_50 : DK method_4_code 50 (.ldc2_w 35) 3 := by decide +kernel
theorem d_method_4_53 : DK method_4_code 53 (.invokestatic 19) 3 := by decide +kernel
theorem d_method_4_56 : DK method_4_code 56 .iadd 1 := by decide +kernel
theorem d_method_4_57 : DK method_4_code 57 (.lload_n 0) 1 := by decide +kernel
theorem d_method_4_58 : DK method_4_code 58 (.ldc2_w 37) 3 := by decide +kernel
theorem d_method_4_61 : DK method_4_code 61 (.invokestatic 19) 3 := by decide +kernel
theorem d_method_4_64 : DK method_4_code 64 .iadd 1 := by decide +kernel
theorem d_method_4_65 : DK method_4_code 65 (.lload_n 0) 1 := by decide +kernel
theorem d_method_4_66 : DK method_4_code 66 (.ldc2_w 39) 3 := by decide +kernel
theorem d_method_4_69 : DK method_4_code 69 (.invokestatic 19) 3 := by decide +kernel
theorem d_method_4_72 : DK method_4_code 72 .iadd 1 := by decide +kernel
theorem d_method_4_73 : DK method_4_code 73 (.lload_n 0) 1 := by decide +kernel
theorem d_method_4_74 : DK method_4_code 74 (.ldc2_w 41) 3 := by decide +kernel
theorem d_method_4_77 : DK method_4_code 77 (.invokestatic 19) 3 := by decide +kernel
theorem d_method_4_80 : DK method_4_code 80 .iadd 1 := by decide +kernel
theorem d_method_4_81 : DK method_4_code 81 (.lload_n 0) 1 := by decide +kernel
theorem d_method_4_82 : DK method_4_code 82 (.ldc2_w 43) 3 := by decide +kernel
theorem d_method_4_85 : DK method_4_code 85 (.invokestatic 19) 3 := by decide +kernel
theorem d_method_4_88 : DK method_4_code 88 .iadd 1 := by decide +kernel
theorem d_method_4_89 : DK method_4_code 89 (.lload_n 0) 1 := by decide +kernel
theorem d_method_4_90 : DK method_4_code 90 (.ldc2_w 45) 3 := by decide +kernel
theorem d_method_4_93 : DK method_4_code 93 (.invokestatic 19) 3 := by decide +kernel
theorem d_method_4_96 : DK method_4_code 96 .iadd 1 := by decide +kernel
theorem d_method_4_97 : DK method_4_code 97 (.lload_n 0) 1 := by decide +kernel
theorem d_method_4_98 : DK method_4_code 98 (.ldc2_w 47) 3 := by decide +kernel
theorem d_method_4_101 : DK method_4_code 101 (.invokestatic 19) 3 := by decide +kernel
theorem d_method_4_104 : DK method_4_code 104 .iadd 1 := by decide +kernel
theorem d_method_4_105 : DK method_4_code 105 (.lload_n 0) 1 := by decide +kernel
theorem d_method_4_106 : DK method_4_code 106 (.ldc2_w 49) 3 := by decide +kernel
theorem d_method_4_109 : DK method_4_code 109 (.invokestatic 19) 3 := by decide +kernel
theorem d_method_4_112 : DK method_4_code 112 .iadd 1 := by decide +kernel
theorem d_method_4_113 : DK method_4_code 113 (.lload_n 0) 1 := by decide +kernel
theorem d_method_4_114 : DK method_4_code 114 (.ldc2_w 51) 3 := by decide +kernel
theorem d_method_4_117 : DK method_4_code 117 (.invokestatic 19) 3 := by decide +kernel
theorem d_method_4_120 : DK method_4_code 120 .iadd 1 := by decide +kernel
theorem d_method_4_121 : DK method_4_code 121 (.lload_n 0) 1 := by decide +kernel
theorem d_method_4_122 : DK method_4_code 122 (.ldc2_w 53) 3 := by decide +kernel
theorem d_method_4_125 : DK method_4_code 125 (.invokestatic 19) 3 := by decide +kernel
theorem d_method_4_128 : DK method_4_code 128 .iadd 1 := by decide +kernel
theorem d_method_4_129 : DK method_4_code 129 (.lload_n 0) 1 := by decide +kernel
theorem d_method_4_130 : DK method_4_code 130 (.ldc2_w 55) 3 := by decide +kernel
theorem d_method_4_133 : DK method_4_code 133 (.invokestatic 19) 3 := by decide +kernel
theorem d_method_4_136 : DK method_4_code 136 .iadd 1 := by decide +kernel
theorem d_method_4_137 : DK method_4_code 137 (.lload_n 0) 1 := by decide +kernel
theorem d_method_4_138 : DK method_4_code 138 (.ldc2_w 57) 3 := by decide +kernel
theorem d_method_4_141 : DK method_4_code 141 (.invokestatic 19) 3 := by decide +kernel
theorem d_method_4_144 : DK method_4_code 144 .iadd 1 := by decide +kernel
theorem d_method_4_145 : DK method_4_code 145 .ireturn 1 := by decide +kernel
theorem opl_rm_dgJ : plainFor (⟨"com/example/drain_shards/drainshards/LeaseToStringPinLaw", "digits", "(J)I"⟩ : MethodName) = true := plainFor_of_name (by first | (simp [plainName, overriddenIn]; done) | decide +kernel)
theorem rm_dgJ (l : Launch) (Z : State) (a0 : Array Value) (hw : ∀ d ∈ tables_1, d.before a0 Z = true) (ws : List Jvm.Cond) (v : Int64) (n : Nat) (h0 : Heap) (hm : own_mag v n) :
    Con l Z (⟨"com/example/drain_shards/drainshards/LeaseToStringPinLaw", "digits", "(J)I"⟩ : MethodName) method_4_code 2 (some .int) ws ({ frames := 1, cells := 0, slots := 0, locals := 16 } : Room) #[(.long v)] h0 (fun v h L => v = some (.int (Int32.ofNat (own_wl n))) ∧ L = [] ∧ h = h0) := by
  refine Con.intro opl_rm_dgJ ?_
  intro p e s m below meth c s₁ hx hby hml hown hret hlk hZ hnm X0 e0
  refine OGo.cast (g' := (mkF m 0 #[.val (.long v), .second] [])) (by first | (simp [entryFrame, mkF, argsToLocals, Value.category]; done) | rfl) ?_
  refine og (fun _ k => XS.iconst X0.here hx rfl (hb hby d_method_4_0) k) ?_
  refine og (fun _ k => XS.lloadN X0.here hx rfl (hb hby d_method_4_1) rfl k) ?_
  refine og (fun _ k => Jvm.Stand.ldc2J X0 hx hown (mvT hZ (own_g hw 230 rfl)) rfl (hb hby d_method_4_2) k) ?_
  obtain ⟨v327, T327, L327, X327, hQ327, st327⟩ := scall X0 hx hZ hown (own_g hw 231 rfl) (own_g hw 232 rfl) (own_g hw 228 rfl) (own_g hw 233 rfl) (by decide) (W := 1) (rm_nz l Z a0 hw [] v (10 : Int64) n 10 h0 hm rfl (by decide) (by decide) (by decide)) e0 (by decide) (by decide) (by decide) (by decide) (g := (mkF m 5 #[.val (.long v), .second] [(.long (10 : Int64)), (.long v), (.int (Int32.ofNat 1))])) rfl (by rw [hml]; rfl) (argsL := [(.long v), (.long (10 : Int64))]) (rest := [(.int (Int32.ofNat 1))]) opd_36 rfl rfl rfl (by show 2 * 0 + _ ≤ _; exact Nat.le_of_eq rfl) (hb hby d_method_4_5)
  obtain ⟨rfl, rfl, e327⟩ := hQ327
  rw [List.append_nil] at X327
  refine og st327 ?_
  refine og (fun _ k => XS.iadd X327.here hx rfl (hb hby d_method_4_8) rfl k) ?_
  show OGo p e below _ T327 (mkF m 9 #[.val (.long v), .second] [(.int ((Int32.ofNat 1) + (Int32.ofNat (if 10 ≤ n then 1 else 0))))])
  rw [own_addn]
  refine og (fun _ k => XS.lloadN X327.here hx rfl (hb hby d_method_4_9) rfl k) ?_
  refine og (fun _ k => Jvm.Stand.ldc2J X327 hx hown (mvT hZ (own_g hw 234 rfl)) rfl (hb hby d_method_4_10) k) ?_
  obtain ⟨v328, T328, L328, X328, hQ328, st328⟩ := scall X327 hx hZ hown (own_g hw 231 rfl) (own_g hw 232 rfl) (own_g hw 228 rfl) (own_g hw 233 rfl) (by decide) (W := 1) (rm_nz l Z a0 hw [] v (100 : Int64) n 100 h0 hm rfl (by decide) (by decide) (by decide)) e327 (by decide) (by decide) (by decide) (by decide) (g := (mkF m 13 #[.val (.long v), .second] [(.long (100 : Int64)), (.long v), (.int (Int32.ofNat (1 + (if 10 ≤ n then 1 else 0))))])) rfl (by rw [hml]; rfl) (argsL := [(.long v), (.long (100 : Int64))]) (rest := [(.int (Int32.ofNat (1 + (if 10 ≤ n then 1 else 0))))]) opd_36 rfl rfl rfl (by show 2 * 0 + _ ≤ _; exact Nat.le_of_eq rfl) (hb hby d_method_4_13)
  obtain ⟨rfl, rfl, e328⟩ := hQ328
  rw [List.append_nil] at X328
  refine og st328 ?_
  refine og (fun _ k => XS.iadd X328.here hx rfl (hb hby d_method_4_16) rfl k) ?_
  show OGo p e below _ T328 (mkF m 17 #[.val (.long v), .second] [(.int ((Int32.ofNat (1 + (if 10 ≤ n then 1 else 0))) + (Int32.ofNat (if 100 ≤ n then 1 else 0))))])
  rw [own_addn]
  refine og (fun _ k => XS.lloadN X328.here hx rfl (hb hby d_method_4_17) rfl k) ?_
  refine og (fun _ k => Jvm.Stand.ldc2J X328 hx hown (mvT hZ (own_g hw 235 rfl)) rfl (hb hby d_method_4_18) k) ?_
  obtain ⟨v329, T329, L329, X329, hQ329, st329⟩ := scall X328 hx hZ hown (own_g hw 231 rfl) (own_g hw 232 rfl) (own_g hw 228 rfl) (own_g hw 233 rfl) (by decide) (W := 1) (rm_nz l Z a0 hw [] v (1000 : Int64) n 1000 h0 hm rfl (by decide) (by decide) (by decide)) e328 (by decide) (by decide) (by decide) (by decide) (g := (mkF m 21 #[.val (.long v), .second] [(.long (1000 : Int64)), (.long v), (.int (Int32.ofNat (1 + (if 10 ≤ n then 1 else 0) + (if 100 ≤ n then 1 else 0))))])) rfl (by rw [hml]; rfl) (argsL := [(.long v), (.long (1000 : Int64))]) (rest := [(.int (Int32.ofNat (1 + (if 10 ≤ n then 1 else 0) + (if 100 ≤ n then 1 else 0))))]) opd_36 rfl rfl rfl (by show 2 * 0 + _ ≤ _; exact Nat.le_of_eq rfl) (hb hby d_method_4_21)
  obtain ⟨rfl, rfl, e329⟩ := hQ329
  rw [List.append_nil] at X329
  refine og st329 ?_
  refine og (fun _ k => XS.iadd X329.here hx rfl (hb hby d_method_4_24) rfl k) ?_
  show OGo p e below _ T329 (mkF m 25 #[.val (.long v), .second] [(.int ((Int32.ofNat (1 + (if 10 ≤ n then 1 else 0) + (if 100 ≤ n then 1 else 0))) + (Int32.ofNat (if 1000 ≤ n then 1 else 0))))])
  rw [own_addn]
  refine og (fun _ k => XS.lloadN X329.here hx rfl (hb hby d_method_4_25) rfl k) ?_
  refine og (fun _ k => Jvm.Stand.ldc2J X329 hx hown (mvT hZ (own_g hw 236 rfl)) rfl (hb hby d_method_4_26) k) ?_
  obtain ⟨v330, T330, L330, X330, hQ330, st330⟩ := scall X329 hx hZ hown (own_g hw 231 rfl) (own_g hw 232 rfl) (own_g hw 228 rfl) (own_g hw 233 rfl) (by decide) (W := 1) (rm_nz l Z a0 hw [] v (10000 : Int64) n 10000 h0 hm rfl (by decide) (by decide) (by decide)) e329 (by decide) (by decide) (by decide) (by decide) (g := (mkF m 29 #[.val (.long v), .second] [(.long (10000 : Int64)), (.long v), (.int (Int32.ofNat (1 + (if 10 ≤ n then 1 else 0) + (if 100 ≤ n then 1 else 0) + (if 1000 ≤ n then 1 else 0))))])) rfl (by rw [hml]; rfl) (argsL := [(.long v), (.long (10000 : Int64))]) (rest := [(.int (Int32.ofNat (1 + (if 10 ≤ n then 1 else 0) + (if 100 ≤ n then 1 else 0) + (if 1000 ≤ n then 1 else 0))))]) opd_36 rfl rfl rfl (by show 2 * 0 + _ ≤ _; exact Nat.le_of_eq rfl) (hb hby d_method_4_29)
  obtain ⟨rfl, rfl, e330⟩ := hQ330
  rw [List.append_nil] at X330
  refine og st330 ?_
  refine og (fun _ k => XS.iadd X330.here hx rfl (hb hby d_method_4_32) rfl k) ?_
  show OGo p e below _ T330 (mkF m 33 #[.val (.long v), .second] [(.int ((Int32.ofNat (1 + (if 10 ≤ n then 1 else 0) + (if 100 ≤ n then 1 else 0) + (if 1000 ≤ n then 1 else 0))) + (Int32.ofNat (if 10000 ≤ n then 1 else 0))))])
  rw [own_addn]
  refine og (fun _ k => XS.lloadN X330.here hx rfl (hb hby d_method_4_33) rfl k) ?_
  refine og (fun _ k => Jvm.Stand.ldc2J X330 hx hown (mvT hZ (own_g hw 237 rfl)) rfl (hb hby d_method_4_34) k) ?_
  obtain ⟨v331, T331, L331, X331, hQ331, st331⟩ := scall X330 hx hZ hown (own_g hw 231 rfl) (own_g hw 232 rfl) (own_g hw 228 rfl) (own_g hw 233 rfl) (by decide) (W := 1) (rm_nz l Z a0 hw [] v (100000 : Int64) n 100000 h0 hm rfl (by decide) (by decide) (by decide)) e330 (by decide) (by decide) (by decide) (by decide) (g := (mkF m 37 #[.val (.long v), .second] [(.long (100000 : Int64)), (.long v), (.int (Int32.ofNat (1 + (if 10 ≤ n then 1 else 0) + (if 100 ≤ n then 1 else 0) + (if 1000 ≤ n then 1 else 0) + (if 10000 ≤ n then 1 else 0))))])) rfl (by rw [hml]; rfl) (argsL := [(.long v), (.long (100000 : Int64))]) (rest := [(.int (Int32.ofNat (1 + (if 10 ≤ n then 1 else 0) + (if 100 ≤ n then 1 else 0) + (if 1000 ≤ n then 1 else 0) + (if 10000 ≤ n then 1 else 0))))]) opd_36 rfl rfl rfl (by show 2 * 0 + _ ≤ _; exact Nat.le_of_eq rfl) (hb hby d_method_4_37)
  obtain ⟨rfl, rfl, e331⟩ := hQ331
  rw [List.append_nil] at X331
  refine og st331 ?_
  refine og (fun _ k => XS.iadd X331.here hx rfl (hb hby d_method_4_40) rfl k) ?_
  show OGo p e below _ T331 (mkF m 41 #[.val (.long v), .second] [(.int ((Int32.ofNat (1 + (if 10 ≤ n then 1 else 0) + (if 100 ≤ n then 1 else 0) + (if 1000 ≤ n then 1 else 0) + (if 10000 ≤ n then 1 else 0))) + (Int32.ofNat (if 100000 ≤ n then 1 else 0))))])
  rw [own_addn]
  refine og (fun _ k => XS.lloadN X331.here hx rfl (hb hby d_method_4_41) rfl k) ?_
  refine og (fun _ k => Jvm.Stand.ldc2J X331 hx hown (mvT hZ (own_g hw 238 rfl)) rfl (hb hby d_method_4_42) k) ?_
  obtain ⟨v332, T332, L332, X332, hQ332, st332⟩ := scall X331 hx hZ hown (own_g hw 231 rfl) (own_g hw 232 rfl) (own_g hw 228 rfl) (own_g hw 233 rfl) (by decide) (W := 1) (rm_nz l Z a0 hw [] v (1000000 : Int64) n 1000000 h0 hm rfl (by decide) (by decide) (by decide)) e331 (by decide) (by decide) (by decide) (by decide) (g := (mkF m 45 #[.val (.long v), .second] [(.long (1000000 : Int64)), (.long v), (.int (Int32.ofNat (1 + (if 10 ≤ n then 1 else 0) + (if 100 ≤ n then 1 else 0) + (if 1000 ≤ n then 1 else 0) + (if 10000 ≤ n then 1 else 0) + (if 100000 ≤ n then 1 else 0))))])) rfl (by rw [hml]; rfl) (argsL := [(.long v), (.long (1000000 : Int64))]) (rest := [(.int (Int32.ofNat (1 + (if 10 ≤ n then 1 else 0) + (if 100 ≤ n then 1 else 0) + (if 1000 ≤ n then 1 else 0) + (if 10000 ≤ n then 1 else 0) + (if 100000 ≤ n then 1 else 0))))]) opd_36 rfl rfl rfl (by show 2 * 0 + _ ≤ _; exact Nat.le_of_eq rfl) (hb hby d_method_4_45)
  obtain ⟨rfl, rfl, e332⟩ := hQ332
  rw [List.append_nil] at X332
  refine og st332 ?_
  refine og (fun _ k => XS.iadd X332.here hx rfl (hb hby d_method_4_48) rfl k) ?_
  show OGo p e below _ T332 (mkF m 49 #[.val (.long v), .second] [(.int ((Int32.ofNat (1 + (if 10 ≤ n then 1 else 0) + (if 100 ≤ n then 1 else 0) + (if 1000 ≤ n then 1 else 0) + (if 10000 ≤ n then 1 else 0) + (if 100000 ≤ n then 1 else 0))) + (Int32.ofNat (if 1000000 ≤ n then 1 else 0))))])
  rw [own_addn]
  refine og (fun _ k => XS.lloadN X332.here hx rfl (hb hby d_method_4_49) rfl k) ?_
  refine og (fun _ k => Jvm.Stand.ldc2J X332 hx hown (mvT hZ (own_g hw 239 rfl)) rfl (hb hby d_method_4_50) k) ?_
  obtain ⟨v333, T333, L333, X333, hQ333, st333⟩ := scall X332 hx hZ hown (own_g hw 231 rfl) (own_g hw 232 rfl) (own_g hw 228 rfl) (own_g hw 233 rfl) (by decide) (W := 1) (rm_nz l Z a0 hw [] v (10000000 : Int64) n 10000000 h0 hm rfl (by decide) (by decide) (by decide)) e332 (by decide) (by decide) (by decide) (by decide) (g := (mkF m 53 #[.val (.long v), .second] [(.long (10000000 : Int64)), (.long v), (.int (Int32.ofNat (1 + (if 10 ≤ n then 1 else 0) + (if 100 ≤ n then 1 else 0) + (if 1000 ≤ n then 1 else 0) + (if 10000 ≤ n then 1 else 0) + (if 100000 ≤ n then 1 else 0) + (if 1000000 ≤ n then 1 else 0))))])) rfl (by rw [hml]; rfl) (argsL := [(.long v), (.long (10000000 : Int64))]) (rest := [(.int (Int32.ofNat (1 + (if 10 ≤ n then 1 else 0) + (if 100 ≤ n then 1 else 0) + (if 1000 ≤ n then 1 else 0) + (if 10000 ≤ n then 1 else 0) + (if 100000 ≤ n then 1 else 0) + (if 1000000 ≤ n then 1 else 0))))]) opd_36 rfl rfl rfl (by show 2 * 0 + _ ≤ _; exact Nat.le_of_eq rfl) (hb hby d_method_4_53)
  obtain ⟨rfl, rfl, e333⟩ := hQ333
  rw [List.append_nil] at X333
  refine og st333 ?_
  refine og (fun _ k => XS.iadd X333.here hx rfl (hb hby d_method_4_56) rfl k) ?_
  show OGo p e below _ T333 (mkF m 57 #[.val (.long v), .second] [(.int ((Int32.ofNat (1 + (if 10 ≤ n then 1 else 0) + (if 100 ≤ n then 1 else 0) + (if 1000 ≤ n then 1 else 0) + (if 10000 ≤ n then 1 else 0) + (if 100000 ≤ n then 1 else 0) + (if 1000000 ≤ n then 1 else 0))) + (Int32.ofNat (if 10000000 ≤ n then 1 else 0))))])
  rw [own_addn]
  refine og (fun _ k => XS.lloadN X333.here hx rfl (hb hby d_method_4_57) rfl k) ?_
  refine og (fun _ k => Jvm.Stand.ldc2J X333 hx hown (mvT hZ (own_g hw 240 rfl)) rfl (hb hby d_method_4_58) k) ?_
  obtain ⟨v334, T334, L334, X334, hQ334, st334⟩ := scall X333 hx hZ hown (own_g hw 231 rfl) (own_g hw 232 rfl) (own_g hw 228 rfl) (own_g hw 233 rfl) (by decide) (W := 1) (rm_nz l Z a0 hw [] v (100000000 : Int64) n 100000000 h0 hm rfl (by decide) (by decide) (by decide)) e333 (by decide) (by decide) (by decide) (by decide) (g := (mkF m 61 #[.val (.long v), .second] [(.long (100000000 : Int64)), (.long v), (.int (Int32.ofNat (1 + (if 10 ≤ n then 1 else 0) + (if 100 ≤ n then 1 else 0) + (if 1000 ≤ n then 1 else 0) + (if 10000 ≤ n then 1 else 0) + (if 100000 ≤ n then 1 else 0) + (if 1000000 ≤ n then 1 else 0) + (if 10000000 ≤ n then 1 else 0))))])) rfl (by rw [hml]; rfl) (argsL := [(.long v), (.long (100000000 : Int64))]) (rest := [(.int (Int32.ofNat (1 + (if 10 ≤ n then 1 else 0) + (if 100 ≤ n then 1 else 0) + (if 1000 ≤ n then 1 else 0) + (if 10000 ≤ n then 1 else 0) + (if 100000 ≤ n then 1 else 0) + (if 1000000 ≤ n then 1 else 0) + (if 10000000 ≤ n then 1 else 0))))]) opd_36 rfl rfl rfl (by show 2 * 0 + _ ≤ _; exact Nat.le_of_eq rfl) (hb hby d_method_4_61)
  obtain ⟨rfl, rfl, e334⟩ := hQ334
  rw [List.append_nil] at X334
  refine og st334 ?_
  refine og (fun _ k => XS.iadd X334.here hx rfl (hb hby d_method_4_64) rfl k) ?_
  show OGo p e below _ T334 (mkF m 65 #[.val (.long v), .second] [(.int ((Int32.ofNat (1 + (if 10 ≤ n then 1 else 0) + (if 100 ≤ n then 1 else 0) + (if 1000 ≤ n then 1 else 0) + (if 10000 ≤ n then 1 else 0) + (if 100000 ≤ n then 1 else 0) + (if 1000000 ≤ n then 1 else 0) + (if 10000000 ≤ n then 1 else 0))) + (Int32.ofNat (if 100000000 ≤ n then 1 else 0))))])
  rw [own_addn]
  refine og (fun _ k => XS.lloadN X334.here hx rfl (hb hby d_method_4_65) rfl k) ?_
  refine og (fun _ k => Jvm.Stand.ldc2J X334 hx hown (mvT hZ (own_g hw 241 rfl)) rfl (hb hby d_method_4_66) k) ?_
  obtain ⟨v335, T335, L335, X335, hQ335, st335⟩ := scall X334 hx hZ hown (own_g hw 231 rfl) (own_g hw 232 rfl) (own_g hw 228 rfl) (own_g hw 233 rfl) (by decide) (W := 1) (rm_nz l Z a0 hw [] v (1000000000 : Int64) n 1000000000 h0 hm rfl (by decide) (by decide) (by decide)) e334 (by decide) (by decide) (by decide) (by decide) (g := (mkF m 69 #[.val (.long v), .second] [(.long (1000000000 : Int64)), (.long v), (.int (Int32.ofNat (1 + (if 10 ≤ n then 1 else 0) + (if 100 ≤ n then 1 else 0) + (if 1000 ≤ n then 1 else 0) + (if 10000 ≤ n then 1 else 0) + (if 100000 ≤ n then 1 else 0) + (if 1000000 ≤ n then 1 else 0) + (if 10000000 ≤ n then 1 else 0) + (if 100000000 ≤ n then 1 else 0))))])) rfl (by rw [hml]; rfl) (argsL := [(.long v), (.long (1000000000 : Int64))]) (rest := [(.int (Int32.ofNat (1 + (if 10 ≤ n then 1 else 0) + (if 100 ≤ n then 1 else 0) + (if 1000 ≤ n then 1 else 0) + (if 10000 ≤ n then 1 else 0) + (if 100000 ≤ n then 1 else 0) + (if 1000000 ≤ n then 1 else 0) + (if 10000000 ≤ n then 1 else 0) + (if 100000000 ≤ n then 1 else 0))))]) opd_36 rfl rfl rfl (by show 2 * 0 + _ ≤ _; exact Nat.le_of_eq rfl) (hb hby d_method_4_69)
  obtain ⟨rfl, rfl, e335⟩ := hQ335
  rw [List.append_nil] at X335
  refine og st335 ?_
  refine og (fun _ k => XS.iadd X335.here hx rfl (hb hby d_method_4_72) rfl k) ?_
  show OGo p e below _ T335 (mkF m 73 #[.val (.long v), .second] [(.int ((Int32.ofNat (1 + (if 10 ≤ n then 1 else 0) + (if 100 ≤ n then 1 else 0) + (if 1000 ≤ n then 1 else 0) + (if 10000 ≤ n then 1 else 0) + (if 100000 ≤ n then 1 else 0) + (if 1000000 ≤ n then 1 else 0) + (if 10000000 ≤ n then 1 else 0) + (if 100000000 ≤ n then 1 else 0))) + (Int32.ofNat (if 1000000000 ≤ n then 1 else 0))))])
  rw [own_addn]
  refine og (fun _ k => XS.lloadN X335.here hx rfl (hb hby d_method_4_73) rfl k) ?_
  refine og (fun _ k => Jvm.Stand.ldc2J X335 hx hown (mvT hZ (own_g hw 242 rfl)) rfl (hb hby d_method_4_74) k) ?_
  obtain ⟨v336, T336, L336, X336, hQ336, st336⟩ := scall X335 hx hZ hown (own_g hw 231 rfl) (own_g hw 232 rfl) (own_g hw 228 rfl) (own_g hw 233 rfl) (by decide) (W := 1) (rm_nz l Z a0 hw [] v (10000000000 : Int64) n 10000000000 h0 hm rfl (by decide) (by decide) (by decide)) e335 (by decide) (by decide) (by decide) (by decide) (g := (mkF m 77 #[.val (.long v), .second] [(.long (10000000000 : Int64)), (.long v), (.int (Int32.ofNat (1 + (if 10 ≤ n then 1 else 0) + (if 100 ≤ n then 1 else 0) + (if 1000 ≤ n then 1 else 0) + (if 10000 ≤ n then 1 else 0) + (if 100000 ≤ n then 1 else 0) + (if 1000000 ≤ n then 1 else 0) + (if 10000000 ≤ n then 1 else 0) + (if 100000000 ≤ n then 1 else 0) + (if 1000000000 ≤ n then 1 else 0))))])) rfl (by rw [hml]; rfl) (argsL := [(.long v), (.long (10000000000 : Int64))]) (rest := [(.int (Int32.ofNat (1 + (if 10 ≤ n then 1 else 0) + (if 100 ≤ n then 1 else 0) + (if 1000 ≤ n then 1 else 0) + (if 10000 ≤ n then 1 else 0) + (if 100000 ≤ n then 1 else 0) + (if 1000000 ≤ n then 1 else 0) + (if 10000000 ≤ n then 1 else 0) + (if 100000000 ≤ n then 1 else 0) + (if 1000000000 ≤ n then 1 else 0))))]) opd_36 rfl rfl rfl (by show 2 * 0 + _ ≤ _; exact Nat.le_of_eq rfl) (hb hby d_method_4_77)
  obtain ⟨rfl, rfl, e336⟩ := hQ336
  rw [List.append_nil] at X336
  refine og st336 ?_
  refine og (fun _ k => XS.iadd X336.here hx rfl (hb hby d_method_4_80) rfl k) ?_
  show OGo p e below _ T336 (mkF m 81 #[.val (.long v), .second] [(.int ((Int32.ofNat (1 + (if 10 ≤ n then 1 else 0) + (if 100 ≤ n then 1 else 0) + (if 1000 ≤ n then 1 else 0) + (if 10000 ≤ n then 1 else 0) + (if 100000 ≤ n then 1 else 0) + (if 1000000 ≤ n then 1 else 0) + (if 10000000 ≤ n then 1 else 0) + (if 100000000 ≤ n then 1 else 0) + (if 1000000000 ≤ n then 1 else 0))) + (Int32.ofNat (if 10000000000 ≤ n then 1 else 0))))])
  rw [own_addn]
  refine og (fun _ k => XS.lloadN X336.here hx rfl (hb hby d_method_4_81) rfl k) ?_
  refine og (fun _ k => Jvm.Stand.ldc2J X336 hx hown (mvT hZ (own_g hw 243 rfl)) rfl (hb hby d_method_4_82) k) ?_
  obtain ⟨v337, T337, L337, X337, hQ337, st337⟩ := scall X336 hx hZ hown (own_g hw 231 rfl) (own_g hw 232 rfl) (own_g hw 228 rfl) (own_g hw 233 rfl) (by decide) (W := 1) (rm_nz l Z a0 hw [] v (100000000000 : Int64) n 100000000000 h0 hm rfl (by decide) (by decide) (by decide)) e336 (by decide) (by decide) (by decide) (by decide) (g := (mkF m 85 #[.val (.long v), .second] [(.long (100000000000 : Int64)), (.long v), (.int (Int32.ofNat (1 + (if 10 ≤ n then 1 else 0) + (if 100 ≤ n then 1 else 0) + (if 1000 ≤ n then 1 else 0) + (if 10000 ≤ n then 1 else 0) + (if 100000 ≤ n then 1 else 0) + (if 1000000 ≤ n then 1 else 0) + (if 10000000 ≤ n then 1 else 0) + (if 100000000 ≤ n then 1 else 0) + (if 1000000000 ≤ n then 1 else 0) + (if 10000000000 ≤ n then 1 else 0))))])) rfl (by rw [hml]; rfl) (argsL := [(.long v), (.long (100000000000 : Int64))]) (rest := [(.int (Int32.ofNat (1 + (if 10 ≤ n then 1 else 0) + (if 100 ≤ n then 1 else 0) + (if 1000 ≤ n then 1 else 0) + (if 10000 ≤ n then 1 else 0) + (if 100000 ≤ n then 1 else 0) + (if 1000000 ≤ n then 1 else 0) + (if 10000000 ≤ n then 1 else 0) + (if 100000000 ≤ n then 1 else 0) + (if 1000000000 ≤ n then 1 else 0) + (if 10000000000 ≤ n then 1 else 0))))]) opd_36 rfl rfl rfl (by show 2 * 0 + _ ≤ _; exact Nat.le_of_eq rfl) (hb hby d_method_4_85)
  obtain ⟨rfl, rfl, e337⟩ := hQ337
  rw [List.append_nil] at X337
  refine og st337 ?_
  refine og (fun _ k => XS.iadd X337.here hx rfl (hb hby d_method_4_88) rfl k) ?_
  show OGo p e below _ T337 (mkF m 89 #[.val (.long v), .second] [(.int ((Int32.ofNat (1 + (if 10 ≤ n then 1 else 0) + (if 100 ≤ n then 1 else 0) + (if 1000 ≤ n then 1 else 0) + (if 10000 ≤ n then 1 else 0) + (if 100000 ≤ n then 1 else 0) + (if 1000000 ≤ n then 1 else 0) + (if 10000000 ≤ n then 1 else 0) + (if 100000000 ≤ n then 1 else 0) + (if 1000000000 ≤ n then 1 else 0) + (if 10000000000 ≤ n then 1 else 0))) + (Int32.ofNat (if 100000000000 ≤ n then 1 else 0))))])
  rw [own_addn]
  refine og (fun _ k => XS.lloadN X337.here hx rfl (hb hby d_method_4_89) rfl k) ?_
  refine og (fun _ k => Jvm.Stand.ldc2J X337 hx hown (mvT hZ (own_g hw 244 rfl)) rfl (hb hby d_method_4_90) k) ?_
  obtain ⟨v338, T338, L338, X338, hQ338, st338⟩ := scall X337 hx hZ hown (own_g hw 231 rfl) (own_g hw 232 rfl) (own_g hw 228 rfl) (own_g hw 233 rfl) (by decide) (W := 1) (rm_nz l Z a0 hw [] v (1000000000000 : Int64) n 1000000000000 h0 hm rfl (by decide) (by decide) (by decide)) e337 (by decide) (by decide) (by decide) (by decide) (g := (mkF m 93 #[.val (.long v), .second] [(.long (1000000000000 : Int64)), (.long v), (.int (Int32.ofNat (1 + (if 10 ≤ n then 1 else 0) + (if 100 ≤ n then 1 else 0) + (if 1000 ≤ n then 1 else 0) + (if 10000 ≤ n then 1 else 0) + (if 100000 ≤ n then 1 else 0) + (if 1000000 ≤ n then 1 else 0) + (if 10000000 ≤ n then 1 else 0) + (if 100000000 ≤ n then 1 else 0) + (if 1000000000 ≤ n then 1 else 0) + (if 10000000000 ≤ n then 1 else 0) + (if 100000000000 ≤ n then 1 else 0))))])) rfl (by rw [hml]; rfl) (argsL := [(.long v), (.long (1000000000000 : Int64))]) (rest := [(.int (Int32.ofNat (1 + (if 10 ≤ n then 1 else 0) + (if 100 ≤ n then 1 else 0) + (if 1000 ≤ n then 1 else 0) + (if 10000 ≤ n then 1 else 0) + (if 100000 ≤ n then 1 else 0) + (if 1000000 ≤ n then 1 else 0) + (if 10000000 ≤ n then 1 else 0) + (if 100000000 ≤ n then 1 else 0) + (if 1000000000 ≤ n then 1 else 0) + (if 10000000000 ≤ n then 1 else 0) + (if 100000000000 ≤ n then 1 else 0))))]) opd_36 rfl rfl rfl (by show 2 * 0 + _ ≤ _; exact Nat.le_of_eq rfl) (hb hby d_method_4_93)
  obtain ⟨rfl, rfl, e338⟩ := hQ338
  rw [List.append_nil] at X338
  refine og st338 ?_
  refine og (fun _ k => XS.iadd X338.here hx rfl (hb hby d_method_4_96) rfl k) ?_
  show OGo p e below _ T338 (mkF m 97 #[.val (.long v), .second] [(.int ((Int32.ofNat (1 + (if 10 ≤ n then 1 else 0) + (if 100 ≤ n then 1 else 0) + (if 1000 ≤ n then 1 else 0) + (if 10000 ≤ n then 1 else 0) + (if 100000 ≤ n then 1 else 0) + (if 1000000 ≤ n then 1 else 0) + (if 10000000 ≤ n then 1 else 0) + (if 100000000 ≤ n then 1 else 0) + (if 1000000000 ≤ n then 1 else 0) + (if 10000000000 ≤ n then 1 else 0) + (if 100000000000 ≤ n then 1 else 0))) + (Int32.ofNat (if 1000000000000 ≤ n then 1 else 0))))])
  rw [own_addn]
  refine og (fun _ k => XS.lloadN X338.here hx rfl (hb hby d_method_4_97) rfl k) ?_
  refine og (fun _ k => Jvm.Stand.ldc2J X338 hx hown (mvT hZ (own_g hw 245 rfl)) rfl (hb hby d_method_4_98) k) ?_
  obtain ⟨v339, T339, L339, X339, hQ339, st339⟩ := scall X338 hx hZ hown (own_g hw 231 rfl) (own_g hw 232 rfl) (own_g hw 228 rfl) (own_g hw 233 rfl) (by decide) (W := 1) (rm_nz l Z a0 hw [] v (10000000000000 : Int64) n 10000000000000 h0 hm rfl (by decide) (by decide) (by decide)) e338 (by decide) (by decide) (by decide) (by decide) (g := (mkF m 101 #[.val (.long v), .second] [(.long (10000000000000 : Int64)), (.long v), (.int (Int32.ofNat (1 + (if 10 ≤ n then 1 else 0) + (if 100 ≤ n then 1 else 0) + (if 1000 ≤ n then 1 else 0) + (if 10000 ≤ n then 1 else 0) + (if 100000 ≤ n then 1 else 0) + (if 1000000 ≤ n then 1 else 0) + (if 10000000 ≤ n then 1 else 0) + (if 100000000 ≤ n then 1 else 0) + (if 1000000000 ≤ n then 1 else 0) + (if 10000000000 ≤ n then 1 else 0) + (if 100000000000 ≤ n then 1 else 0) + (if 1000000000000 ≤ n then 1 else 0))))])) rfl (by rw [hml]; rfl) (argsL := [(.long v), (.long (10000000000000 : Int64))]) (rest := [(.int (Int32.ofNat (1 + (if 10 ≤ n then 1 else 0) + (if 100 ≤ n then 1 else 0) + (if 1000 ≤ n then 1 else 0) + (if 10000 ≤ n then 1 else 0) + (if 100000 ≤ n then 1 else 0) + (if 1000000 ≤ n then 1 else 0) + (if 10000000 ≤ n then 1 else 0) + (if 100000000 ≤ n then 1 else 0) + (if 1000000000 ≤ n then 1 else 0) + (if 10000000000 ≤ n then 1 else 0) + (if 100000000000 ≤ n then 1 else 0) + (if 1000000000000 ≤ n then 1 else 0))))]) opd_36 rfl rfl rfl (by show 2 * 0 + _ ≤ _; exact Nat.le_of_eq rfl) (hb hby d_method_4_101)
  obtain ⟨rfl, rfl, e339⟩ := hQ339
  rw [List.append_nil] at X339
  refine og st339 ?_
  refine og (fun _ k => XS.iadd X339.here hx rfl (hb hby d_method_4_104) rfl k) ?_
  show OGo p e below _ T339 (mkF m 105 #[.val (.long v), .second] [(.int ((Int32.ofNat (1 + (if 10 ≤ n then 1 else 0) + (if 100 ≤ n then 1 else 0) + (if 1000 ≤ n then 1 else 0) + (if 10000 ≤ n then 1 else 0) + (if 100000 ≤ n then 1 else 0) + (if 1000000 ≤ n then 1 else 0) + (if 10000000 ≤ n then 1 else 0) + (if 100000000 ≤ n then 1 else 0) + (if 1000000000 ≤ n then 1 else 0) + (if 10000000000 ≤ n then 1 else 0) + (if 100000000000 ≤ n then 1 else 0) + (if 1000000000000 ≤ n then 1 else 0))) + (Int32.ofNat (if 10000000000000 ≤ n then 1 else 0))))])
  rw [own_addn]
  refine og (fun _ k => XS.lloadN X339.here hx rfl (hb hby d_method_4_105) rfl k) ?_
  refine og (fun _ k => Jvm.Stand.ldc2J X339 hx hown (mvT hZ (own_g hw 246 rfl)) rfl (hb hby d_method_4_106) k) ?_
  obtain ⟨v340, T340, L340, X340, hQ340, st340⟩ := scall X339 hx hZ hown (own_g hw 231 rfl) (own_g hw 232 rfl) (own_g hw 228 rfl) (own_g hw 233 rfl) (by decide) (W := 1) (rm_nz l Z a0 hw [] v (100000000000000 : Int64) n 100000000000000 h0 hm rfl (by decide) (by decide) (by decide)) e339 (by decide) (by decide) (by decide) (by decide) (g := (mkF m 109 #[.val (.long v), .second] [(.long (100000000000000 : Int64)), (.long v), (.int (Int32.ofNat (1 + (if 10 ≤ n then 1 else 0) + (if 100 ≤ n then 1 else 0) + (if 1000 ≤ n then 1 else 0) + (if 10000 ≤ n then 1 else 0) + (if 100000 ≤ n then 1 else 0) + (if 1000000 ≤ n then 1 else 0) + (if 10000000 ≤ n then 1 else 0) + (if 100000000 ≤ n then 1 else 0) + (if 1000000000 ≤ n then 1 else 0) + (if 10000000000 ≤ n then 1 else 0) + (if 100000000000 ≤ n then 1 else 0) + (if 1000000000000 ≤ n then 1 else 0) + (if 10000000000000 ≤ n then 1 else 0))))])) rfl (by rw [hml]; rfl) (argsL := [(.long v), (.long (100000000000000 : Int64))]) (rest := [(.int (Int32.ofNat (1 + (if 10 ≤ n then 1 else 0) + (if 100 ≤ n then 1 else 0) + (if 1000 ≤ n then 1 else 0) + (if 10000 ≤ n then 1 else 0) + (if 100000 ≤ n then 1 else 0) + (if 1000000 ≤ n then 1 else 0) + (if 10000000 ≤ n then 1 else 0) + (if 100000000 ≤ n then 1 else 0) + (if 1000000000 ≤ n then 1 else 0) + (if 10000000000 ≤ n then 1 else 0) + (if 100000000000 ≤ n then 1 else 0) + (if 1000000000000 ≤ n then 1 else 0) + (if 10000000000000 ≤ n then 1 else 0))))]) opd_36 rfl rfl rfl (by show 2 * 0 + _ ≤ _; exact Nat.le_of_eq rfl) (hb hby d_method_4_109)
  obtain ⟨rfl, rfl, e340⟩ := hQ340
  rw [List.append_nil] at X340
  refine og st340 ?_
  refine og (fun _ k => XS.iadd X340.here hx rfl (hb hby d_method_4_112) rfl k) ?_
  show OGo p e below _ T340 (mkF m 113 #[.val (.long v), .second] [(.int ((Int32.ofNat (1 + (if 10 ≤ n then 1 else 0) + (if 100 ≤ n then 1 else 0) + (if 1000 ≤ n then 1 else 0) + (if 10000 ≤ n then 1 else 0) + (if 100000 ≤ n then 1 else 0) + (if 1000000 ≤ n then 1 else 0) + (if 10000000 ≤ n then 1 else 0) + (if 100000000 ≤ n then 1 else 0) + (if 1000000000 ≤ n then 1 else 0) + (if 10000000000 ≤ n then 1 else 0) + (if 100000000000 ≤ n then 1 else 0) + (if 1000000000000 ≤ n then 1 else 0) + (if 10000000000000 ≤ n then 1 else 0))) + (Int32.ofNat (if 100000000000000 ≤ n then 1 else 0))))])
  rw [own_addn]
  refine og (fun _ k => XS.lloadN X340.here hx rfl (hb hby d_method_4_113) rfl k) ?_
  refine og (fun _ k => Jvm.Stand.ldc2J X340 hx hown (mvT hZ (own_g hw 247 rfl)) rfl (hb hby d_method_4_114) k) ?_
  obtain ⟨v341, T341, L341, X341, hQ341, st341⟩ := scall X340 hx hZ hown (own_g hw 231 rfl) (own_g hw 232 rfl) (own_g hw 228 rfl) (own_g hw 233 rfl) (by decide) (W := 1) (rm_nz l Z a0 hw [] v (1000000000000000 : Int64) n 1000000000000000 h0 hm rfl (by decide) (by decide) (by decide)) e340 (by decide) (by decide) (by decide) (by decide) (g := (mkF m 117 #[.val (.long v), .second] [(.long (1000000000000000 : Int64)), (.long v), (.int (Int32.ofNat (1 + (if 10 ≤ n then 1 else 0) + (if 100 ≤ n then 1 else 0) + (if 1000 ≤ n then 1 else 0) + (if 10000 ≤ n then 1 else 0) + (if 100000 ≤ n then 1 else 0) + (if 1000000 ≤ n then 1 else 0) + (if 10000000 ≤ n then 1 else 0) + (if 100000000 ≤ n then 1 else 0) + (if 1000000000 ≤ n then 1 else 0) + (if 10000000000 ≤ n then 1 else 0) + (if 100000000000 ≤ n then 1 else 0) + (if 1000000000000 ≤ n then 1 else 0) + (if 10000000000000 ≤ n then 1 else 0) + (if 100000000000000 ≤ n then 1 else 0))))])) rfl (by rw [hml]; rfl) (argsL := [(.long v), (.long (1000000000000000 : Int64))]) (rest := [(.int (Int32.ofNat (1 + (if 10 ≤ n then 1 else 0) + (if 100 ≤ n then 1 else 0) + (if 1000 ≤ n then 1 else 0) + (if 10000 ≤ n then 1 else 0) + (if 100000 ≤ n then 1 else 0) + (if 1000000 ≤ n then 1 else 0) + (if 10000000 ≤ n then 1 else 0) + (if 100000000 ≤ n then 1 else 0) + (if 1000000000 ≤ n then 1 else 0) + (if 10000000000 ≤ n then 1 else 0) + (if 100000000000 ≤ n then 1 else 0) + (if 1000000000000 ≤ n then 1 else 0) + (if 10000000000000 ≤ n then 1 else 0) + (if 100000000000000 ≤ n then 1 else 0))))]) opd_36 rfl rfl rfl (by show 2 * 0 + _ ≤ _; exact Nat.le_of_eq rfl) (hb hby d_method_4_117)
  obtain ⟨rfl, rfl, e341⟩ := hQ341
  rw [List.append_nil] at X341
  refine og st341 ?_
  refine og (fun _ k => XS.iadd X341.here hx rfl (hb hby d_method_4_120) rfl k) ?_
  show OGo p e below _ T341 (mkF m 121 #[.val (.long v), .second] [(.int ((Int32.ofNat (1 + (if 10 ≤ n then 1 else 0) + (if 100 ≤ n then 1 else 0) + (if 1000 ≤ n then 1 else 0) + (if 10000 ≤ n then 1 else 0) + (if 100000 ≤ n then 1 else 0) + (if 1000000 ≤ n then 1 else 0) + (if 10000000 ≤ n then 1 else 0) + (if 100000000 ≤ n then 1 else 0) + (if 1000000000 ≤ n then 1 else 0) + (if 10000000000 ≤ n then 1 else 0) + (if 100000000000 ≤ n then 1 else 0) + (if 1000000000000 ≤ n then 1 else 0) + (if 10000000000000 ≤ n then 1 else 0) + (if 100000000000000 ≤ n then 1 else 0))) + (Int32.ofNat (if 1000000000000000 ≤ n then 1 else 0))))])
  rw [own_addn]
  refine og (fun _ k => XS.lloadN X341.here hx rfl (hb hby d_method_4_121) rfl k) ?_
  refine og (fun _ k => Jvm.Stand.ldc2J X341 hx hown (mvT hZ (own_g hw 248 rfl)) rfl (hb hby d_method_4_122) k) ?_
  obtain ⟨v342, T342, L342, X342, hQ342, st342⟩ := scall X341 hx hZ hown (own_g hw 231 rfl) (own_g hw 232 rfl) (own_g hw 228 rfl) (own_g hw 233 rfl) (by decide) (W := 1) (rm_nz l Z a0 hw [] v (10000000000000000 : Int64) n 10000000000000000 h0 hm rfl (by decide) (by decide) (by decide)) e341 (by decide) (by decide) (by decide) (by decide) (g := (mkF m 125 #[.val (.long v), .second] [(.long (10000000000000000 : Int64)), (.long v), (.int (Int32.ofNat (1 + (if 10 ≤ n then 1 else 0) + (if 100 ≤ n then 1 else 0) + (if 1000 ≤ n then 1 else 0) + (if 10000 ≤ n then 1 else 0) + (if 100000 ≤ n then 1 else 0) + (if 1000000 ≤ n then 1 else 0) + (if 10000000 ≤ n then 1 else 0) + (if 100000000 ≤ n then 1 else 0) + (if 1000000000 ≤ n then 1 else 0) + (if 10000000000 ≤ n then 1 else 0) + (if 100000000000 ≤ n then 1 else 0) + (if 1000000000000 ≤ n then 1 else 0) + (if 10000000000000 ≤ n then 1 else 0) + (if 100000000000000 ≤ n then 1 else 0) + (if 1000000000000000 ≤ n then 1 else 0))))])) rfl (by rw [hml]; rfl) (argsL := [(.long v), (.long (10000000000000000 : Int64))]) (rest := [(.int (Int32.ofNat (1 + (if 10 ≤ n then 1 else 0) + (if 100 ≤ n then 1 else 0) + (if 1000 ≤ n then 1 else 0) + (if 10000 ≤ n then 1 else 0) + (if 100000 ≤ n then 1 else 0) + (if 1000000 ≤ n then 1 else 0) + (if 10000000 ≤ n then 1 else 0) + (if 100000000 ≤ n then 1 else 0) + (if 1000000000 ≤ n then 1 else 0) + (if 10000000000 ≤ n then 1 else 0) + (if 100000000000 ≤ n then 1 else 0) + (if 1000000000000 ≤ n then 1 else 0) + (if 10000000000000 ≤ n then 1 else 0) + (if 100000000000000 ≤ n then 1 else 0) + (if 1000000000000000 ≤ n then 1 else 0))))]) opd_36 rfl rfl rfl (by show 2 * 0 + _ ≤ _; exact Nat.le_of_eq rfl) (hb hby d_method_4_125)
  obtain ⟨rfl, rfl, e342⟩ := hQ342
  rw [List.append_nil] at X342
  refine og st342 ?_
  refine og (fun _ k => XS.iadd X342.here hx rfl (hb hby d_method_4_128) rfl k) ?_
  show OGo p e below _ T342 (mkF m 129 #[.val (.long v), .second] [(.int ((Int32.ofNat (1 + (if 10 ≤ n then 1 else 0) + (if 100 ≤ n then 1 else 0) + (if 1000 ≤ n then 1 else 0) + (if 10000 ≤ n then 1 else 0) + (if 100000 ≤ n then 1 else 0) + (if 1000000 ≤ n then 1 else 0) + (if 10000000 ≤ n then 1 else 0) + (if 100000000 ≤ n then 1 else 0) + (if 1000000000 ≤ n then 1 else 0) + (if 10000000000 ≤ n then 1 else 0) + (if 100000000000 ≤ n then 1 else 0) + (if 1000000000000 ≤ n then 1 else 0) + (if 10000000000000 ≤ n then 1 else 0) + (if 100000000000000 ≤ n then 1 else 0) + (if 1000000000000000 ≤ n then 1 else 0))) + (Int32.ofNat (if 10000000000000000 ≤ n then 1 else 0))))])
  rw [own_addn]
  refine og (fun _ k => XS.lloadN X342.here hx rfl (hb hby d_method_4_129) rfl k) ?_
  refine og (fun _ k => Jvm.Stand.ldc2J X342 hx hown (mvT hZ (own_g hw 249 rfl)) rfl (hb hby d_method_4_130) k) ?_
  obtain ⟨v343, T343, L343, X343, hQ343, st343⟩ := scall X342 hx hZ hown (own_g hw 231 rfl) (own_g hw 232 rfl) (own_g hw 228 rfl) (own_g hw 233 rfl) (by decide) (W := 1) (rm_nz l Z a0 hw [] v (100000000000000000 : Int64) n 100000000000000000 h0 hm rfl (by decide) (by decide) (by decide)) e342 (by decide) (by decide) (by decide) (by decide) (g := (mkF m 133 #[.val (.long v), .second] [(.long (100000000000000000 : Int64)), (.long v), (.int (Int32.ofNat (1 + (if 10 ≤ n then 1 else 0) + (if 100 ≤ n then 1 else 0) + (if 1000 ≤ n then 1 else 0) + (if 10000 ≤ n then 1 else 0) + (if 100000 ≤ n then 1 else 0) + (if 1000000 ≤ n then 1 else 0) + (if 10000000 ≤ n then 1 else 0) + (if 100000000 ≤ n then 1 else 0) + (if 1000000000 ≤ n then 1 else 0) + (if 10000000000 ≤ n then 1 else 0) + (if 100000000000 ≤ n then 1 else 0) + (if 1000000000000 ≤ n then 1 else 0) + (if 10000000000000 ≤ n then 1 else 0) + (if 100000000000000 ≤ n then 1 else 0) + (if 1000000000000000 ≤ n then 1 else 0) + (if 10000000000000000 ≤ n then 1 else 0))))])) rfl (by rw [hml]; rfl) (argsL := [(.long v), (.long (100000000000000000 : Int64))]) (rest := [(.int (Int32.ofNat (1 + (if 10 ≤ n then 1 else 0) + (if 100 ≤ n then 1 else 0) + (if 1000 ≤ n then 1 else 0) + (if 10000 ≤ n then 1 else 0) + (if 100000 ≤ n then 1 else 0) + (if 1000000 ≤ n then 1 else 0) + (if 10000000 ≤ n then 1 else 0) + (if 100000000 ≤ n then 1 else 0) + (if 1000000000 ≤ n then 1 else 0) + (if 10000000000 ≤ n then 1 else 0) + (if 100000000000 ≤ n then 1 else 0) + (if 1000000000000 ≤ n then 1 else 0) + (if 10000000000000 ≤ n then 1 else 0) + (if 100000000000000 ≤ n then 1 else 0) + (if 1000000000000000 ≤ n then 1 else 0) + (if 10000000000000000 ≤ n then 1 else 0))))]) opd_36 rfl rfl rfl (by show 2 * 0 + _ ≤ _; exact Nat.le_of_eq rfl) (hb hby d_method_4_133)
  obtain ⟨rfl, rfl, e343⟩ := hQ343
  rw [List.append_nil] at X343
  refine og st343 ?_
  refine og (fun _ k => XS.iadd X343.here hx rfl (hb hby d_method_4_136) rfl k) ?_
  show OGo p e below _ T343 (mkF m 137 #[.val (.long v), .second] [(.int ((Int32.ofNat (1 + (if 10 ≤ n then 1 else 0) + (if 100 ≤ n then 1 else 0) + (if 1000 ≤ n then 1 else 0) + (if 10000 ≤ n then 1 else 0) + (if 100000 ≤ n then 1 else 0) + (if 1000000 ≤ n then 1 else 0) + (if 10000000 ≤ n then 1 else 0) + (if 100000000 ≤ n then 1 else 0) + (if 1000000000 ≤ n then 1 else 0) + (if 10000000000 ≤ n then 1 else 0) + (if 100000000000 ≤ n then 1 else 0) + (if 1000000000000 ≤ n then 1 else 0) + (if 10000000000000 ≤ n then 1 else 0) + (if 100000000000000 ≤ n then 1 else 0) + (if 1000000000000000 ≤ n then 1 else 0) + (if 10000000000000000 ≤ n then 1 else 0))) + (Int32.ofNat (if 100000000000000000 ≤ n then 1 else 0))))])
  rw [own_addn]
  refine og (fun _ k => XS.lloadN X343.here hx rfl (hb hby d_method_4_137) rfl k) ?_
  refine og (fun _ k => Jvm.Stand.ldc2J X343 hx hown (mvT hZ (own_g hw 250 rfl)) rfl (hb hby d_method_4_138) k) ?_
  obtain ⟨v344, T344, L344, X344, hQ344, st344⟩ := scall X343 hx hZ hown (own_g hw 231 rfl) (own_g hw 232 rfl) (own_g hw 228 rfl) (own_g hw 233 rfl) (by decide) (W := 1) (rm_nz l Z a0 hw [] v (1000000000000000000 : Int64) n 1000000000000000000 h0 hm rfl (by decide) (by decide) (by decide)) e343 (by decide) (by decide) (by decide) (by decide) (g := (mkF m 141 #[.val (.long v), .second] [(.long (1000000000000000000 : Int64)), (.long v), (.int (Int32.ofNat (1 + (if 10 ≤ n then 1 else 0) + (if 100 ≤ n then 1 else 0) + (if 1000 ≤ n then 1 else 0) + (if 10000 ≤ n then 1 else 0) + (if 100000 ≤ n then 1 else 0) + (if 1000000 ≤ n then 1 else 0) + (if 10000000 ≤ n then 1 else 0) + (if 100000000 ≤ n then 1 else 0) + (if 1000000000 ≤ n then 1 else 0) + (if 10000000000 ≤ n then 1 else 0) + (if 100000000000 ≤ n then 1 else 0) + (if 1000000000000 ≤ n then 1 else 0) + (if 10000000000000 ≤ n then 1 else 0) + (if 100000000000000 ≤ n then 1 else 0) + (if 1000000000000000 ≤ n then 1 else 0) + (if 10000000000000000 ≤ n then 1 else 0) + (if 100000000000000000 ≤ n then 1 else 0))))])) rfl (by rw [hml]; rfl) (argsL := [(.long v), (.long (1000000000000000000 : Int64))]) (rest := [(.int (Int32.ofNat (1 + (if 10 ≤ n then 1 else 0) + (if 100 ≤ n then 1 else 0) + (if 1000 ≤ n then 1 else 0) + (if 10000 ≤ n then 1 else 0) + (if 100000 ≤ n then 1 else 0) + (if 1000000 ≤ n then 1 else 0) + (if 10000000 ≤ n then 1 else 0) + (if 100000000 ≤ n then 1 else 0) + (if 1000000000 ≤ n then 1 else 0) + (if 10000000000 ≤ n then 1 else 0) + (if 100000000000 ≤ n then 1 else 0) + (if 1000000000000 ≤ n then 1 else 0) + (if 10000000000000 ≤ n then 1 else 0) + (if 100000000000000 ≤ n then 1 else 0) + (if 1000000000000000 ≤ n then 1 else 0) + (if 10000000000000000 ≤ n then 1 else 0) + (if 100000000000000000 ≤ n then 1 else 0))))]) opd_36 rfl rfl rfl (by show 2 * 0 + _ ≤ _; exact Nat.le_of_eq rfl) (hb hby d_method_4_141)
  obtain ⟨rfl, rfl, e344⟩ := hQ344
  rw [List.append_nil] at X344
  refine og st344 ?_
  refine og (fun _ k => XS.iadd X344.here hx rfl (hb hby d_method_4_144) rfl k) ?_
  show OGo p e below _ T344 (mkF m 145 #[.val (.long v), .second] [(.int ((Int32.ofNat (1 + (if 10 ≤ n then 1 else 0) + (if 100 ≤ n then 1 else 0) + (if 1000 ≤ n then 1 else 0) + (if 10000 ≤ n then 1 else 0) + (if 100000 ≤ n then 1 else 0) + (if 1000000 ≤ n then 1 else 0) + (if 10000000 ≤ n then 1 else 0) + (if 100000000 ≤ n then 1 else 0) + (if 1000000000 ≤ n then 1 else 0) + (if 10000000000 ≤ n then 1 else 0) + (if 100000000000 ≤ n then 1 else 0) + (if 1000000000000 ≤ n then 1 else 0) + (if 10000000000000 ≤ n then 1 else 0) + (if 100000000000000 ≤ n then 1 else 0) + (if 1000000000000000 ≤ n then 1 else 0) + (if 10000000000000000 ≤ n then 1 else 0) + (if 100000000000000000 ≤ n then 1 else 0))) + (Int32.ofNat (if 1000000000000000000 ≤ n then 1 else 0))))])
  rw [own_addn]
  show OGo p e below _ T344 (mkF m 145 #[.val (.long v), .second] [(.int (Int32.ofNat (1 + (if 10 ≤ n then 1 else 0) + (if 100 ≤ n then 1 else 0) + (if 1000 ≤ n then 1 else 0) + (if 10000 ≤ n then 1 else 0) + (if 100000 ≤ n then 1 else 0) + (if 1000000 ≤ n then 1 else 0) + (if 10000000 ≤ n then 1 else 0) + (if 100000000 ≤ n then 1 else 0) + (if 1000000000 ≤ n then 1 else 0) + (if 10000000000 ≤ n then 1 else 0) + (if 100000000000 ≤ n then 1 else 0) + (if 1000000000000 ≤ n then 1 else 0) + (if 10000000000000 ≤ n then 1 else 0) + (if 100000000000000 ≤ n then 1 else 0) + (if 1000000000000000 ≤ n then 1 else 0) + (if 10000000000000000 ≤ n then 1 else 0) + (if 100000000000000000 ≤ n then 1 else 0) + (if 1000000000000000000 ≤ n then 1 else 0))))])
  exact OGo.ret X344 hx (t := .int) hret hlk rfl (Or.inl ⟨rfl, by simp, _, rfl⟩) (hb hby d_method_4_145) (by decide) (by decide) ⟨rfl, rfl, e344⟩
theorem d29_61_0 : DK jdk_29_method_61_code 0 (.lload_n 0) 1 := by decide +kernel
theorem d29_61_1 : DK jdk_29_method_61_code 1 (.lconst 0) 1 := by decide +kernel
theorem d29_61_2 : DK jdk_29_method_61_code 2 .lcmp 1 := by decide +kernel
theorem d29_61_3 : DK jdk_29_method_61_code 3 (.ifCond .ge 8) 3 := by decide +kernel
theorem d29_61_11 : DK jdk_29_method_61_code 11 (.lload_n 0) 1 := by decide +kernel
theorem d29_61_12 : DK jdk_29_method_61_code 12 .lreturn 1 := by decide +kernel
theorem d29_61_6 : DK jdk_29_method_61_code 6 (.lload_n 0) 1 := by decide +kernel
theorem d29_61_7 : DK jdk_29_method_61_code 7 .lneg 1 := by decide +kernel
theorem d29_61_8 : DK jdk_29_method_61_code 8 (.goto 4) 3 := by decide +kernel
theorem opl_rm_absJ : plainFor (⟨"java/lang/Math", "abs", "(J)J"⟩ : MethodName) = true := Jvm.Free.JP.mathPlain rfl (by decide +kernel)
theorem rm_absJ (l : Launch) (Z : State) (a0 : Array Value) (hw : ∀ d ∈ tables_1, d.before a0 Z = true) (ws : List Jvm.Cond) (x : Int64) (h0 : Heap)  :
    Con l Z (⟨"java/lang/Math", "abs", "(J)J"⟩ : MethodName) jdk_29_method_61_code 2 (some .long) ws ({ frames := 0, cells := 0, slots := 0, locals := 0 } : Room) #[(.long x)] h0 (fun v h L => v = some (.long (if x < 0 then -x else x)) ∧ L = [] ∧ h = h0) := by
  refine Con.intro opl_rm_absJ ?_
  intro p e s m below meth c s₁ hx hby hml hown hret hlk hZ hnm X0 e0
  refine OGo.cast (g' := (mkF m 0 #[.val (.long x), .second] [])) (by first | (simp [entryFrame, mkF, argsToLocals, Value.category]; done) | rfl) ?_
  refine og (fun _ k => XS.lloadN X0.here hx rfl (hb hby d29_61_0) rfl k) ?_
  refine og (fun _ k => XS.lconst X0.here hx rfl (hb hby d29_61_1) k) ?_
  refine og (fun _ k => XS.lcmp X0.here hx rfl (hb hby d29_61_2) rfl k) ?_
  by_cases q : x < 0
  case neg =>
    refine og (fun _ k => XS.ifYes X0.here hx rfl (pc0 := 3) (pc' := 11) rfl (hb hby d29_61_3) rfl ((if0 _ _).trans (flt (fun h => q ((lw_lt _ _).mp h))).2.1) (by decide) (by decide) k) ?_
    refine og (fun _ k => XS.lloadN X0.here hx rfl (hb hby d29_61_11) rfl k) ?_
    show OGo p e below _ s₁ (mkF m 12 #[.val (.long x), .second] [(.long x)])
    exact OGo.ret X0 hx (t := .long) hret hlk rfl (Or.inr (Or.inl ⟨rfl, rfl, _, rfl⟩)) (hb hby d29_61_12) (by decide) (by decide) ⟨by rw [if_neg q], rfl, e0⟩
  refine og (fun _ k => XS.ifNo X0.here hx rfl (hb hby d29_61_3) rfl ((if0 _ _).trans (tlt ((lw_lt _ _).mpr q)).2.1) k) ?_
  refine og (fun _ k => XS.lloadN X0.here hx rfl (hb hby d29_61_6) rfl k) ?_
  refine og (fun _ k => XS.lneg X0.here hx rfl (hb hby d29_61_7) rfl k) ?_
  refine og (fun _ k => XS.goto X0.here hx rfl (pc0 := 8) (pc' := 12) rfl (hb hby d29_61_8) (by decide) (by decide) k) ?_
  show OGo p e below _ s₁ (mkF m 12 #[.val (.long x), .second] [(.long (-x))])
  exact OGo.ret X0 hx (t := .long) hret hlk rfl (Or.inr (Or.inl ⟨rfl, rfl, _, rfl⟩)) (hb hby d29_61_12) (by decide) (by decide) ⟨by rw [if_pos q], rfl, e0⟩
theorem own_dchL {v p : Int64} {n P : Nat} (h : own_mag v n) (hp : p.toInt = (P : Int)) (h1 : ¬ p = -1) : ((48 : Int32) + (if ((v / p) - ((v / p) / (10 : Int64)) * (10 : Int64)) < 0 then -((v / p) - ((v / p) / (10 : Int64)) * (10 : Int64)) else ((v / p) - ((v / p) / (10 : Int64)) * (10 : Int64))).toInt32).toUInt32.toUInt16.toUInt32.toInt32 = Int32.ofNat (48 + n / P % 10) := by
  obtain ⟨a, b⟩ := own_dv h hp h1
  generalize v / p = D at *
  generalize n / P = q at *
  obtain ⟨c1, c2⟩ := c_lrem D 10 10 rfl
  generalize D - (D / (10 : Int64)) * (10 : Int64) = r at *
  have key : (if r < 0 then -r else r).toInt = ((q % 10 : Nat) : Int) := by
    by_cases hv : v < 0
    · have e := a hv
      by_cases hq : q = 0
      · have r0 := c1 (by omega)
        rw [if_neg (fun z => by have := own_ltz.mp z; omega)]; omega
      · have r0 := c2 (by omega)
        have n0 := c_lneg r
        have g1 := rng64 r
        have g2 := rng64 (-r)
        split
        · omega
        · rename_i hr
          have hr' : ¬ r.toInt < 0 := fun z => hr (own_ltz.mpr z)
          omega
    · have e := b hv
      have r0 := c1 (by omega)
      rw [if_neg (fun z => by have := own_ltz.mp z; omega)]; omega
  generalize (if r < 0 then -r else r) = x at *
  have a4 := c_l2i x
  have a5 := c_iadd 48 x.toInt32
  have a6 := c_i2c (48 + x.toInt32)
  have a7 := rng32 x.toInt32
  have a8 := rng32 (48 + x.toInt32)
  have e48 : (48 : Int32).toInt = 48 := rfl
  apply Int32.toInt_inj.mp
  rw [own_toInt (by omega)]
  omega
theorem own_lo128 : ∀ x : Nat, x < 128 → (Int32.ofNat x &&& 255) = Int32.ofNat x := by decide +kernel
theorem d_method_5_0 : DK method_5_code 0 (.iload 6) 2 := by decide +kernel
theorem d_method_5_2 : DK method_5_code 2 (.iload 7) 2 := by decide +kernel
theorem d_method_5_4 : DK method_5_code 4 (.if_icmp .ge 30) 3 := by decide +kernel
theorem d_method_5_34 : DK method_5_code 34 (.iconst 1) 1 := by decide +kernel
theorem d_method_5_35 : DK method_5_code 35 (.goto 4) 3 := by decide +kernel
theorem d_method_5_39 : DK method_5_code 39 .ireturn 1 := by decide +kernel
theorem d_method_5_7 : DK method_5_code 7 (.aload_n 0) 1 := by decide +kernel
theorem d_method_5_8 : DK method_5_code 8 (.iload_n 1) 1 := by decide +kernel
theorem d_method_5_9 : DK method_5_code 9 (.iload 6) 2 := by decide +kernel
theorem d_method_5_11 : DK method_5_code 11 .isub 1 := by decide +kernel
theorem d_method_5_12 : DK method_5_code 12 (.bipush 48) 2 := by decide +kernel
theorem d_method_5_14 : DK method_5_code 14 (.lload_n 2) 1 := by decide +kernel
theorem d_method_5_15 : DK method_5_code 15 (.lload 4) 2 := by decide +kernel
theorem d_method_5_17 : DK method_5_code 17 .ldiv 1 := by decide +kernel
theorem d_method_5_18 : DK method_5_code 18 (.ldc2_w 17) 3 := by decide +kernel
theorem d_method_5_21 : DK method_5_code 21 .lrem 1 := by decide +kernel
theorem opd_37 : parseMethodDescriptor "(J)J" = some ⟨[.long], some .long⟩ := by decide +kernel
theorem d_method_5_22 : DK method_5_code 22 (.invokestatic 59) 3 := by decide +kernel
theorem d_method_5_25 : DK method_5_code 25 .l2i 1 := by decide +kernel
theorem d_method_5_26 : DK method_5_code 26 .iadd 1 := by decide +kernel
theorem d_method_5_27 : DK method_5_code 27 .i2c 1 := by decide +kernel
theorem opd_38 : parseMethodDescriptor "(Ljava/lang/String;IC)Z" = some ⟨[(.object "java/lang/String"), .int, .char], some .boolean⟩ := by decide +kernel
theorem d_method_5_28 : DK method_5_code 28 (.invokestatic 65) 3 := by decide +kernel
theorem d_method_5_31 : DK method_5_code 31 (.ifCond .eq 7) 3 := by decide +kernel
theorem opl_rm_dig : plainFor (⟨"com/example/drain_shards/drainshards/LeaseToStringPinLaw", "dig", "(Ljava/lang/String;IJJII)Z"⟩ : MethodName) = true := plainFor_of_name (by first | (simp [plainName, overriddenIn]; done) | decide +kernel)
theorem rm_dig (l : Launch) (Z : State) (a0 : Array Value) (hw : ∀ d ∈ tables_1, d.before a0 Z = true) (ws : List Jvm.Cond) (a d : Addr) (k : ClassId) (us : List Value) (v pp : Int64) (n P kk en : Nat) (zc : Int32) (wf : Value) (n0 : Nat) (h0 : Heap) (SS : own_SS Z zc wf) (O : Old Z n0 h0) (I : STI Z h0 a d k us) (hm : own_mag v n) (hp : pp.toInt = (P : Int)) (h1 : ¬ pp = -1) (h0p : ¬ pp = 0) (hkk : kk ≤ 18) (hen : en < us.length) (hlen : us.length < 1000) (hke : kk < own_wl n → kk ≤ en) (hat : kk < own_wl n → us.getD (en - kk) (.int (0 : Int32)) = .int (Int32.ofNat (48 + n / P % 10))) :
    Con l Z (⟨"com/example/drain_shards/drainshards/LeaseToStringPinLaw", "dig", "(Ljava/lang/String;IJJII)Z"⟩ : MethodName) method_5_code 8 (some .boolean) ws ({ frames := 5, cells := 0, slots := 0, locals := 67 } : Room) #[(.ref a), (.int (Int32.ofNat en)), (.long v), (.long pp), (.int (Int32.ofNat kk)), (.int (Int32.ofNat (own_wl n)))] h0 (fun v h L => v = some (.int (1 : Int32)) ∧ L = [] ∧ h = h0) := by
  refine Con.intro opl_rm_dig ?_
  intro p e s m below meth c s₁ hx hby hml hown hret hlk hZ hnm X0 e0
  have SS' := SS
  obtain ⟨hzc, SC, hwf, SF⟩ := SS
  have Z0 : n0 ≤ h0.size := O.1 ▸ O.2.1
  have N0 := Fr.nil n0
  obtain ⟨P1, P2, P3, P4⟩ := own_wlp hm.1
  have hsg := own_sgle v
  obtain ⟨IE, IC, IF, IV⟩ := I
  refine OGo.cast (g' := (mkF m 0 #[.val (.ref a), .val (.int (Int32.ofNat en)), .val (.long v), .second, .val (.long pp), .second, .val (.int (Int32.ofNat kk)), .val (.int (Int32.ofNat (own_wl n)))] [])) (by first | (simp [entryFrame, mkF, argsToLocals, Value.category]; done) | rfl) ?_
  refine og (fun _ k => XS.iload X0.here hx rfl (hb hby d_method_5_0) rfl k) ?_
  refine og (fun _ k => XS.iload X0.here hx rfl (hb hby d_method_5_2) rfl k) ?_
  by_cases q : kk < own_wl n
  case neg =>
    refine og (fun _ k => XS.icmpYes X0.here hx rfl (pc0 := 4) (pc' := 34) rfl (hb hby d_method_5_4) rfl (flt (fun h => q ((own_lt (by omega) (by omega)).mp h))).2.1 (by decide) (by decide) k) ?_
    refine og (fun _ k => XS.iconst X0.here hx rfl (hb hby d_method_5_34) k) ?_
    refine og (fun _ k => XS.goto X0.here hx rfl (pc0 := 35) (pc' := 39) rfl (hb hby d_method_5_35) (by decide) (by decide) k) ?_
    show OGo p e below _ s₁ (mkF m 39 #[.val (.ref a), .val (.int (Int32.ofNat en)), .val (.long v), .second, .val (.long pp), .second, .val (.int (Int32.ofNat kk)), .val (.int (Int32.ofNat (own_wl n)))] [(.int (1 : Int32))])
    exact OGo.ret X0 hx (t := .boolean) hret hlk rfl (Or.inl ⟨rfl, by simp, _, rfl⟩) (hb hby d_method_5_39) (by decide) (by decide) ⟨rfl, rfl, e0⟩
  refine og (fun _ k => XS.icmpNo X0.here hx rfl (hb hby d_method_5_4) rfl (tlt ((own_lt (by omega) (by omega)).mpr q)).2.1 k) ?_
  refine og (fun _ k => XS.aloadN X0.here hx rfl (hb hby d_method_5_7) rfl rfl k) ?_
  refine og (fun _ k => XS.iloadN X0.here hx rfl (hb hby d_method_5_8) rfl k) ?_
  refine og (fun _ k => XS.iload X0.here hx rfl (hb hby d_method_5_9) rfl k) ?_
  refine og (fun _ k => XS.isub X0.here hx rfl (hb hby d_method_5_11) rfl k) ?_
  show OGo p e below _ s₁ (mkF m 12 #[.val (.ref a), .val (.int (Int32.ofNat en)), .val (.long v), .second, .val (.long pp), .second, .val (.int (Int32.ofNat kk)), .val (.int (Int32.ofNat (own_wl n)))] [(.int ((Int32.ofNat en) - (Int32.ofNat kk))), (.ref a)])
  rw [own_subn (show kk ≤ en by omega) (by omega)]
  refine og (fun _ k => XS.bipush X0.here hx rfl (hb hby d_method_5_12) k) ?_
  refine og (fun _ k => XS.lloadN X0.here hx rfl (hb hby d_method_5_14) rfl k) ?_
  refine og (fun _ k => XS.lload X0.here hx rfl (hb hby d_method_5_15) rfl k) ?_
  refine og (fun _ k => XS.ldiv X0.here hx rfl (hb hby d_method_5_17) rfl h0p k) ?_
  refine og (fun _ k => Jvm.Stand.ldc2J X0 hx hown (mvT hZ (own_g hw 230 rfl)) rfl (hb hby d_method_5_18) k) ?_
  refine og (fun _ k => XS.lrem X0.here hx rfl (hb hby d_method_5_21) rfl (by decide) k) ?_
  obtain ⟨v345, T345, L345, X345, hQ345, st345⟩ := scall X0 hx hZ hown (own_g hw 279 rfl) (own_g hw 280 rfl) (own_g hw 151 rfl) (own_g hw 281 rfl) (by decide) (W := 3) (rm_absJ l Z a0 hw [] ((v / pp) - ((v / pp) / (10 : Int64)) * (10 : Int64)) h0 ) e0 (by decide) (by decide) (by decide) (by decide) (g := (mkF m 22 #[.val (.ref a), .val (.int (Int32.ofNat en)), .val (.long v), .second, .val (.long pp), .second, .val (.int (Int32.ofNat kk)), .val (.int (Int32.ofNat (own_wl n)))] [(.long ((v / pp) - ((v / pp) / (10 : Int64)) * (10 : Int64))), (.int (48 : Int32)), (.int (Int32.ofNat (en - kk))), (.ref a)])) rfl (by rw [hml]; rfl) (argsL := [(.long ((v / pp) - ((v / pp) / (10 : Int64)) * (10 : Int64)))]) (rest := [(.int (48 : Int32)), (.int (Int32.ofNat (en - kk))), (.ref a)]) opd_37 rfl rfl rfl (by show 2 * 0 + _ ≤ _; exact Nat.le_of_eq rfl) (hb hby d_method_5_22)
  obtain ⟨rfl, rfl, e345⟩ := hQ345
  rw [List.append_nil] at X345
  refine og st345 ?_
  refine og (fun _ k => XS.l2i X345.here hx rfl (hb hby d_method_5_25) rfl k) ?_
  refine og (fun _ k => XS.iadd X345.here hx rfl (hb hby d_method_5_26) rfl k) ?_
  refine og (fun _ k => XS.i2c X345.here hx rfl (hb hby d_method_5_27) rfl k) ?_
  show OGo p e below _ T345 (mkF m 28 #[.val (.ref a), .val (.int (Int32.ofNat en)), .val (.long v), .second, .val (.long pp), .second, .val (.int (Int32.ofNat kk)), .val (.int (Int32.ofNat (own_wl n)))] [(.int (((48 : Int32) + ((if ((v / pp) - ((v / pp) / (10 : Int64)) * (10 : Int64)) < 0 then -((v / pp) - ((v / pp) / (10 : Int64)) * (10 : Int64)) else ((v / pp) - ((v / pp) / (10 : Int64)) * (10 : Int64))).toInt32)).toUInt32.toUInt16.toUInt32.toInt32)), (.int (Int32.ofNat (en - kk))), (.ref a)])
  rw [own_dchL hm hp h1]
  obtain ⟨v346, T346, L346, X346, hQ346, st346⟩ := scall X345 hx hZ hown (own_g hw 252 rfl) (own_g hw 253 rfl) (own_g hw 228 rfl) (own_g hw 254 rfl) (by decide) (W := 0) (rm_at l Z a0 hw [] a d k us (Int32.ofNat (en - kk)) (Int32.ofNat (48 + n / P % 10)) (Int32.ofNat (48 + n / P % 10)) zc wf n0 h0 SS' O ⟨IE, IC, IF, IV⟩ (own_nn (by omega)) ((own_lt (by omega) (by omega)).mpr (by omega)) (by rw [own_cl (by omega)]; exact hat q) (own_lo128 _ (by omega))) e345 (by decide) (by decide) (by decide) (by decide) (g := (mkF m 28 #[.val (.ref a), .val (.int (Int32.ofNat en)), .val (.long v), .second, .val (.long pp), .second, .val (.int (Int32.ofNat kk)), .val (.int (Int32.ofNat (own_wl n)))] [(.int (Int32.ofNat (48 + n / P % 10))), (.int (Int32.ofNat (en - kk))), (.ref a)])) rfl (by rw [hml]; rfl) (argsL := [(.ref a), (.int (Int32.ofNat (en - kk))), (.int (Int32.ofNat (48 + n / P % 10)))]) (rest := []) opd_38 rfl rfl rfl (by show 2 * 0 + _ ≤ _; exact Nat.le_of_eq rfl) (hb hby d_method_5_28)
  obtain ⟨rfl, rfl, e346⟩ := hQ346
  rw [List.append_nil] at X346
  refine og st346 ?_
  refine og (fun _ k => XS.ifNo X346.here hx rfl (hb hby d_method_5_31) rfl ((if0 _ _).trans (feq (by decide : ¬ (1 : Int32) = 0)).1) k) ?_
  refine og (fun _ k => XS.iconst X346.here hx rfl (hb hby d_method_5_34) k) ?_
  refine og (fun _ k => XS.goto X346.here hx rfl (pc0 := 35) (pc' := 39) rfl (hb hby d_method_5_35) (by decide) (by decide) k) ?_
  show OGo p e below _ T346 (mkF m 39 #[.val (.ref a), .val (.int (Int32.ofNat en)), .val (.long v), .second, .val (.long pp), .second, .val (.int (Int32.ofNat kk)), .val (.int (Int32.ofNat (own_wl n)))] [(.int (1 : Int32))])
  exact OGo.ret X346 hx (t := .boolean) hret hlk rfl (Or.inl ⟨rfl, by simp, _, rfl⟩) (hb hby d_method_5_39) (by decide) (by decide) ⟨rfl, rfl, e346⟩
theorem own_and255 (x : Int32) : ¬ (x &&& 255) < 0 ∧ ¬ (255 : Int32) < (x &&& 255) := by
  have q := c_and x 255 (by decide)
  have e0 : (0 : Int32).toInt = 0 := rfl
  have e1 : (255 : Int32).toInt = 255 := rfl
  rw [Int32.lt_iff_toInt_lt, Int32.lt_iff_toInt_lt]
  omega
theorem own_lo8 {x : Int32} (h : ¬ x < 0 ∧ ¬ (255 : Int32) < x) : (x.toInt8.toInt32 &&& 255) = x := by
  obtain ⟨h0, h1⟩ := h
  rw [Int32.lt_iff_toInt_lt] at h0 h1
  have e0 : (0 : Int32).toInt = 0 := rfl
  have e1 : (255 : Int32).toInt = 255 := rfl
  have q := c_i2b x
  have r := c_mask x.toInt8.toInt32 255 8 (by decide) (by decide)
  apply Int32.toInt_inj.mp
  rw [r]
  show x.toInt8.toInt32.toInt % 256 = x.toInt
  omega
theorem own_ok2 {x y : Int32} (h : ¬ x < 0 ∧ ¬ (255 : Int32) < x) (h' : ¬ y < 0 ∧ ¬ (255 : Int32) < y) : own_ok8 [x, y] := own_okS h (own_okS h' own_ok0)
theorem own_gd {xs ys : List Value} {i j : Nat} {d : Value} (h : i = xs.length + j) : (xs ++ ys).getD i d = ys.getD j d := by
  subst h; simp [List.getD, List.getElem?_append_right]
theorem own_gl {xs ys : List Value} {i : Nat} {d : Value} (h : i < xs.length) : (xs ++ ys).getD i d = xs.getD i d := by
  simp [List.getD, List.getElem?_append_left h]
/-- head ++ number ++ tail, read at a place -/
theorem own_3 {A B : List Value} {v : Int64} {n : Nat} {us : List Value} (e : us = A ++ (own_num v n ++ B)) : us.length = A.length + (own_wl n + own_sg v) + B.length ∧ (∀ i, i < A.length → us.getD i (.int (0 : Int32)) = A.getD i (.int (0 : Int32))) ∧ (∀ i, us.getD (A.length + (own_wl n + own_sg v) + i) (.int (0 : Int32)) = B.getD i (.int (0 : Int32))) ∧ (v < 0 → us.getD A.length (.int (0 : Int32)) = .int (45 : Int32)) ∧ (∀ kk, kk < own_wl n → us.getD (A.length + (own_wl n + own_sg v) - 1 - kk) (.int (0 : Int32)) = .int (Int32.ofNat (48 + n / 10 ^ kk % 10))) := by
  subst e
  have hl := own_numlen v n
  refine ⟨by rw [List.length_append, List.length_append, hl]; omega, fun i hi => own_gl hi, fun i => ?_, fun hv => ?_, fun kk hk => ?_⟩
  · rw [own_gd (j := own_wl n + own_sg v + i) (by omega), own_gd (j := i) (by rw [hl])]
  · rw [own_gd (i := A.length) (j := 0) rfl, own_num, if_pos hv]; rfl
  · rw [own_gd (j := own_sg v + (own_wl n - 1 - kk)) (by omega), own_gl (by rw [hl]; omega), own_num]
    have hs : (if v < 0 then [Value.int (45 : Int32)] else []).length = own_sg v := by unfold own_sg; split <;> rfl
    rw [own_gd (j := own_wl n - 1 - kk) (by rw [hs]), List.getD_eq_getElem?_getD, own_digat n _ _ (by omega), show own_wl n - 1 - (own_wl n - 1 - kk) = kk by omega]
    rfl
def own_Q (n0 : Nat) : Option Value → Heap → List Loc → Prop := fun v _ L => v = some (.int 1) ∧ Fr n0 L
def own_hdl (k0 k1 : Int32) : List Value := own_l66 ++ own_b8 [k0, k1] ++ own_l68
theorem own_hd {k0 k1 : Int32} {r : List Value} {i : Nat} (h : i < 16) : (own_hdl k0 k1 ++ r).getD i (.int (0 : Int32)) = (own_hdl k0 k1).getD i (.int (0 : Int32)) := own_gl h
theorem own_p0 : (1 : Int64).toInt = ((10 ^ 0 : Nat) : Int) ∧ ¬ (1 : Int64) = -1 ∧ ¬ (1 : Int64) = 0 := by decide
theorem own_p1 : (10 : Int64).toInt = ((10 ^ 1 : Nat) : Int) ∧ ¬ (10 : Int64) = -1 ∧ ¬ (10 : Int64) = 0 := by decide
theorem own_p2 : (100 : Int64).toInt = ((10 ^ 2 : Nat) : Int) ∧ ¬ (100 : Int64) = -1 ∧ ¬ (100 : Int64) = 0 := by decide
theorem own_p3 : (1000 : Int64).toInt = ((10 ^ 3 : Nat) : Int) ∧ ¬ (1000 : Int64) = -1 ∧ ¬ (1000 : Int64) = 0 := by decide
theorem own_p4 : (10000 : Int64).toInt = ((10 ^ 4 : Nat) : Int) ∧ ¬ (10000 : Int64) = -1 ∧ ¬ (10000 : Int64) = 0 := by decide
theorem own_p5 : (100000 : Int64).toInt = ((10 ^ 5 : Nat) : Int) ∧ ¬ (100000 : Int64) = -1 ∧ ¬ (100000 : Int64) = 0 := by decide
theorem own_p6 : (1000000 : Int64).toInt = ((10 ^ 6 : Nat) : Int) ∧ ¬ (1000000 : Int64) = -1 ∧ ¬ (1000000 : Int64) = 0 := by decide
theorem own_p7 : (10000000 : Int64).toInt = ((10 ^ 7 : Nat) : Int) ∧ ¬ (10000000 : Int64) = -1 ∧ ¬ (10000000 : Int64) = 0 := by decide
theorem own_p8 : (100000000 : Int64).toInt = ((10 ^ 8 : Nat) : Int) ∧ ¬ (100000000 : Int64) = -1 ∧ ¬ (100000000 : Int64) = 0 := by decide
theorem own_p9 : (1000000000 : Int64).toInt = ((10 ^ 9 : Nat) : Int) ∧ ¬ (1000000000 : Int64) = -1 ∧ ¬ (1000000000 : Int64) = 0 := by decide
theorem own_p10 : (10000000000 : Int64).toInt = ((10 ^ 10 : Nat) : Int) ∧ ¬ (10000000000 : Int64) = -1 ∧ ¬ (10000000000 : Int64) = 0 := by decide
theorem own_p11 : (100000000000 : Int64).toInt = ((10 ^ 11 : Nat) : Int) ∧ ¬ (100000000000 : Int64) = -1 ∧ ¬ (100000000000 : Int64) = 0 := by decide
theorem own_p12 : (1000000000000 : Int64).toInt = ((10 ^ 12 : Nat) : Int) ∧ ¬ (1000000000000 : Int64) = -1 ∧ ¬ (1000000000000 : Int64) = 0 := by decide
theorem own_p13 : (10000000000000 : Int64).toInt = ((10 ^ 13 : Nat) : Int) ∧ ¬ (10000000000000 : Int64) = -1 ∧ ¬ (10000000000000 : Int64) = 0 := by decide
theorem own_p14 : (100000000000000 : Int64).toInt = ((10 ^ 14 : Nat) : Int) ∧ ¬ (100000000000000 : Int64) = -1 ∧ ¬ (100000000000000 : Int64) = 0 := by decide
theorem own_p15 : (1000000000000000 : Int64).toInt = ((10 ^ 15 : Nat) : Int) ∧ ¬ (1000000000000000 : Int64) = -1 ∧ ¬ (1000000000000000 : Int64) = 0 := by decide
theorem own_p16 : (10000000000000000 : Int64).toInt = ((10 ^ 16 : Nat) : Int) ∧ ¬ (10000000000000000 : Int64) = -1 ∧ ¬ (10000000000000000 : Int64) = 0 := by decide
theorem own_p17 : (100000000000000000 : Int64).toInt = ((10 ^ 17 : Nat) : Int) ∧ ¬ (100000000000000000 : Int64) = -1 ∧ ¬ (100000000000000000 : Int64) = 0 := by decide
theorem own_p18 : (1000000000000000000 : Int64).toInt = ((10 ^ 18 : Nat) : Int) ∧ ¬ (1000000000000000000 : Int64) = -1 ∧ ¬ (1000000000000000000 : Int64) = 0 := by decide
abbrev own_fA (m : MethodId) (a b : Int32) (v : Int64) (d k0 k1 o x8 c0 c1 : Int32) (a11 a12 : Addr) (v13 : Value) (a14 a15 : Addr) (pc : Nat) (s16 s17 s18 s19 s20 s21 s22 s23 s24 s25 s26 s27 s28 : Slot) (S : List Value) : JFrame := mkF m pc #[.val (.int a), .val (.int b), .val (.long v), .second, .val (.int d), .val (.int k0), .val (.int k1), .val (.int o), .val (.int x8), .val (.int c0), .val (.int c1), .val (.ref a11), .val (.ref a12), .val v13, .val (.ref a14), .val (.ref a15), s16, s17, s18, s19, s20, s21, s22, s23, s24, s25, s26, s27, s28] S
theorem own_fAs {m : MethodId} {a b : Int32} {v : Int64} {d k0 k1 o x8 c0 c1 : Int32} {a11 a12 : Addr} {v13 : Value} {a14 a15 : Addr} {pc : Nat} {s16 s17 s18 s19 s20 s21 s22 s23 s24 s25 s26 s27 s28 : Slot} {S : List Value} : (own_fA m a b v d k0 k1 o x8 c0 c1 a11 a12 v13 a14 a15 pc s16 s17 s18 s19 s20 s21 s22 s23 s24 s25 s26 s27 s28 S).locals.size = 29 := rfl
theorem opd_39 : parseMethodDescriptor "(Ljava/lang/String;IJJII)Z" = some ⟨[(.object "java/lang/String"), .int, .long, .long, .int, .int], some .boolean⟩ := by decide +kernel
theorem opd_40 : parseMethodDescriptor "([C)V" = some ⟨[(.array .char)], none⟩ := by decide +kernel
theorem opd_41 : parseMethodDescriptor "(C)Ljava/lang/String;" = some ⟨[.char], some (.object "java/lang/String")⟩ := by decide +kernel
theorem opd_42 : parseMethodDescriptor "(Ljava/lang/String;Ljava/lang/String;JLjava/lang/String;)V" = some ⟨[(.object "java/lang/String"), (.object "java/lang/String"), .long, (.object "java/lang/String")], none⟩ := by decide +kernel
theorem opl_rm_law : plainFor x = true := plainFor_of_name (by first | (simp [plainName, overriddenIn]; done) | decide +kernel)
theorem rm_law (l : Launch) (Z : State) (a0 : Array Value) (hw : ∀ d ∈ tables_1, d.before a0 Z = true) (ws : List Jvm.Cond) (a b : Int32) (v : Int64) (d : Int32) (zc : Int32) (wf : Value) (n0 : Nat) (d1 d2 : Addr) (kd1 kd2 : ClassId) (h0 : Heap) (SS : own_SS Z zc wf) (O : Old Z n0 h0) (SI : own_SI Z d1 d2 kd1 kd2) :
    ConH l Z own_EL x code maxLocals ret ws room_1 #[(.int a), (.int b), (.long v), (.int d)] h0 (own_Q n0) := by
  refine ConH.intro opl_rm_law ?_
  intro p e s m below meth c s₁ hx hby hml hown hret hlk hZ hnm X0 e0 hs0 hS0 H0 R0
  have SS' := SS
  obtain ⟨hzc, SC, hwf, SF⟩ := SS
  have Z0 : n0 ≤ h0.size := O.1 ▸ O.2.1
  have N0 := Fr.nil n0
  refine OGo.cast (g' := (mkF m 0 #[.val (.int a), .val (.int b), .val (.long v), .second, .val (.int d), .unset, .unset, .unset, .unset, .unset, .unset, .unset, .unset, .unset, .unset, .unset, .unset, .unset, .unset, .unset, .unset, .unset, .unset, .unset, .unset, .unset, .unset, .unset, .unset] [])) (by first | (simp [entryFrame, mkF, argsToLocals, Value.category, maxLocals]; done) | rfl) ?_
  obtain ⟨n, hm1, hm2⟩ := Jvm.Free.SBG.negL_of v
  have hm : own_mag v n := ⟨hm1, hm2⟩
  obtain ⟨P1, P2, P3, P4⟩ := own_wlp hm.1
  have hsg := own_sgle v
  refine og (fun _ k => XS.iloadN X0.here hx rfl (hb hby at_0) rfl k) ?_
  refine og (fun _ k => XS.sipush X0.here hx rfl (hb hby at_1) k) ?_
  refine og (fun _ k => XS.iand X0.here hx rfl (hb hby at_4) rfl k) ?_
  refine og (fun _ k => XS.i2c X0.here hx rfl (hb hby at_5) rfl k) ?_
  show OGo p e below _ s₁ (mkF m 6 #[.val (.int a), .val (.int b), .val (.long v), .second, .val (.int d), .unset, .unset, .unset, .unset, .unset, .unset, .unset, .unset, .unset, .unset, .unset, .unset, .unset, .unset, .unset, .unset, .unset, .unset, .unset, .unset, .unset, .unset, .unset, .unset] [(.int ((a &&& (255 : Int32)).toUInt32.toUInt16.toUInt32.toInt32))])
  rw [i2c_mask]
  obtain ⟨k0, ek0⟩ : ∃ z, (a &&& (255 : Int32)) = z := ⟨_, rfl⟩
  have hk0 := own_and255 a
  rw [ek0] at hk0
  show OGo p e below _ s₁ (mkF m 6 #[.val (.int a), .val (.int b), .val (.long v), .second, .val (.int d), .unset, .unset, .unset, .unset, .unset, .unset, .unset, .unset, .unset, .unset, .unset, .unset, .unset, .unset, .unset, .unset, .unset, .unset, .unset, .unset, .unset, .unset, .unset, .unset] [(.int (a &&& (255 : Int32)))])
  rw [ek0]
  refine og (fun _ k => XS.istore X0.here hx rfl (hb hby at_6) rfl (l' := #[.val (.int a), .val (.int b), .val (.long v), .second, .val (.int d), .val (.int k0), .unset, .unset, .unset, .unset, .unset, .unset, .unset, .unset, .unset, .unset, .unset, .unset, .unset, .unset, .unset, .unset, .unset, .unset, .unset, .unset, .unset, .unset, .unset]) rfl k) ?_
  refine og (fun _ k => XS.iloadN X0.here hx rfl (hb hby at_8) rfl k) ?_
  refine og (fun _ k => XS.bipush X0.here hx rfl (hb hby at_9) k) ?_
  refine og (fun _ k => XS.iushr X0.here hx rfl (hb hby at_11) rfl k) ?_
  refine og (fun _ k => XS.sipush X0.here hx rfl (hb hby at_12) k) ?_
  refine og (fun _ k => XS.iand X0.here hx rfl (hb hby at_15) rfl k) ?_
  refine og (fun _ k => XS.i2c X0.here hx rfl (hb hby at_16) rfl k) ?_
  show OGo p e below _ s₁ (mkF m 17 #[.val (.int a), .val (.int b), .val (.long v), .second, .val (.int d), .val (.int k0), .unset, .unset, .unset, .unset, .unset, .unset, .unset, .unset, .unset, .unset, .unset, .unset, .unset, .unset, .unset, .unset, .unset, .unset, .unset, .unset, .unset, .unset, .unset] [(.int ((((a.toUInt32 >>> ((8 : Int32) &&& 31).toUInt32).toInt32) &&& (255 : Int32)).toUInt32.toUInt16.toUInt32.toInt32))])
  rw [i2c_mask]
  obtain ⟨k1, ek1⟩ : ∃ z, (((a.toUInt32 >>> ((8 : Int32) &&& 31).toUInt32).toInt32) &&& (255 : Int32)) = z := ⟨_, rfl⟩
  have hk1 := own_and255 ((a.toUInt32 >>> ((8 : Int32) &&& 31).toUInt32).toInt32)
  rw [ek1] at hk1
  show OGo p e below _ s₁ (mkF m 17 #[.val (.int a), .val (.int b), .val (.long v), .second, .val (.int d), .val (.int k0), .unset, .unset, .unset, .unset, .unset, .unset, .unset, .unset, .unset, .unset, .unset, .unset, .unset, .unset, .unset, .unset, .unset, .unset, .unset, .unset, .unset, .unset, .unset] [(.int (((a.toUInt32 >>> ((8 : Int32) &&& 31).toUInt32).toInt32) &&& (255 : Int32)))])
  rw [ek1]
  refine og (fun _ k => XS.istore X0.here hx rfl (hb hby at_17) rfl (l' := #[.val (.int a), .val (.int b), .val (.long v), .second, .val (.int d), .val (.int k0), .val (.int k1), .unset, .unset, .unset, .unset, .unset, .unset, .unset, .unset, .unset, .unset, .unset, .unset, .unset, .unset, .unset, .unset, .unset, .unset, .unset, .unset, .unset, .unset]) rfl k) ?_
  refine og (fun _ k => XS.iloadN X0.here hx rfl (hb hby at_19) rfl k) ?_
  refine og (fun _ k => XS.sipush X0.here hx rfl (hb hby at_20) k) ?_
  refine og (fun _ k => XS.iand X0.here hx rfl (hb hby at_23) rfl k) ?_
  refine og (fun _ k => XS.i2c X0.here hx rfl (hb hby at_24) rfl k) ?_
  show OGo p e below _ s₁ (mkF m 25 #[.val (.int a), .val (.int b), .val (.long v), .second, .val (.int d), .val (.int k0), .val (.int k1), .unset, .unset, .unset, .unset, .unset, .unset, .unset, .unset, .unset, .unset, .unset, .unset, .unset, .unset, .unset, .unset, .unset, .unset, .unset, .unset, .unset, .unset] [(.int ((b &&& (255 : Int32)).toUInt32.toUInt16.toUInt32.toInt32))])
  rw [i2c_mask]
  obtain ⟨o, eo⟩ : ∃ z, (b &&& (255 : Int32)) = z := ⟨_, rfl⟩
  have ho := own_and255 b
  rw [eo] at ho
  show OGo p e below _ s₁ (mkF m 25 #[.val (.int a), .val (.int b), .val (.long v), .second, .val (.int d), .val (.int k0), .val (.int k1), .unset, .unset, .unset, .unset, .unset, .unset, .unset, .unset, .unset, .unset, .unset, .unset, .unset, .unset, .unset, .unset, .unset, .unset, .unset, .unset, .unset, .unset] [(.int (b &&& (255 : Int32)))])
  rw [eo]
  refine og (fun _ k => XS.istore X0.here hx rfl (hb hby at_25) rfl (l' := #[.val (.int a), .val (.int b), .val (.long v), .second, .val (.int d), .val (.int k0), .val (.int k1), .val (.int o), .unset, .unset, .unset, .unset, .unset, .unset, .unset, .unset, .unset, .unset, .unset, .unset, .unset, .unset, .unset, .unset, .unset, .unset, .unset, .unset, .unset]) rfl k) ?_
  refine og (fun _ k => XS.iloadN X0.here hx rfl (hb hby at_27) rfl k) ?_
  refine og (fun _ k => XS.bipush X0.here hx rfl (hb hby at_28) k) ?_
  refine og (fun _ k => XS.iushr X0.here hx rfl (hb hby at_30) rfl k) ?_
  refine og (fun _ k => XS.iconst X0.here hx rfl (hb hby at_31) k) ?_
  refine og (fun _ k => XS.iand X0.here hx rfl (hb hby at_32) rfl k) ?_
  obtain ⟨c0, ec0⟩ : ∃ z, (d &&& (255 : Int32)) = z := ⟨_, rfl⟩
  have hc0 := own_and255 d
  rw [ec0] at hc0
  obtain ⟨c1, ec1⟩ : ∃ z, (((d.toUInt32 >>> ((8 : Int32) &&& 31).toUInt32).toInt32) &&& (255 : Int32)) = z := ⟨_, rfl⟩
  have hc1 := own_and255 ((d.toUInt32 >>> ((8 : Int32) &&& 31).toUInt32).toInt32)
  rw [ec1] at hc1
  obtain ⟨mm, hmm⟩ : ∃ z, z = own_wl n + own_sg v := ⟨_, rfl⟩
  have hmb : 1 ≤ mm ∧ mm ≤ 20 := by omega
  have K147 : ∀ (vm : Vm) (kz : Nat) (T : State) (h : Heap) (locs : List Loc) (x8 : Int32) (v13 : Value) (a11 a12 a14 ms rs : Addr) (kr : ClassId) (us : List Value) (ow : Nat), ((x8 = 1 ∧ ow = 4 ∧ ∀ i, i < 4 → us.getD (16 + i) (.int (0 : Int32)) = own_nul.getD i (.int (0 : Int32))) ∨ (x8 = 0 ∧ ow = 1 ∧ us.getD 16 (.int (0 : Int32)) = .int o.toInt8.toInt32)) → us.length = 16 + ow + 10 + mm + 16 → (∀ i, i < 16 → us.getD i (.int (0 : Int32)) = (own_hdl k0 k1).getD i (.int (0 : Int32))) → (∀ i, i < 10 → us.getD (16 + ow + i) (.int (0 : Int32)) = own_l70.getD i (.int (0 : Int32))) → (v < 0 → us.getD (16 + ow + 10) (.int (0 : Int32)) = .int (45 : Int32)) → (∀ kk, kk < own_wl n → us.getD (16 + ow + 10 + mm - 1 - kk) (.int (0 : Int32)) = .int (Int32.ofNat (48 + n / 10 ^ kk % 10))) → (∀ i, us.getD (16 + ow + 10 + mm + i) (.int (0 : Int32)) = (own_l75 ++ own_b8 [c0, c1] ++ own_l77).getD i (.int (0 : Int32))) → Stand p l e room_1 (s.setVm vm) m #[(.int a), (.int b), (.long v), (.int d)] below meth c T locs 36 1649 → T.heap = h → Z.Warmed39 vm → vm.findClass "com/example/drain_shards/drainshards/LeaseToStringPinLaw" = some m.cls → s.Since vm kz → kz ≤ h.size → CHv Z own_EL vm h → CHr Z own_EL s.vm h0 vm h → Fr n0 locs → Old Z n0 h → STI Z h ms rs kr us → OGo p e below (EndH Z own_EL s room_1 (own_Q n0)) T (own_fA m a b v d k0 k1 o x8 c0 c1 a11 a12 v13 a14 ms 147 (.unset) (.unset) (.unset) (.unset) (.unset) (.unset) (.unset) (.unset) (.unset) (.unset) (.unset) (.unset) (.unset) []) := by
    intro vm kz T h locs x8 v13 a11 a12 a14 ms rs kr us ow hx8 hl gA gC gS gD gB X eT hZ1 hown1 hS1 hkz H1 R1 N O1 Is
    have how : ow ≤ 4 := by omega
    show OGo p e below _ T (own_fA m a b v d k0 k1 o x8 c0 c1 a11 a12 v13 a14 ms 147 (.unset) (.unset) (.unset) (.unset) (.unset) (.unset) (.unset) (.unset) (.unset) (.unset) (.unset) (.unset) (.unset) [])
    have AT : ∀ {T : State} {locs : List Loc} {i b' x : Int32} {g : JFrame}, Stand p l e room_1 (s.setVm vm) m #[(.int a), (.int b), (.long v), (.int d)] below meth c T locs 36 1649 → T.heap = h → ¬ i < 0 → i < Int32.ofNat us.length → us.getD i.toNatClampNeg (.int (0 : Int32)) = .int b' → (b' &&& 255) = x → g.method = m → g.locals.size = c.maxLocals → g.monitorRoom = 0 → g.stack = [(.int x), (.int i), (.ref ms)] → decode c.code g.pc = .ok (.invokestatic 65, 3) → ∃ T', Stand p l e room_1 (s.setVm vm) m #[(.int a), (.int b), (.long v), (.int d)] below meth c T' locs 36 1649 ∧ T'.heap = h ∧ ∀ t, Steps p.tables e below (T'.setTop { g with pc := g.pc + 3, stack := [(.int (1 : Int32))] }) t → Steps p.tables e below (T.setTop g) t := by
      intro T locs i b' x g X eT h1 h2 h3 h4 hg hsz hmr hst hd
      obtain ⟨v1, T1, L1, X1, hQ1, st1⟩ := scall X hx hZ1 hown1 (own_g hw 252 rfl) (own_g hw 253 rfl) (own_g hw 228 rfl) (own_g hw 254 rfl) (by decide) (W := 0) (rm_at l Z a0 hw [] ms rs kr us i b' x zc wf n0 h SS' O1 Is h1 h2 h3 h4) eT (by decide) (by decide) (by decide) (by decide) (g := g) hg hsz (argsL := [(.ref ms), (.int i), (.int x)]) (rest := []) opd_38 rfl hst rfl (by rw [hmr]; exact Nat.le_refl _) hd
      obtain ⟨rfl, rfl, e1⟩ := hQ1
      rw [List.append_nil] at X1
      exact ⟨T1, X1, e1, st1⟩
    have hlb : us.length ≤ 70 := by omega
    have ATN : ∀ {T : State} {locs : List Loc} (j : Nat) {b' x : Int32} {g : JFrame}, Stand p l e room_1 (s.setVm vm) m #[(.int a), (.int b), (.long v), (.int d)] below meth c T locs 36 1649 → T.heap = h → j < us.length → us.getD j (.int (0 : Int32)) = .int b' → (b' &&& 255) = x → g.method = m → g.locals.size = c.maxLocals → g.monitorRoom = 0 → g.stack = [(.int x), (.int (Int32.ofNat j)), (.ref ms)] → decode c.code g.pc = .ok (.invokestatic 65, 3) → ∃ T', Stand p l e room_1 (s.setVm vm) m #[(.int a), (.int b), (.long v), (.int d)] below meth c T' locs 36 1649 ∧ T'.heap = h ∧ ∀ t, Steps p.tables e below (T'.setTop { g with pc := g.pc + 3, stack := [(.int (1 : Int32))] }) t → Steps p.tables e below (T.setTop g) t := by
      intro T locs j b' x g X eT hj h3 h4 hg hsz hmr hst hd
      exact AT X eT (own_nn (by omega)) ((own_lt (by omega) (by omega)).mpr hj) (by rw [own_cl (by omega)]; exact h3) h4 hg hsz hmr hst hd
    have DIG : ∀ {T : State} {locs : List Loc} (kk : Nat) (pp : Int64) {g : JFrame}, Stand p l e room_1 (s.setVm vm) m #[(.int a), (.int b), (.long v), (.int d)] below meth c T locs 36 1649 → T.heap = h → (pp.toInt = ((10 ^ kk : Nat) : Int) ∧ ¬ pp = -1 ∧ ¬ pp = 0) → kk ≤ 18 → g.method = m → g.locals.size = c.maxLocals → g.monitorRoom = 0 → g.stack = [(.int (Int32.ofNat (own_wl n))), (.int (Int32.ofNat kk)), (.long pp), (.long v), (.int (Int32.ofNat (16 + ow + 10 + mm - 1))), (.ref ms)] → decode c.code g.pc = .ok (.invokestatic 89, 3) → ∃ T', Stand p l e room_1 (s.setVm vm) m #[(.int a), (.int b), (.long v), (.int d)] below meth c T' locs 36 1649 ∧ T'.heap = h ∧ ∀ t, Steps p.tables e below (T'.setTop { g with pc := g.pc + 3, stack := [(.int (1 : Int32))] }) t → Steps p.tables e below (T.setTop g) t := by
      intro T locs kk pp g X eT hp hk hg hsz hmr hst hd
      obtain ⟨v1, T1, L1, X1, hQ1, st1⟩ := scall X hx hZ1 hown1 (own_g hw 276 rfl) (own_g hw 277 rfl) (own_g hw 228 rfl) (own_g hw 278 rfl) (by decide) (W := 0) (rm_dig l Z a0 hw [] ms rs kr us v pp n (10 ^ kk) kk (16 + ow + 10 + mm - 1) zc wf n0 h SS' O1 Is hm hp.1 hp.2.1 hp.2.2 hk (by omega) (by omega) (fun q => by omega) (fun q => gD kk q)) eT (by decide) (by decide) (by decide) (by decide) (g := g) hg hsz (argsL := [(.ref ms), (.int (Int32.ofNat (16 + ow + 10 + mm - 1))), (.long v), (.long pp), (.int (Int32.ofNat kk)), (.int (Int32.ofNat (own_wl n)))]) (rest := []) opd_39 rfl hst rfl (by rw [hmr]; exact Nat.le_refl _) hd
      obtain ⟨rfl, rfl, e1⟩ := hQ1
      rw [List.append_nil] at X1
      exact ⟨T1, X1, e1, st1⟩
    refine og (fun _ k => XS.iload X.here hx rfl (hb hby at_147) rfl k) ?_
    have K157 : ∀  (T : State) (locs : List Loc), Stand p l e room_1 (s.setVm vm) m #[(.int a), (.int b), (.long v), (.int d)] below meth c T locs 36 1649 → Fr n0 locs → T.heap = h → OGo p e below (EndH Z own_EL s room_1 (own_Q n0)) T (own_fA m a b v d k0 k1 o x8 c0 c1 a11 a12 v13 a14 ms 157 (.unset) (.unset) (.unset) (.unset) (.unset) (.unset) (.unset) (.unset) (.unset) (.unset) (.unset) (.unset) (.unset) [(.int (Int32.ofNat ow))]) := by
      intro  T locs X N eT
      show OGo p e below _ T (own_fA m a b v d k0 k1 o x8 c0 c1 a11 a12 v13 a14 ms 157 (.unset) (.unset) (.unset) (.unset) (.unset) (.unset) (.unset) (.unset) (.unset) (.unset) (.unset) (.unset) (.unset) [(.int (Int32.ofNat ow))])
      refine og (fun _ k => XS.istore X.here hx rfl (hb hby at_157) rfl (l' := #[.val (.int a), .val (.int b), .val (.long v), .second, .val (.int d), .val (.int k0), .val (.int k1), .val (.int o), .val (.int x8), .val (.int c0), .val (.int c1), .val (.ref a11), .val (.ref a12), .val v13, .val (.ref a14), .val (.ref ms), .val (.int (Int32.ofNat ow)), .unset, .unset, .unset, .unset, .unset, .unset, .unset, .unset, .unset, .unset, .unset, .unset]) rfl k) ?_
      refine og (fun _ k => XS.bipush X.here hx rfl (hb hby at_159) k) ?_
      refine og (fun _ k => XS.iload X.here hx rfl (hb hby at_161) rfl k) ?_
      refine og (fun _ k => XS.iadd X.here hx rfl (hb hby at_163) rfl k) ?_
      show OGo p e below _ T (own_fA m a b v d k0 k1 o x8 c0 c1 a11 a12 v13 a14 ms 164 (.val (.int (Int32.ofNat ow))) (.unset) (.unset) (.unset) (.unset) (.unset) (.unset) (.unset) (.unset) (.unset) (.unset) (.unset) (.unset) [(.int ((16 : Int32) + (Int32.ofNat ow)))])
      rw [show (16 : Int32) + Int32.ofNat ow = Int32.ofNat (16 + ow) from own_addn 16 ow]
      refine og (fun _ k => XS.istore X.here hx rfl (hb hby at_164) rfl (l' := #[.val (.int a), .val (.int b), .val (.long v), .second, .val (.int d), .val (.int k0), .val (.int k1), .val (.int o), .val (.int x8), .val (.int c0), .val (.int c1), .val (.ref a11), .val (.ref a12), .val v13, .val (.ref a14), .val (.ref ms), .val (.int (Int32.ofNat ow)), .val (.int (Int32.ofNat (16 + ow))), .unset, .unset, .unset, .unset, .unset, .unset, .unset, .unset, .unset, .unset, .unset]) rfl k) ?_
      refine og (fun _ k => XS.iload X.here hx rfl (hb hby at_166) rfl k) ?_
      refine og (fun _ k => XS.bipush X.here hx rfl (hb hby at_168) k) ?_
      refine og (fun _ k => XS.iadd X.here hx rfl (hb hby at_170) rfl k) ?_
      show OGo p e below _ T (own_fA m a b v d k0 k1 o x8 c0 c1 a11 a12 v13 a14 ms 171 (.val (.int (Int32.ofNat ow))) (.val (.int (Int32.ofNat (16 + ow)))) (.unset) (.unset) (.unset) (.unset) (.unset) (.unset) (.unset) (.unset) (.unset) (.unset) (.unset) [(.int ((Int32.ofNat (16 + ow)) + (10 : Int32)))])
      rw [show Int32.ofNat (16 + ow) + (10 : Int32) = Int32.ofNat (16 + ow + 10) from own_addn _ 10]
      refine og (fun _ k => XS.istore X.here hx rfl (hb hby at_171) rfl (l' := #[.val (.int a), .val (.int b), .val (.long v), .second, .val (.int d), .val (.int k0), .val (.int k1), .val (.int o), .val (.int x8), .val (.int c0), .val (.int c1), .val (.ref a11), .val (.ref a12), .val v13, .val (.ref a14), .val (.ref ms), .val (.int (Int32.ofNat ow)), .val (.int (Int32.ofNat (16 + ow))), .val (.int (Int32.ofNat (16 + ow + 10))), .unset, .unset, .unset, .unset, .unset, .unset, .unset, .unset, .unset, .unset]) rfl k) ?_
      refine og (fun _ k => XS.lloadN X.here hx rfl (hb hby at_173) rfl k) ?_
      obtain ⟨v347, T347, L347, X347, hQ347, st347⟩ := scall X hx hZ1 hown1 (own_g hw 226 rfl) (own_g hw 227 rfl) (own_g hw 228 rfl) (own_g hw 229 rfl) (by decide) (W := 0) (rm_dgJ l Z a0 hw [] v n h hm) eT (by decide) (by decide) (by decide) (by decide) (g := (own_fA m a b v d k0 k1 o x8 c0 c1 a11 a12 v13 a14 ms 174 (.val (.int (Int32.ofNat ow))) (.val (.int (Int32.ofNat (16 + ow)))) (.val (.int (Int32.ofNat (16 + ow + 10)))) (.unset) (.unset) (.unset) (.unset) (.unset) (.unset) (.unset) (.unset) (.unset) (.unset) [(.long v)])) rfl (by rw [hml]; rfl) (argsL := [(.long v)]) (rest := []) opd_19 rfl rfl rfl (by show 2 * 0 + _ ≤ _; exact Nat.le_of_eq rfl) (hb hby at_174)
      obtain ⟨rfl, rfl, e347⟩ := hQ347
      rw [List.append_nil] at X347
      refine og st347 ?_
      refine og (fun _ k => XS.istore X347.here hx rfl (hb hby at_177) rfl (l' := #[.val (.int a), .val (.int b), .val (.long v), .second, .val (.int d), .val (.int k0), .val (.int k1), .val (.int o), .val (.int x8), .val (.int c0), .val (.int c1), .val (.ref a11), .val (.ref a12), .val v13, .val (.ref a14), .val (.ref ms), .val (.int (Int32.ofNat ow)), .val (.int (Int32.ofNat (16 + ow))), .val (.int (Int32.ofNat (16 + ow + 10))), .val (.int (Int32.ofNat (own_wl n))), .unset, .unset, .unset, .unset, .unset, .unset, .unset, .unset, .unset]) rfl k) ?_
      refine og (fun _ k => XS.iload X347.here hx rfl (hb hby at_179) rfl k) ?_
      refine og (fun _ k => XS.lloadN X347.here hx rfl (hb hby at_181) rfl k) ?_
      refine og (fun _ k => XS.lconst X347.here hx rfl (hb hby at_182) k) ?_
      refine og (fun _ k => XS.lcmp X347.here hx rfl (hb hby at_183) rfl k) ?_
      have K192 : ∀ (sv : Int32) (hsv : sv = Int32.ofNat (own_sg v)) (T : State) (locs : List Loc), Stand p l e room_1 (s.setVm vm) m #[(.int a), (.int b), (.long v), (.int d)] below meth c T locs 36 1649 → Fr n0 locs → T.heap = h → OGo p e below (EndH Z own_EL s room_1 (own_Q n0)) T (own_fA m a b v d k0 k1 o x8 c0 c1 a11 a12 v13 a14 ms 192 (.val (.int (Int32.ofNat ow))) (.val (.int (Int32.ofNat (16 + ow)))) (.val (.int (Int32.ofNat (16 + ow + 10)))) (.val (.int (Int32.ofNat (own_wl n)))) (.unset) (.unset) (.unset) (.unset) (.unset) (.unset) (.unset) (.unset) (.unset) [(.int sv), (.int (Int32.ofNat (own_wl n)))]) := by
        intro sv hsv T locs X N eT
        subst hsv
        show OGo p e below _ T (own_fA m a b v d k0 k1 o x8 c0 c1 a11 a12 v13 a14 ms 192 (.val (.int (Int32.ofNat ow))) (.val (.int (Int32.ofNat (16 + ow)))) (.val (.int (Int32.ofNat (16 + ow + 10)))) (.val (.int (Int32.ofNat (own_wl n)))) (.unset) (.unset) (.unset) (.unset) (.unset) (.unset) (.unset) (.unset) (.unset) [(.int (Int32.ofNat (own_sg v))), (.int (Int32.ofNat (own_wl n)))])
        refine og (fun _ k => XS.iadd X.here hx rfl (hb hby at_192) rfl k) ?_
        show OGo p e below _ T (own_fA m a b v d k0 k1 o x8 c0 c1 a11 a12 v13 a14 ms 193 (.val (.int (Int32.ofNat ow))) (.val (.int (Int32.ofNat (16 + ow)))) (.val (.int (Int32.ofNat (16 + ow + 10)))) (.val (.int (Int32.ofNat (own_wl n)))) (.unset) (.unset) (.unset) (.unset) (.unset) (.unset) (.unset) (.unset) (.unset) [(.int ((Int32.ofNat (own_wl n)) + (Int32.ofNat (own_sg v))))])
        rw [own_addn]
        show OGo p e below _ T (own_fA m a b v d k0 k1 o x8 c0 c1 a11 a12 v13 a14 ms 193 (.val (.int (Int32.ofNat ow))) (.val (.int (Int32.ofNat (16 + ow)))) (.val (.int (Int32.ofNat (16 + ow + 10)))) (.val (.int (Int32.ofNat (own_wl n)))) (.unset) (.unset) (.unset) (.unset) (.unset) (.unset) (.unset) (.unset) (.unset) [(.int (Int32.ofNat (own_wl n + own_sg v)))])
        rw [← hmm]
        refine og (fun _ k => XS.istore X.here hx rfl (hb hby at_193) rfl (l' := #[.val (.int a), .val (.int b), .val (.long v), .second, .val (.int d), .val (.int k0), .val (.int k1), .val (.int o), .val (.int x8), .val (.int c0), .val (.int c1), .val (.ref a11), .val (.ref a12), .val v13, .val (.ref a14), .val (.ref ms), .val (.int (Int32.ofNat ow)), .val (.int (Int32.ofNat (16 + ow))), .val (.int (Int32.ofNat (16 + ow + 10))), .val (.int (Int32.ofNat (own_wl n))), .val (.int (Int32.ofNat (mm))), .unset, .unset, .unset, .unset, .unset, .unset, .unset, .unset]) rfl k) ?_
        refine og (fun _ k => XS.iload X.here hx rfl (hb hby at_195) rfl k) ?_
        refine og (fun _ k => XS.iload X.here hx rfl (hb hby at_197) rfl k) ?_
        refine og (fun _ k => XS.iadd X.here hx rfl (hb hby at_199) rfl k) ?_
        show OGo p e below _ T (own_fA m a b v d k0 k1 o x8 c0 c1 a11 a12 v13 a14 ms 200 (.val (.int (Int32.ofNat ow))) (.val (.int (Int32.ofNat (16 + ow)))) (.val (.int (Int32.ofNat (16 + ow + 10)))) (.val (.int (Int32.ofNat (own_wl n)))) (.val (.int (Int32.ofNat (mm)))) (.unset) (.unset) (.unset) (.unset) (.unset) (.unset) (.unset) (.unset) [(.int ((Int32.ofNat (16 + ow + 10)) + (Int32.ofNat (mm))))])
        rw [own_addn]
        refine og (fun _ k => XS.istore X.here hx rfl (hb hby at_200) rfl (l' := #[.val (.int a), .val (.int b), .val (.long v), .second, .val (.int d), .val (.int k0), .val (.int k1), .val (.int o), .val (.int x8), .val (.int c0), .val (.int c1), .val (.ref a11), .val (.ref a12), .val v13, .val (.ref a14), .val (.ref ms), .val (.int (Int32.ofNat ow)), .val (.int (Int32.ofNat (16 + ow))), .val (.int (Int32.ofNat (16 + ow + 10))), .val (.int (Int32.ofNat (own_wl n))), .val (.int (Int32.ofNat (mm))), .val (.int (Int32.ofNat (16 + ow + 10 + mm))), .unset, .unset, .unset, .unset, .unset, .unset, .unset]) rfl k) ?_
        refine og (fun _ k => XS.aload X.here hx rfl (hb hby at_202) rfl rfl k) ?_
        refine og (fun _ k => XS.ifnullNo X.here hx rfl (hb hby at_204) rfl k) ?_
        refine og (fun _ k => XS.aload X.here hx rfl (hb hby at_207) rfl rfl k) ?_
        obtain ⟨v348, T348, L348, X348, hQ348, st348⟩ := vcall X hx hZ1 hown1 (own_g hw 251 rfl) (own_g hw 103 rfl) (own_g hw 105 rfl) rfl (own_g hw 105 rfl) (own_g hw 104 rfl) (own_g hw 2 rfl) (own_g hw 106 rfl) (by decide) (W := 0) (rm_length l Z a0 hw [] ms rs kr us zc wf n0 h SS' O1 Is) eT (by decide) (by decide) (by decide) (by decide) (g := (own_fA m a b v d k0 k1 o x8 c0 c1 a11 a12 v13 a14 ms 209 (.val (.int (Int32.ofNat ow))) (.val (.int (Int32.ofNat (16 + ow)))) (.val (.int (Int32.ofNat (16 + ow + 10)))) (.val (.int (Int32.ofNat (own_wl n)))) (.val (.int (Int32.ofNat (mm)))) (.val (.int (Int32.ofNat (16 + ow + 10 + mm)))) (.unset) (.unset) (.unset) (.unset) (.unset) (.unset) (.unset) [(.ref ms)])) rfl (by rw [hml]; rfl) Is.1 (argsL := []) (rest := []) opd_11 rfl rfl rfl (by show 2 * 0 + _ ≤ _; exact Nat.le_of_eq rfl) (hb hby at_209)
        obtain ⟨rfl, rfl, e348⟩ := hQ348
        rw [List.append_nil] at X348
        refine og st348 ?_
        refine og (fun _ k => XS.iload X348.here hx rfl (hb hby at_212) rfl k) ?_
        refine og (fun _ k => XS.bipush X348.here hx rfl (hb hby at_214) k) ?_
        refine og (fun _ k => XS.iadd X348.here hx rfl (hb hby at_216) rfl k) ?_
        show OGo p e below _ T348 (own_fA m a b v d k0 k1 o x8 c0 c1 a11 a12 v13 a14 ms 217 (.val (.int (Int32.ofNat ow))) (.val (.int (Int32.ofNat (16 + ow)))) (.val (.int (Int32.ofNat (16 + ow + 10)))) (.val (.int (Int32.ofNat (own_wl n)))) (.val (.int (Int32.ofNat (mm)))) (.val (.int (Int32.ofNat (16 + ow + 10 + mm)))) (.unset) (.unset) (.unset) (.unset) (.unset) (.unset) (.unset) [(.int ((Int32.ofNat (16 + ow + 10 + mm)) + (16 : Int32))), (.int (Int32.ofNat us.length))])
        rw [show Int32.ofNat (16 + ow + 10 + mm) + (16 : Int32) = Int32.ofNat (16 + ow + 10 + mm + 16) from own_addn _ 16]
        show OGo p e below _ T348 (own_fA m a b v d k0 k1 o x8 c0 c1 a11 a12 v13 a14 ms 217 (.val (.int (Int32.ofNat ow))) (.val (.int (Int32.ofNat (16 + ow)))) (.val (.int (Int32.ofNat (16 + ow + 10)))) (.val (.int (Int32.ofNat (own_wl n)))) (.val (.int (Int32.ofNat (mm)))) (.val (.int (Int32.ofNat (16 + ow + 10 + mm)))) (.unset) (.unset) (.unset) (.unset) (.unset) (.unset) (.unset) [(.int (Int32.ofNat (16 + ow + 10 + mm + 16))), (.int (Int32.ofNat us.length))])
        refine og (fun _ k => XS.icmpYes X348.here hx rfl (pc0 := 217) (pc' := 222) rfl (hb hby at_217) rfl (teq (by rw [hl])).1 (by decide) (by decide) k) ?_
        refine og (fun _ k => XS.aload X348.here hx rfl (hb hby at_222) rfl rfl k) ?_
        refine og (fun _ k => XS.iconst X348.here hx rfl (hb hby at_224) k) ?_
        refine og (fun _ k => XS.bipush X348.here hx rfl (hb hby at_225) k) ?_
        have q := ATN 0 (b' := (108 : Int32)) (x := (108 : Int32)) X348 e348 (by omega) ((gA 0 (by decide)).trans rfl) (by decide) (g := (own_fA m a b v d k0 k1 o x8 c0 c1 a11 a12 v13 a14 ms 227 (.val (.int (Int32.ofNat ow))) (.val (.int (Int32.ofNat (16 + ow)))) (.val (.int (Int32.ofNat (16 + ow + 10)))) (.val (.int (Int32.ofNat (own_wl n)))) (.val (.int (Int32.ofNat (mm)))) (.val (.int (Int32.ofNat (16 + ow + 10 + mm)))) (.unset) (.unset) (.unset) (.unset) (.unset) (.unset) (.unset) [(.int (108 : Int32)), (.int (0 : Int32)), (.ref ms)])) rfl (own_fAs.trans hml.symm) rfl rfl (hb hby at_227)
        obtain ⟨T349, X349, e349, st349⟩ := q
        refine og st349 ?_
        refine og (fun _ k => XS.ifNo X349.here hx rfl (hb hby at_230) rfl ((if0 _ _).trans (feq (by decide : ¬ (1 : Int32) = 0)).1) k) ?_
        refine og (fun _ k => XS.aload X349.here hx rfl (hb hby at_233) rfl rfl k) ?_
        refine og (fun _ k => XS.iconst X349.here hx rfl (hb hby at_235) k) ?_
        refine og (fun _ k => XS.bipush X349.here hx rfl (hb hby at_236) k) ?_
        have q := ATN 1 (b' := (101 : Int32)) (x := (101 : Int32)) X349 e349 (by omega) ((gA 1 (by decide)).trans rfl) (by decide) (g := (own_fA m a b v d k0 k1 o x8 c0 c1 a11 a12 v13 a14 ms 238 (.val (.int (Int32.ofNat ow))) (.val (.int (Int32.ofNat (16 + ow)))) (.val (.int (Int32.ofNat (16 + ow + 10)))) (.val (.int (Int32.ofNat (own_wl n)))) (.val (.int (Int32.ofNat (mm)))) (.val (.int (Int32.ofNat (16 + ow + 10 + mm)))) (.unset) (.unset) (.unset) (.unset) (.unset) (.unset) (.unset) [(.int (101 : Int32)), (.int (1 : Int32)), (.ref ms)])) rfl (own_fAs.trans hml.symm) rfl rfl (hb hby at_238)
        obtain ⟨T350, X350, e350, st350⟩ := q
        refine og st350 ?_
        refine og (fun _ k => XS.ifNo X350.here hx rfl (hb hby at_241) rfl ((if0 _ _).trans (feq (by decide : ¬ (1 : Int32) = 0)).1) k) ?_
        refine og (fun _ k => XS.aload X350.here hx rfl (hb hby at_244) rfl rfl k) ?_
        refine og (fun _ k => XS.iconst X350.here hx rfl (hb hby at_246) k) ?_
        refine og (fun _ k => XS.bipush X350.here hx rfl (hb hby at_247) k) ?_
        have q := ATN 2 (b' := (97 : Int32)) (x := (97 : Int32)) X350 e350 (by omega) ((gA 2 (by decide)).trans rfl) (by decide) (g := (own_fA m a b v d k0 k1 o x8 c0 c1 a11 a12 v13 a14 ms 249 (.val (.int (Int32.ofNat ow))) (.val (.int (Int32.ofNat (16 + ow)))) (.val (.int (Int32.ofNat (16 + ow + 10)))) (.val (.int (Int32.ofNat (own_wl n)))) (.val (.int (Int32.ofNat (mm)))) (.val (.int (Int32.ofNat (16 + ow + 10 + mm)))) (.unset) (.unset) (.unset) (.unset) (.unset) (.unset) (.unset) [(.int (97 : Int32)), (.int (2 : Int32)), (.ref ms)])) rfl (own_fAs.trans hml.symm) rfl rfl (hb hby at_249)
        obtain ⟨T351, X351, e351, st351⟩ := q
        refine og st351 ?_
        refine og (fun _ k => XS.ifNo X351.here hx rfl (hb hby at_252) rfl ((if0 _ _).trans (feq (by decide : ¬ (1 : Int32) = 0)).1) k) ?_
        refine og (fun _ k => XS.aload X351.here hx rfl (hb hby at_255) rfl rfl k) ?_
        refine og (fun _ k => XS.iconst X351.here hx rfl (hb hby at_257) k) ?_
        refine og (fun _ k => XS.bipush X351.here hx rfl (hb hby at_258) k) ?_
        have q := ATN 3 (b' := (115 : Int32)) (x := (115 : Int32)) X351 e351 (by omega) ((gA 3 (by decide)).trans rfl) (by decide) (g := (own_fA m a b v d k0 k1 o x8 c0 c1 a11 a12 v13 a14 ms 260 (.val (.int (Int32.ofNat ow))) (.val (.int (Int32.ofNat (16 + ow)))) (.val (.int (Int32.ofNat (16 + ow + 10)))) (.val (.int (Int32.ofNat (own_wl n)))) (.val (.int (Int32.ofNat (mm)))) (.val (.int (Int32.ofNat (16 + ow + 10 + mm)))) (.unset) (.unset) (.unset) (.unset) (.unset) (.unset) (.unset) [(.int (115 : Int32)), (.int (3 : Int32)), (.ref ms)])) rfl (own_fAs.trans hml.symm) rfl rfl (hb hby at_260)
        obtain ⟨T352, X352, e352, st352⟩ := q
        refine og st352 ?_
        refine og (fun _ k => XS.ifNo X352.here hx rfl (hb hby at_263) rfl ((if0 _ _).trans (feq (by decide : ¬ (1 : Int32) = 0)).1) k) ?_
        refine og (fun _ k => XS.aload X352.here hx rfl (hb hby at_266) rfl rfl k) ?_
        refine og (fun _ k => XS.iconst X352.here hx rfl (hb hby at_268) k) ?_
        refine og (fun _ k => XS.bipush X352.here hx rfl (hb hby at_269) k) ?_
        have q := ATN 4 (b' := (101 : Int32)) (x := (101 : Int32)) X352 e352 (by omega) ((gA 4 (by decide)).trans rfl) (by decide) (g := (own_fA m a b v d k0 k1 o x8 c0 c1 a11 a12 v13 a14 ms 271 (.val (.int (Int32.ofNat ow))) (.val (.int (Int32.ofNat (16 + ow)))) (.val (.int (Int32.ofNat (16 + ow + 10)))) (.val (.int (Int32.ofNat (own_wl n)))) (.val (.int (Int32.ofNat (mm)))) (.val (.int (Int32.ofNat (16 + ow + 10 + mm)))) (.unset) (.unset) (.unset) (.unset) (.unset) (.unset) (.unset) [(.int (101 : Int32)), (.int (4 : Int32)), (.ref ms)])) rfl (own_fAs.trans hml.symm) rfl rfl (hb hby at_271)
        obtain ⟨T353, X353, e353, st353⟩ := q
        refine og st353 ?_
        refine og (fun _ k => XS.ifNo X353.here hx rfl (hb hby at_274) rfl ((if0 _ _).trans (feq (by decide : ¬ (1 : Int32) = 0)).1) k) ?_
        refine og (fun _ k => XS.aload X353.here hx rfl (hb hby at_277) rfl rfl k) ?_
        refine og (fun _ k => XS.iconst X353.here hx rfl (hb hby at_279) k) ?_
        refine og (fun _ k => XS.bipush X353.here hx rfl (hb hby at_280) k) ?_
        have q := ATN 5 (b' := (32 : Int32)) (x := (32 : Int32)) X353 e353 (by omega) ((gA 5 (by decide)).trans rfl) (by decide) (g := (own_fA m a b v d k0 k1 o x8 c0 c1 a11 a12 v13 a14 ms 282 (.val (.int (Int32.ofNat ow))) (.val (.int (Int32.ofNat (16 + ow)))) (.val (.int (Int32.ofNat (16 + ow + 10)))) (.val (.int (Int32.ofNat (own_wl n)))) (.val (.int (Int32.ofNat (mm)))) (.val (.int (Int32.ofNat (16 + ow + 10 + mm)))) (.unset) (.unset) (.unset) (.unset) (.unset) (.unset) (.unset) [(.int (32 : Int32)), (.int (5 : Int32)), (.ref ms)])) rfl (own_fAs.trans hml.symm) rfl rfl (hb hby at_282)
        obtain ⟨T354, X354, e354, st354⟩ := q
        refine og st354 ?_
        refine og (fun _ k => XS.ifNo X354.here hx rfl (hb hby at_285) rfl ((if0 _ _).trans (feq (by decide : ¬ (1 : Int32) = 0)).1) k) ?_
        refine og (fun _ k => XS.aload X354.here hx rfl (hb hby at_288) rfl rfl k) ?_
        refine og (fun _ k => XS.bipush X354.here hx rfl (hb hby at_290) k) ?_
        refine og (fun _ k => XS.iload X354.here hx rfl (hb hby at_292) rfl k) ?_
        have q := ATN 6 (b' := k0.toInt8.toInt32) (x := k0) X354 e354 (by omega) ((gA 6 (by decide)).trans rfl) (own_lo8 hk0) (g := (own_fA m a b v d k0 k1 o x8 c0 c1 a11 a12 v13 a14 ms 294 (.val (.int (Int32.ofNat ow))) (.val (.int (Int32.ofNat (16 + ow)))) (.val (.int (Int32.ofNat (16 + ow + 10)))) (.val (.int (Int32.ofNat (own_wl n)))) (.val (.int (Int32.ofNat (mm)))) (.val (.int (Int32.ofNat (16 + ow + 10 + mm)))) (.unset) (.unset) (.unset) (.unset) (.unset) (.unset) (.unset) [(.int k0), (.int (6 : Int32)), (.ref ms)])) rfl (own_fAs.trans hml.symm) rfl rfl (hb hby at_294)
        obtain ⟨T355, X355, e355, st355⟩ := q
        refine og st355 ?_
        refine og (fun _ k => XS.ifNo X355.here hx rfl (hb hby at_297) rfl ((if0 _ _).trans (feq (by decide : ¬ (1 : Int32) = 0)).1) k) ?_
        refine og (fun _ k => XS.aload X355.here hx rfl (hb hby at_300) rfl rfl k) ?_
        refine og (fun _ k => XS.bipush X355.here hx rfl (hb hby at_302) k) ?_
        refine og (fun _ k => XS.iload X355.here hx rfl (hb hby at_304) rfl k) ?_
        have q := ATN 7 (b' := k1.toInt8.toInt32) (x := k1) X355 e355 (by omega) ((gA 7 (by decide)).trans rfl) (own_lo8 hk1) (g := (own_fA m a b v d k0 k1 o x8 c0 c1 a11 a12 v13 a14 ms 306 (.val (.int (Int32.ofNat ow))) (.val (.int (Int32.ofNat (16 + ow)))) (.val (.int (Int32.ofNat (16 + ow + 10)))) (.val (.int (Int32.ofNat (own_wl n)))) (.val (.int (Int32.ofNat (mm)))) (.val (.int (Int32.ofNat (16 + ow + 10 + mm)))) (.unset) (.unset) (.unset) (.unset) (.unset) (.unset) (.unset) [(.int k1), (.int (7 : Int32)), (.ref ms)])) rfl (own_fAs.trans hml.symm) rfl rfl (hb hby at_306)
        obtain ⟨T356, X356, e356, st356⟩ := q
        refine og st356 ?_
        refine og (fun _ k => XS.ifNo X356.here hx rfl (hb hby at_309) rfl ((if0 _ _).trans (feq (by decide : ¬ (1 : Int32) = 0)).1) k) ?_
        refine og (fun _ k => XS.aload X356.here hx rfl (hb hby at_312) rfl rfl k) ?_
        refine og (fun _ k => XS.bipush X356.here hx rfl (hb hby at_314) k) ?_
        refine og (fun _ k => XS.bipush X356.here hx rfl (hb hby at_316) k) ?_
        have q := ATN 8 (b' := (32 : Int32)) (x := (32 : Int32)) X356 e356 (by omega) ((gA 8 (by decide)).trans rfl) (by decide) (g := (own_fA m a b v d k0 k1 o x8 c0 c1 a11 a12 v13 a14 ms 318 (.val (.int (Int32.ofNat ow))) (.val (.int (Int32.ofNat (16 + ow)))) (.val (.int (Int32.ofNat (16 + ow + 10)))) (.val (.int (Int32.ofNat (own_wl n)))) (.val (.int (Int32.ofNat (mm)))) (.val (.int (Int32.ofNat (16 + ow + 10 + mm)))) (.unset) (.unset) (.unset) (.unset) (.unset) (.unset) (.unset) [(.int (32 : Int32)), (.int (8 : Int32)), (.ref ms)])) rfl (own_fAs.trans hml.symm) rfl rfl (hb hby at_318)
        obtain ⟨T357, X357, e357, st357⟩ := q
        refine og st357 ?_
        refine og (fun _ k => XS.ifNo X357.here hx rfl (hb hby at_321) rfl ((if0 _ _).trans (feq (by decide : ¬ (1 : Int32) = 0)).1) k) ?_
        refine og (fun _ k => XS.aload X357.here hx rfl (hb hby at_324) rfl rfl k) ?_
        refine og (fun _ k => XS.bipush X357.here hx rfl (hb hby at_326) k) ?_
        refine og (fun _ k => XS.bipush X357.here hx rfl (hb hby at_328) k) ?_
        have q := ATN 9 (b' := (40 : Int32)) (x := (40 : Int32)) X357 e357 (by omega) ((gA 9 (by decide)).trans rfl) (by decide) (g := (own_fA m a b v d k0 k1 o x8 c0 c1 a11 a12 v13 a14 ms 330 (.val (.int (Int32.ofNat ow))) (.val (.int (Int32.ofNat (16 + ow)))) (.val (.int (Int32.ofNat (16 + ow + 10)))) (.val (.int (Int32.ofNat (own_wl n)))) (.val (.int (Int32.ofNat (mm)))) (.val (.int (Int32.ofNat (16 + ow + 10 + mm)))) (.unset) (.unset) (.unset) (.unset) (.unset) (.unset) (.unset) [(.int (40 : Int32)), (.int (9 : Int32)), (.ref ms)])) rfl (own_fAs.trans hml.symm) rfl rfl (hb hby at_330)
        obtain ⟨T358, X358, e358, st358⟩ := q
        refine og st358 ?_
        refine og (fun _ k => XS.ifNo X358.here hx rfl (hb hby at_333) rfl ((if0 _ _).trans (feq (by decide : ¬ (1 : Int32) = 0)).1) k) ?_
        refine og (fun _ k => XS.aload X358.here hx rfl (hb hby at_336) rfl rfl k) ?_
        refine og (fun _ k => XS.bipush X358.here hx rfl (hb hby at_338) k) ?_
        refine og (fun _ k => XS.bipush X358.here hx rfl (hb hby at_340) k) ?_
        have q := ATN 10 (b' := (111 : Int32)) (x := (111 : Int32)) X358 e358 (by omega) ((gA 10 (by decide)).trans rfl) (by decide) (g := (own_fA m a b v d k0 k1 o x8 c0 c1 a11 a12 v13 a14 ms 342 (.val (.int (Int32.ofNat ow))) (.val (.int (Int32.ofNat (16 + ow)))) (.val (.int (Int32.ofNat (16 + ow + 10)))) (.val (.int (Int32.ofNat (own_wl n)))) (.val (.int (Int32.ofNat (mm)))) (.val (.int (Int32.ofNat (16 + ow + 10 + mm)))) (.unset) (.unset) (.unset) (.unset) (.unset) (.unset) (.unset) [(.int (111 : Int32)), (.int (10 : Int32)), (.ref ms)])) rfl (own_fAs.trans hml.symm) rfl rfl (hb hby at_342)
        obtain ⟨T359, X359, e359, st359⟩ := q
        refine og st359 ?_
        refine og (fun _ k => XS.ifNo X359.here hx rfl (hb hby at_345) rfl ((if0 _ _).trans (feq (by decide : ¬ (1 : Int32) = 0)).1) k) ?_
        refine og (fun _ k => XS.aload X359.here hx rfl (hb hby at_348) rfl rfl k) ?_
        refine og (fun _ k => XS.bipush X359.here hx rfl (hb hby at_350) k) ?_
        refine og (fun _ k => XS.bipush X359.here hx rfl (hb hby at_352) k) ?_
        have q := ATN 11 (b' := (119 : Int32)) (x := (119 : Int32)) X359 e359 (by omega) ((gA 11 (by decide)).trans rfl) (by decide) (g := (own_fA m a b v d k0 k1 o x8 c0 c1 a11 a12 v13 a14 ms 354 (.val (.int (Int32.ofNat ow))) (.val (.int (Int32.ofNat (16 + ow)))) (.val (.int (Int32.ofNat (16 + ow + 10)))) (.val (.int (Int32.ofNat (own_wl n)))) (.val (.int (Int32.ofNat (mm)))) (.val (.int (Int32.ofNat (16 + ow + 10 + mm)))) (.unset) (.unset) (.unset) (.unset) (.unset) (.unset) (.unset) [(.int (119 : Int32)), (.int (11 : Int32)), (.ref ms)])) rfl (own_fAs.trans hml.symm) rfl rfl (hb hby at_354)
        obtain ⟨T360, X360, e360, st360⟩ := q
        refine og st360 ?_
        refine og (fun _ k => XS.ifNo X360.here hx rfl (hb hby at_357) rfl ((if0 _ _).trans (feq (by decide : ¬ (1 : Int32) = 0)).1) k) ?_
        refine og (fun _ k => XS.aload X360.here hx rfl (hb hby at_360) rfl rfl k) ?_
        refine og (fun _ k => XS.bipush X360.here hx rfl (hb hby at_362) k) ?_
        refine og (fun _ k => XS.bipush X360.here hx rfl (hb hby at_364) k) ?_
        have q := ATN 12 (b' := (110 : Int32)) (x := (110 : Int32)) X360 e360 (by omega) ((gA 12 (by decide)).trans rfl) (by decide) (g := (own_fA m a b v d k0 k1 o x8 c0 c1 a11 a12 v13 a14 ms 366 (.val (.int (Int32.ofNat ow))) (.val (.int (Int32.ofNat (16 + ow)))) (.val (.int (Int32.ofNat (16 + ow + 10)))) (.val (.int (Int32.ofNat (own_wl n)))) (.val (.int (Int32.ofNat (mm)))) (.val (.int (Int32.ofNat (16 + ow + 10 + mm)))) (.unset) (.unset) (.unset) (.unset) (.unset) (.unset) (.unset) [(.int (110 : Int32)), (.int (12 : Int32)), (.ref ms)])) rfl (own_fAs.trans hml.symm) rfl rfl (hb hby at_366)
        obtain ⟨T361, X361, e361, st361⟩ := q
        refine og st361 ?_
        refine og (fun _ k => XS.ifNo X361.here hx rfl (hb hby at_369) rfl ((if0 _ _).trans (feq (by decide : ¬ (1 : Int32) = 0)).1) k) ?_
        refine og (fun _ k => XS.aload X361.here hx rfl (hb hby at_372) rfl rfl k) ?_
        refine og (fun _ k => XS.bipush X361.here hx rfl (hb hby at_374) k) ?_
        refine og (fun _ k => XS.bipush X361.here hx rfl (hb hby at_376) k) ?_
        have q := ATN 13 (b' := (101 : Int32)) (x := (101 : Int32)) X361 e361 (by omega) ((gA 13 (by decide)).trans rfl) (by decide) (g := (own_fA m a b v d k0 k1 o x8 c0 c1 a11 a12 v13 a14 ms 378 (.val (.int (Int32.ofNat ow))) (.val (.int (Int32.ofNat (16 + ow)))) (.val (.int (Int32.ofNat (16 + ow + 10)))) (.val (.int (Int32.ofNat (own_wl n)))) (.val (.int (Int32.ofNat (mm)))) (.val (.int (Int32.ofNat (16 + ow + 10 + mm)))) (.unset) (.unset) (.unset) (.unset) (.unset) (.unset) (.unset) [(.int (101 : Int32)), (.int (13 : Int32)), (.ref ms)])) rfl (own_fAs.trans hml.symm) rfl rfl (hb hby at_378)
        obtain ⟨T362, X362, e362, st362⟩ := q
        refine og st362 ?_
        refine og (fun _ k => XS.ifNo X362.here hx rfl (hb hby at_381) rfl ((if0 _ _).trans (feq (by decide : ¬ (1 : Int32) = 0)).1) k) ?_
        refine og (fun _ k => XS.aload X362.here hx rfl (hb hby at_384) rfl rfl k) ?_
        refine og (fun _ k => XS.bipush X362.here hx rfl (hb hby at_386) k) ?_
        refine og (fun _ k => XS.bipush X362.here hx rfl (hb hby at_388) k) ?_
        have q := ATN 14 (b' := (114 : Int32)) (x := (114 : Int32)) X362 e362 (by omega) ((gA 14 (by decide)).trans rfl) (by decide) (g := (own_fA m a b v d k0 k1 o x8 c0 c1 a11 a12 v13 a14 ms 390 (.val (.int (Int32.ofNat ow))) (.val (.int (Int32.ofNat (16 + ow)))) (.val (.int (Int32.ofNat (16 + ow + 10)))) (.val (.int (Int32.ofNat (own_wl n)))) (.val (.int (Int32.ofNat (mm)))) (.val (.int (Int32.ofNat (16 + ow + 10 + mm)))) (.unset) (.unset) (.unset) (.unset) (.unset) (.unset) (.unset) [(.int (114 : Int32)), (.int (14 : Int32)), (.ref ms)])) rfl (own_fAs.trans hml.symm) rfl rfl (hb hby at_390)
        obtain ⟨T363, X363, e363, st363⟩ := q
        refine og st363 ?_
        refine og (fun _ k => XS.ifNo X363.here hx rfl (hb hby at_393) rfl ((if0 _ _).trans (feq (by decide : ¬ (1 : Int32) = 0)).1) k) ?_
        refine og (fun _ k => XS.aload X363.here hx rfl (hb hby at_396) rfl rfl k) ?_
        refine og (fun _ k => XS.bipush X363.here hx rfl (hb hby at_398) k) ?_
        refine og (fun _ k => XS.bipush X363.here hx rfl (hb hby at_400) k) ?_
        have q := ATN 15 (b' := (32 : Int32)) (x := (32 : Int32)) X363 e363 (by omega) ((gA 15 (by decide)).trans rfl) (by decide) (g := (own_fA m a b v d k0 k1 o x8 c0 c1 a11 a12 v13 a14 ms 402 (.val (.int (Int32.ofNat ow))) (.val (.int (Int32.ofNat (16 + ow)))) (.val (.int (Int32.ofNat (16 + ow + 10)))) (.val (.int (Int32.ofNat (own_wl n)))) (.val (.int (Int32.ofNat (mm)))) (.val (.int (Int32.ofNat (16 + ow + 10 + mm)))) (.unset) (.unset) (.unset) (.unset) (.unset) (.unset) (.unset) [(.int (32 : Int32)), (.int (15 : Int32)), (.ref ms)])) rfl (own_fAs.trans hml.symm) rfl rfl (hb hby at_402)
        obtain ⟨T364, X364, e364, st364⟩ := q
        refine og st364 ?_
        refine og (fun _ k => XS.ifNo X364.here hx rfl (hb hby at_405) rfl ((if0 _ _).trans (feq (by decide : ¬ (1 : Int32) = 0)).1) k) ?_
        refine og (fun _ k => XS.iconst X364.here hx rfl (hb hby at_408) k) ?_
        refine og (fun _ k => XS.goto X364.here hx rfl (pc0 := 409) (pc' := 413) rfl (hb hby at_409) (by decide) (by decide) k) ?_
        refine og (fun _ k => XS.istore X364.here hx rfl (hb hby at_413) rfl (l' := #[.val (.int a), .val (.int b), .val (.long v), .second, .val (.int d), .val (.int k0), .val (.int k1), .val (.int o), .val (.int x8), .val (.int c0), .val (.int c1), .val (.ref a11), .val (.ref a12), .val v13, .val (.ref a14), .val (.ref ms), .val (.int (Int32.ofNat ow)), .val (.int (Int32.ofNat (16 + ow))), .val (.int (Int32.ofNat (16 + ow + 10))), .val (.int (Int32.ofNat (own_wl n))), .val (.int (Int32.ofNat (mm))), .val (.int (Int32.ofNat (16 + ow + 10 + mm))), .val (.int (1 : Int32)), .unset, .unset, .unset, .unset, .unset, .unset]) rfl k) ?_
        refine og (fun _ k => XS.iload X364.here hx rfl (hb hby at_415) rfl k) ?_
        have K485 : ∀  (T : State) (locs : List Loc), Stand p l e room_1 (s.setVm vm) m #[(.int a), (.int b), (.long v), (.int d)] below meth c T locs 36 1649 → Fr n0 locs → T.heap = h → OGo p e below (EndH Z own_EL s room_1 (own_Q n0)) T (own_fA m a b v d k0 k1 o x8 c0 c1 a11 a12 v13 a14 ms 485 (.val (.int (Int32.ofNat ow))) (.val (.int (Int32.ofNat (16 + ow)))) (.val (.int (Int32.ofNat (16 + ow + 10)))) (.val (.int (Int32.ofNat (own_wl n)))) (.val (.int (Int32.ofNat (mm)))) (.val (.int (Int32.ofNat (16 + ow + 10 + mm)))) (.val (.int (1 : Int32))) (.unset) (.unset) (.unset) (.unset) (.unset) (.unset) [(.int (1 : Int32))]) := by
          intro  T locs X N eT
          show OGo p e below _ T (own_fA m a b v d k0 k1 o x8 c0 c1 a11 a12 v13 a14 ms 485 (.val (.int (Int32.ofNat ow))) (.val (.int (Int32.ofNat (16 + ow)))) (.val (.int (Int32.ofNat (16 + ow + 10)))) (.val (.int (Int32.ofNat (own_wl n)))) (.val (.int (Int32.ofNat (mm)))) (.val (.int (Int32.ofNat (16 + ow + 10 + mm)))) (.val (.int (1 : Int32))) (.unset) (.unset) (.unset) (.unset) (.unset) (.unset) [(.int (1 : Int32))])
          refine og (fun _ k => XS.istore X.here hx rfl (hb hby at_485) rfl (l' := #[.val (.int a), .val (.int b), .val (.long v), .second, .val (.int d), .val (.int k0), .val (.int k1), .val (.int o), .val (.int x8), .val (.int c0), .val (.int c1), .val (.ref a11), .val (.ref a12), .val v13, .val (.ref a14), .val (.ref ms), .val (.int (Int32.ofNat ow)), .val (.int (Int32.ofNat (16 + ow))), .val (.int (Int32.ofNat (16 + ow + 10))), .val (.int (Int32.ofNat (own_wl n))), .val (.int (Int32.ofNat (mm))), .val (.int (Int32.ofNat (16 + ow + 10 + mm))), .val (.int (1 : Int32)), .val (.int (1 : Int32)), .unset, .unset, .unset, .unset, .unset]) rfl k) ?_
          refine og (fun _ k => XS.aload X.here hx rfl (hb hby at_487) rfl rfl k) ?_
          refine og (fun _ k => XS.iload X.here hx rfl (hb hby at_489) rfl k) ?_
          refine og (fun _ k => XS.bipush X.here hx rfl (hb hby at_491) k) ?_
          have q := ATN (16 + ow) (b' := (44 : Int32)) (x := (44 : Int32)) X eT (by omega) ((gC 0 (by decide)).trans rfl) (by decide) (g := (own_fA m a b v d k0 k1 o x8 c0 c1 a11 a12 v13 a14 ms 493 (.val (.int (Int32.ofNat ow))) (.val (.int (Int32.ofNat (16 + ow)))) (.val (.int (Int32.ofNat (16 + ow + 10)))) (.val (.int (Int32.ofNat (own_wl n)))) (.val (.int (Int32.ofNat (mm)))) (.val (.int (Int32.ofNat (16 + ow + 10 + mm)))) (.val (.int (1 : Int32))) (.val (.int (1 : Int32))) (.unset) (.unset) (.unset) (.unset) (.unset) [(.int (44 : Int32)), (.int (Int32.ofNat (16 + ow))), (.ref ms)])) rfl (own_fAs.trans hml.symm) rfl rfl (hb hby at_493)
          obtain ⟨T365, X365, e365, st365⟩ := q
          refine og st365 ?_
          refine og (fun _ k => XS.ifNo X365.here hx rfl (hb hby at_496) rfl ((if0 _ _).trans (feq (by decide : ¬ (1 : Int32) = 0)).1) k) ?_
          refine og (fun _ k => XS.aload X365.here hx rfl (hb hby at_499) rfl rfl k) ?_
          refine og (fun _ k => XS.iload X365.here hx rfl (hb hby at_501) rfl k) ?_
          refine og (fun _ k => XS.iconst X365.here hx rfl (hb hby at_503) k) ?_
          refine og (fun _ k => XS.iadd X365.here hx rfl (hb hby at_504) rfl k) ?_
          show OGo p e below _ T365 (own_fA m a b v d k0 k1 o x8 c0 c1 a11 a12 v13 a14 ms 505 (.val (.int (Int32.ofNat ow))) (.val (.int (Int32.ofNat (16 + ow)))) (.val (.int (Int32.ofNat (16 + ow + 10)))) (.val (.int (Int32.ofNat (own_wl n)))) (.val (.int (Int32.ofNat (mm)))) (.val (.int (Int32.ofNat (16 + ow + 10 + mm)))) (.val (.int (1 : Int32))) (.val (.int (1 : Int32))) (.unset) (.unset) (.unset) (.unset) (.unset) [(.int ((Int32.ofNat (16 + ow)) + (1 : Int32))), (.ref ms)])
          rw [show Int32.ofNat (16 + ow) + (1 : Int32) = Int32.ofNat (16 + ow + 1) from own_addn _ 1]
          refine og (fun _ k => XS.bipush X365.here hx rfl (hb hby at_505) k) ?_
          have q := ATN (16 + ow + 1) (b' := (32 : Int32)) (x := (32 : Int32)) X365 e365 (by omega) ((gC 1 (by decide)).trans rfl) (by decide) (g := (own_fA m a b v d k0 k1 o x8 c0 c1 a11 a12 v13 a14 ms 507 (.val (.int (Int32.ofNat ow))) (.val (.int (Int32.ofNat (16 + ow)))) (.val (.int (Int32.ofNat (16 + ow + 10)))) (.val (.int (Int32.ofNat (own_wl n)))) (.val (.int (Int32.ofNat (mm)))) (.val (.int (Int32.ofNat (16 + ow + 10 + mm)))) (.val (.int (1 : Int32))) (.val (.int (1 : Int32))) (.unset) (.unset) (.unset) (.unset) (.unset) [(.int (32 : Int32)), (.int (Int32.ofNat (16 + ow + 1))), (.ref ms)])) rfl (own_fAs.trans hml.symm) rfl rfl (hb hby at_507)
          obtain ⟨T366, X366, e366, st366⟩ := q
          refine og st366 ?_
          refine og (fun _ k => XS.ifNo X366.here hx rfl (hb hby at_510) rfl ((if0 _ _).trans (feq (by decide : ¬ (1 : Int32) = 0)).1) k) ?_
          refine og (fun _ k => XS.aload X366.here hx rfl (hb hby at_513) rfl rfl k) ?_
          refine og (fun _ k => XS.iload X366.here hx rfl (hb hby at_515) rfl k) ?_
          refine og (fun _ k => XS.iconst X366.here hx rfl (hb hby at_517) k) ?_
          refine og (fun _ k => XS.iadd X366.here hx rfl (hb hby at_518) rfl k) ?_
          show OGo p e below _ T366 (own_fA m a b v d k0 k1 o x8 c0 c1 a11 a12 v13 a14 ms 519 (.val (.int (Int32.ofNat ow))) (.val (.int (Int32.ofNat (16 + ow)))) (.val (.int (Int32.ofNat (16 + ow + 10)))) (.val (.int (Int32.ofNat (own_wl n)))) (.val (.int (Int32.ofNat (mm)))) (.val (.int (Int32.ofNat (16 + ow + 10 + mm)))) (.val (.int (1 : Int32))) (.val (.int (1 : Int32))) (.unset) (.unset) (.unset) (.unset) (.unset) [(.int ((Int32.ofNat (16 + ow)) + (2 : Int32))), (.ref ms)])
          rw [show Int32.ofNat (16 + ow) + (2 : Int32) = Int32.ofNat (16 + ow + 2) from own_addn _ 2]
          refine og (fun _ k => XS.bipush X366.here hx rfl (hb hby at_519) k) ?_
          have q := ATN (16 + ow + 2) (b' := (99 : Int32)) (x := (99 : Int32)) X366 e366 (by omega) ((gC 2 (by decide)).trans rfl) (by decide) (g := (own_fA m a b v d k0 k1 o x8 c0 c1 a11 a12 v13 a14 ms 521 (.val (.int (Int32.ofNat ow))) (.val (.int (Int32.ofNat (16 + ow)))) (.val (.int (Int32.ofNat (16 + ow + 10)))) (.val (.int (Int32.ofNat (own_wl n)))) (.val (.int (Int32.ofNat (mm)))) (.val (.int (Int32.ofNat (16 + ow + 10 + mm)))) (.val (.int (1 : Int32))) (.val (.int (1 : Int32))) (.unset) (.unset) (.unset) (.unset) (.unset) [(.int (99 : Int32)), (.int (Int32.ofNat (16 + ow + 2))), (.ref ms)])) rfl (own_fAs.trans hml.symm) rfl rfl (hb hby at_521)
          obtain ⟨T367, X367, e367, st367⟩ := q
          refine og st367 ?_
          refine og (fun _ k => XS.ifNo X367.here hx rfl (hb hby at_524) rfl ((if0 _ _).trans (feq (by decide : ¬ (1 : Int32) = 0)).1) k) ?_
          refine og (fun _ k => XS.aload X367.here hx rfl (hb hby at_527) rfl rfl k) ?_
          refine og (fun _ k => XS.iload X367.here hx rfl (hb hby at_529) rfl k) ?_
          refine og (fun _ k => XS.iconst X367.here hx rfl (hb hby at_531) k) ?_
          refine og (fun _ k => XS.iadd X367.here hx rfl (hb hby at_532) rfl k) ?_
          show OGo p e below _ T367 (own_fA m a b v d k0 k1 o x8 c0 c1 a11 a12 v13 a14 ms 533 (.val (.int (Int32.ofNat ow))) (.val (.int (Int32.ofNat (16 + ow)))) (.val (.int (Int32.ofNat (16 + ow + 10)))) (.val (.int (Int32.ofNat (own_wl n)))) (.val (.int (Int32.ofNat (mm)))) (.val (.int (Int32.ofNat (16 + ow + 10 + mm)))) (.val (.int (1 : Int32))) (.val (.int (1 : Int32))) (.unset) (.unset) (.unset) (.unset) (.unset) [(.int ((Int32.ofNat (16 + ow)) + (3 : Int32))), (.ref ms)])
          rw [show Int32.ofNat (16 + ow) + (3 : Int32) = Int32.ofNat (16 + ow + 3) from own_addn _ 3]
          refine og (fun _ k => XS.bipush X367.here hx rfl (hb hby at_533) k) ?_
          have q := ATN (16 + ow + 3) (b' := (111 : Int32)) (x := (111 : Int32)) X367 e367 (by omega) ((gC 3 (by decide)).trans rfl) (by decide) (g := (own_fA m a b v d k0 k1 o x8 c0 c1 a11 a12 v13 a14 ms 535 (.val (.int (Int32.ofNat ow))) (.val (.int (Int32.ofNat (16 + ow)))) (.val (.int (Int32.ofNat (16 + ow + 10)))) (.val (.int (Int32.ofNat (own_wl n)))) (.val (.int (Int32.ofNat (mm)))) (.val (.int (Int32.ofNat (16 + ow + 10 + mm)))) (.val (.int (1 : Int32))) (.val (.int (1 : Int32))) (.unset) (.unset) (.unset) (.unset) (.unset) [(.int (111 : Int32)), (.int (Int32.ofNat (16 + ow + 3))), (.ref ms)])) rfl (own_fAs.trans hml.symm) rfl rfl (hb hby at_535)
          obtain ⟨T368, X368, e368, st368⟩ := q
          refine og st368 ?_
          refine og (fun _ k => XS.ifNo X368.here hx rfl (hb hby at_538) rfl ((if0 _ _).trans (feq (by decide : ¬ (1 : Int32) = 0)).1) k) ?_
          refine og (fun _ k => XS.aload X368.here hx rfl (hb hby at_541) rfl rfl k) ?_
          refine og (fun _ k => XS.iload X368.here hx rfl (hb hby at_543) rfl k) ?_
          refine og (fun _ k => XS.iconst X368.here hx rfl (hb hby at_545) k) ?_
          refine og (fun _ k => XS.iadd X368.here hx rfl (hb hby at_546) rfl k) ?_
          show OGo p e below _ T368 (own_fA m a b v d k0 k1 o x8 c0 c1 a11 a12 v13 a14 ms 547 (.val (.int (Int32.ofNat ow))) (.val (.int (Int32.ofNat (16 + ow)))) (.val (.int (Int32.ofNat (16 + ow + 10)))) (.val (.int (Int32.ofNat (own_wl n)))) (.val (.int (Int32.ofNat (mm)))) (.val (.int (Int32.ofNat (16 + ow + 10 + mm)))) (.val (.int (1 : Int32))) (.val (.int (1 : Int32))) (.unset) (.unset) (.unset) (.unset) (.unset) [(.int ((Int32.ofNat (16 + ow)) + (4 : Int32))), (.ref ms)])
          rw [show Int32.ofNat (16 + ow) + (4 : Int32) = Int32.ofNat (16 + ow + 4) from own_addn _ 4]
          refine og (fun _ k => XS.bipush X368.here hx rfl (hb hby at_547) k) ?_
          have q := ATN (16 + ow + 4) (b' := (117 : Int32)) (x := (117 : Int32)) X368 e368 (by omega) ((gC 4 (by decide)).trans rfl) (by decide) (g := (own_fA m a b v d k0 k1 o x8 c0 c1 a11 a12 v13 a14 ms 549 (.val (.int (Int32.ofNat ow))) (.val (.int (Int32.ofNat (16 + ow)))) (.val (.int (Int32.ofNat (16 + ow + 10)))) (.val (.int (Int32.ofNat (own_wl n)))) (.val (.int (Int32.ofNat (mm)))) (.val (.int (Int32.ofNat (16 + ow + 10 + mm)))) (.val (.int (1 : Int32))) (.val (.int (1 : Int32))) (.unset) (.unset) (.unset) (.unset) (.unset) [(.int (117 : Int32)), (.int (Int32.ofNat (16 + ow + 4))), (.ref ms)])) rfl (own_fAs.trans hml.symm) rfl rfl (hb hby at_549)
          obtain ⟨T369, X369, e369, st369⟩ := q
          refine og st369 ?_
          refine og (fun _ k => XS.ifNo X369.here hx rfl (hb hby at_552) rfl ((if0 _ _).trans (feq (by decide : ¬ (1 : Int32) = 0)).1) k) ?_
          refine og (fun _ k => XS.aload X369.here hx rfl (hb hby at_555) rfl rfl k) ?_
          refine og (fun _ k => XS.iload X369.here hx rfl (hb hby at_557) rfl k) ?_
          refine og (fun _ k => XS.iconst X369.here hx rfl (hb hby at_559) k) ?_
          refine og (fun _ k => XS.iadd X369.here hx rfl (hb hby at_560) rfl k) ?_
          show OGo p e below _ T369 (own_fA m a b v d k0 k1 o x8 c0 c1 a11 a12 v13 a14 ms 561 (.val (.int (Int32.ofNat ow))) (.val (.int (Int32.ofNat (16 + ow)))) (.val (.int (Int32.ofNat (16 + ow + 10)))) (.val (.int (Int32.ofNat (own_wl n)))) (.val (.int (Int32.ofNat (mm)))) (.val (.int (Int32.ofNat (16 + ow + 10 + mm)))) (.val (.int (1 : Int32))) (.val (.int (1 : Int32))) (.unset) (.unset) (.unset) (.unset) (.unset) [(.int ((Int32.ofNat (16 + ow)) + (5 : Int32))), (.ref ms)])
          rw [show Int32.ofNat (16 + ow) + (5 : Int32) = Int32.ofNat (16 + ow + 5) from own_addn _ 5]
          refine og (fun _ k => XS.bipush X369.here hx rfl (hb hby at_561) k) ?_
          have q := ATN (16 + ow + 5) (b' := (110 : Int32)) (x := (110 : Int32)) X369 e369 (by omega) ((gC 5 (by decide)).trans rfl) (by decide) (g := (own_fA m a b v d k0 k1 o x8 c0 c1 a11 a12 v13 a14 ms 563 (.val (.int (Int32.ofNat ow))) (.val (.int (Int32.ofNat (16 + ow)))) (.val (.int (Int32.ofNat (16 + ow + 10)))) (.val (.int (Int32.ofNat (own_wl n)))) (.val (.int (Int32.ofNat (mm)))) (.val (.int (Int32.ofNat (16 + ow + 10 + mm)))) (.val (.int (1 : Int32))) (.val (.int (1 : Int32))) (.unset) (.unset) (.unset) (.unset) (.unset) [(.int (110 : Int32)), (.int (Int32.ofNat (16 + ow + 5))), (.ref ms)])) rfl (own_fAs.trans hml.symm) rfl rfl (hb hby at_563)
          obtain ⟨T370, X370, e370, st370⟩ := q
          refine og st370 ?_
          refine og (fun _ k => XS.ifNo X370.here hx rfl (hb hby at_566) rfl ((if0 _ _).trans (feq (by decide : ¬ (1 : Int32) = 0)).1) k) ?_
          refine og (fun _ k => XS.aload X370.here hx rfl (hb hby at_569) rfl rfl k) ?_
          refine og (fun _ k => XS.iload X370.here hx rfl (hb hby at_571) rfl k) ?_
          refine og (fun _ k => XS.bipush X370.here hx rfl (hb hby at_573) k) ?_
          refine og (fun _ k => XS.iadd X370.here hx rfl (hb hby at_575) rfl k) ?_
          show OGo p e below _ T370 (own_fA m a b v d k0 k1 o x8 c0 c1 a11 a12 v13 a14 ms 576 (.val (.int (Int32.ofNat ow))) (.val (.int (Int32.ofNat (16 + ow)))) (.val (.int (Int32.ofNat (16 + ow + 10)))) (.val (.int (Int32.ofNat (own_wl n)))) (.val (.int (Int32.ofNat (mm)))) (.val (.int (Int32.ofNat (16 + ow + 10 + mm)))) (.val (.int (1 : Int32))) (.val (.int (1 : Int32))) (.unset) (.unset) (.unset) (.unset) (.unset) [(.int ((Int32.ofNat (16 + ow)) + (6 : Int32))), (.ref ms)])
          rw [show Int32.ofNat (16 + ow) + (6 : Int32) = Int32.ofNat (16 + ow + 6) from own_addn _ 6]
          refine og (fun _ k => XS.bipush X370.here hx rfl (hb hby at_576) k) ?_
          have q := ATN (16 + ow + 6) (b' := (116 : Int32)) (x := (116 : Int32)) X370 e370 (by omega) ((gC 6 (by decide)).trans rfl) (by decide) (g := (own_fA m a b v d k0 k1 o x8 c0 c1 a11 a12 v13 a14 ms 578 (.val (.int (Int32.ofNat ow))) (.val (.int (Int32.ofNat (16 + ow)))) (.val (.int (Int32.ofNat (16 + ow + 10)))) (.val (.int (Int32.ofNat (own_wl n)))) (.val (.int (Int32.ofNat (mm)))) (.val (.int (Int32.ofNat (16 + ow + 10 + mm)))) (.val (.int (1 : Int32))) (.val (.int (1 : Int32))) (.unset) (.unset) (.unset) (.unset) (.unset) [(.int (116 : Int32)), (.int (Int32.ofNat (16 + ow + 6))), (.ref ms)])) rfl (own_fAs.trans hml.symm) rfl rfl (hb hby at_578)
          obtain ⟨T371, X371, e371, st371⟩ := q
          refine og st371 ?_
          refine og (fun _ k => XS.ifNo X371.here hx rfl (hb hby at_581) rfl ((if0 _ _).trans (feq (by decide : ¬ (1 : Int32) = 0)).1) k) ?_
          refine og (fun _ k => XS.aload X371.here hx rfl (hb hby at_584) rfl rfl k) ?_
          refine og (fun _ k => XS.iload X371.here hx rfl (hb hby at_586) rfl k) ?_
          refine og (fun _ k => XS.bipush X371.here hx rfl (hb hby at_588) k) ?_
          refine og (fun _ k => XS.iadd X371.here hx rfl (hb hby at_590) rfl k) ?_
          show OGo p e below _ T371 (own_fA m a b v d k0 k1 o x8 c0 c1 a11 a12 v13 a14 ms 591 (.val (.int (Int32.ofNat ow))) (.val (.int (Int32.ofNat (16 + ow)))) (.val (.int (Int32.ofNat (16 + ow + 10)))) (.val (.int (Int32.ofNat (own_wl n)))) (.val (.int (Int32.ofNat (mm)))) (.val (.int (Int32.ofNat (16 + ow + 10 + mm)))) (.val (.int (1 : Int32))) (.val (.int (1 : Int32))) (.unset) (.unset) (.unset) (.unset) (.unset) [(.int ((Int32.ofNat (16 + ow)) + (7 : Int32))), (.ref ms)])
          rw [show Int32.ofNat (16 + ow) + (7 : Int32) = Int32.ofNat (16 + ow + 7) from own_addn _ 7]
          refine og (fun _ k => XS.bipush X371.here hx rfl (hb hby at_591) k) ?_
          have q := ATN (16 + ow + 7) (b' := (101 : Int32)) (x := (101 : Int32)) X371 e371 (by omega) ((gC 7 (by decide)).trans rfl) (by decide) (g := (own_fA m a b v d k0 k1 o x8 c0 c1 a11 a12 v13 a14 ms 593 (.val (.int (Int32.ofNat ow))) (.val (.int (Int32.ofNat (16 + ow)))) (.val (.int (Int32.ofNat (16 + ow + 10)))) (.val (.int (Int32.ofNat (own_wl n)))) (.val (.int (Int32.ofNat (mm)))) (.val (.int (Int32.ofNat (16 + ow + 10 + mm)))) (.val (.int (1 : Int32))) (.val (.int (1 : Int32))) (.unset) (.unset) (.unset) (.unset) (.unset) [(.int (101 : Int32)), (.int (Int32.ofNat (16 + ow + 7))), (.ref ms)])) rfl (own_fAs.trans hml.symm) rfl rfl (hb hby at_593)
          obtain ⟨T372, X372, e372, st372⟩ := q
          refine og st372 ?_
          refine og (fun _ k => XS.ifNo X372.here hx rfl (hb hby at_596) rfl ((if0 _ _).trans (feq (by decide : ¬ (1 : Int32) = 0)).1) k) ?_
          refine og (fun _ k => XS.aload X372.here hx rfl (hb hby at_599) rfl rfl k) ?_
          refine og (fun _ k => XS.iload X372.here hx rfl (hb hby at_601) rfl k) ?_
          refine og (fun _ k => XS.bipush X372.here hx rfl (hb hby at_603) k) ?_
          refine og (fun _ k => XS.iadd X372.here hx rfl (hb hby at_605) rfl k) ?_
          show OGo p e below _ T372 (own_fA m a b v d k0 k1 o x8 c0 c1 a11 a12 v13 a14 ms 606 (.val (.int (Int32.ofNat ow))) (.val (.int (Int32.ofNat (16 + ow)))) (.val (.int (Int32.ofNat (16 + ow + 10)))) (.val (.int (Int32.ofNat (own_wl n)))) (.val (.int (Int32.ofNat (mm)))) (.val (.int (Int32.ofNat (16 + ow + 10 + mm)))) (.val (.int (1 : Int32))) (.val (.int (1 : Int32))) (.unset) (.unset) (.unset) (.unset) (.unset) [(.int ((Int32.ofNat (16 + ow)) + (8 : Int32))), (.ref ms)])
          rw [show Int32.ofNat (16 + ow) + (8 : Int32) = Int32.ofNat (16 + ow + 8) from own_addn _ 8]
          refine og (fun _ k => XS.bipush X372.here hx rfl (hb hby at_606) k) ?_
          have q := ATN (16 + ow + 8) (b' := (114 : Int32)) (x := (114 : Int32)) X372 e372 (by omega) ((gC 8 (by decide)).trans rfl) (by decide) (g := (own_fA m a b v d k0 k1 o x8 c0 c1 a11 a12 v13 a14 ms 608 (.val (.int (Int32.ofNat ow))) (.val (.int (Int32.ofNat (16 + ow)))) (.val (.int (Int32.ofNat (16 + ow + 10)))) (.val (.int (Int32.ofNat (own_wl n)))) (.val (.int (Int32.ofNat (mm)))) (.val (.int (Int32.ofNat (16 + ow + 10 + mm)))) (.val (.int (1 : Int32))) (.val (.int (1 : Int32))) (.unset) (.unset) (.unset) (.unset) (.unset) [(.int (114 : Int32)), (.int (Int32.ofNat (16 + ow + 8))), (.ref ms)])) rfl (own_fAs.trans hml.symm) rfl rfl (hb hby at_608)
          obtain ⟨T373, X373, e373, st373⟩ := q
          refine og st373 ?_
          refine og (fun _ k => XS.ifNo X373.here hx rfl (hb hby at_611) rfl ((if0 _ _).trans (feq (by decide : ¬ (1 : Int32) = 0)).1) k) ?_
          refine og (fun _ k => XS.aload X373.here hx rfl (hb hby at_614) rfl rfl k) ?_
          refine og (fun _ k => XS.iload X373.here hx rfl (hb hby at_616) rfl k) ?_
          refine og (fun _ k => XS.bipush X373.here hx rfl (hb hby at_618) k) ?_
          refine og (fun _ k => XS.iadd X373.here hx rfl (hb hby at_620) rfl k) ?_
          show OGo p e below _ T373 (own_fA m a b v d k0 k1 o x8 c0 c1 a11 a12 v13 a14 ms 621 (.val (.int (Int32.ofNat ow))) (.val (.int (Int32.ofNat (16 + ow)))) (.val (.int (Int32.ofNat (16 + ow + 10)))) (.val (.int (Int32.ofNat (own_wl n)))) (.val (.int (Int32.ofNat (mm)))) (.val (.int (Int32.ofNat (16 + ow + 10 + mm)))) (.val (.int (1 : Int32))) (.val (.int (1 : Int32))) (.unset) (.unset) (.unset) (.unset) (.unset) [(.int ((Int32.ofNat (16 + ow)) + (9 : Int32))), (.ref ms)])
          rw [show Int32.ofNat (16 + ow) + (9 : Int32) = Int32.ofNat (16 + ow + 9) from own_addn _ 9]
          refine og (fun _ k => XS.bipush X373.here hx rfl (hb hby at_621) k) ?_
          have q := ATN (16 + ow + 9) (b' := (32 : Int32)) (x := (32 : Int32)) X373 e373 (by omega) ((gC 9 (by decide)).trans rfl) (by decide) (g := (own_fA m a b v d k0 k1 o x8 c0 c1 a11 a12 v13 a14 ms 623 (.val (.int (Int32.ofNat ow))) (.val (.int (Int32.ofNat (16 + ow)))) (.val (.int (Int32.ofNat (16 + ow + 10)))) (.val (.int (Int32.ofNat (own_wl n)))) (.val (.int (Int32.ofNat (mm)))) (.val (.int (Int32.ofNat (16 + ow + 10 + mm)))) (.val (.int (1 : Int32))) (.val (.int (1 : Int32))) (.unset) (.unset) (.unset) (.unset) (.unset) [(.int (32 : Int32)), (.int (Int32.ofNat (16 + ow + 9))), (.ref ms)])) rfl (own_fAs.trans hml.symm) rfl rfl (hb hby at_623)
          obtain ⟨T374, X374, e374, st374⟩ := q
          refine og st374 ?_
          refine og (fun _ k => XS.ifNo X374.here hx rfl (hb hby at_626) rfl ((if0 _ _).trans (feq (by decide : ¬ (1 : Int32) = 0)).1) k) ?_
          refine og (fun _ k => XS.iconst X374.here hx rfl (hb hby at_629) k) ?_
          refine og (fun _ k => XS.goto X374.here hx rfl (pc0 := 630) (pc' := 634) rfl (hb hby at_630) (by decide) (by decide) k) ?_
          refine og (fun _ k => XS.istore X374.here hx rfl (hb hby at_634) rfl (l' := #[.val (.int a), .val (.int b), .val (.long v), .second, .val (.int d), .val (.int k0), .val (.int k1), .val (.int o), .val (.int x8), .val (.int c0), .val (.int c1), .val (.ref a11), .val (.ref a12), .val v13, .val (.ref a14), .val (.ref ms), .val (.int (Int32.ofNat ow)), .val (.int (Int32.ofNat (16 + ow))), .val (.int (Int32.ofNat (16 + ow + 10))), .val (.int (Int32.ofNat (own_wl n))), .val (.int (Int32.ofNat (mm))), .val (.int (Int32.ofNat (16 + ow + 10 + mm))), .val (.int (1 : Int32)), .val (.int (1 : Int32)), .val (.int (1 : Int32)), .unset, .unset, .unset, .unset]) rfl k) ?_
          refine og (fun _ k => XS.lloadN X374.here hx rfl (hb hby at_636) rfl k) ?_
          refine og (fun _ k => XS.lconst X374.here hx rfl (hb hby at_637) k) ?_
          refine og (fun _ k => XS.lcmp X374.here hx rfl (hb hby at_638) rfl k) ?_
          have K655 : ∀  (T : State) (locs : List Loc), Stand p l e room_1 (s.setVm vm) m #[(.int a), (.int b), (.long v), (.int d)] below meth c T locs 36 1649 → Fr n0 locs → T.heap = h → OGo p e below (EndH Z own_EL s room_1 (own_Q n0)) T (own_fA m a b v d k0 k1 o x8 c0 c1 a11 a12 v13 a14 ms 655 (.val (.int (Int32.ofNat ow))) (.val (.int (Int32.ofNat (16 + ow)))) (.val (.int (Int32.ofNat (16 + ow + 10)))) (.val (.int (Int32.ofNat (own_wl n)))) (.val (.int (Int32.ofNat (mm)))) (.val (.int (Int32.ofNat (16 + ow + 10 + mm)))) (.val (.int (1 : Int32))) (.val (.int (1 : Int32))) (.val (.int (1 : Int32))) (.unset) (.unset) (.unset) (.unset) [(.int (1 : Int32))]) := by
            intro  T locs X N eT
            show OGo p e below _ T (own_fA m a b v d k0 k1 o x8 c0 c1 a11 a12 v13 a14 ms 655 (.val (.int (Int32.ofNat ow))) (.val (.int (Int32.ofNat (16 + ow)))) (.val (.int (Int32.ofNat (16 + ow + 10)))) (.val (.int (Int32.ofNat (own_wl n)))) (.val (.int (Int32.ofNat (mm)))) (.val (.int (Int32.ofNat (16 + ow + 10 + mm)))) (.val (.int (1 : Int32))) (.val (.int (1 : Int32))) (.val (.int (1 : Int32))) (.unset) (.unset) (.unset) (.unset) [(.int (1 : Int32))])
            refine og (fun _ k => XS.istore X.here hx rfl (hb hby at_655) rfl (l' := #[.val (.int a), .val (.int b), .val (.long v), .second, .val (.int d), .val (.int k0), .val (.int k1), .val (.int o), .val (.int x8), .val (.int c0), .val (.int c1), .val (.ref a11), .val (.ref a12), .val v13, .val (.ref a14), .val (.ref ms), .val (.int (Int32.ofNat ow)), .val (.int (Int32.ofNat (16 + ow))), .val (.int (Int32.ofNat (16 + ow + 10))), .val (.int (Int32.ofNat (own_wl n))), .val (.int (Int32.ofNat (mm))), .val (.int (Int32.ofNat (16 + ow + 10 + mm))), .val (.int (1 : Int32)), .val (.int (1 : Int32)), .val (.int (1 : Int32)), .val (.int (1 : Int32)), .unset, .unset, .unset]) rfl k) ?_
            refine og (fun _ k => XS.iload X.here hx rfl (hb hby at_657) rfl k) ?_
            refine og (fun _ k => XS.iconst X.here hx rfl (hb hby at_659) k) ?_
            refine og (fun _ k => XS.isub X.here hx rfl (hb hby at_660) rfl k) ?_
            show OGo p e below _ T (own_fA m a b v d k0 k1 o x8 c0 c1 a11 a12 v13 a14 ms 661 (.val (.int (Int32.ofNat ow))) (.val (.int (Int32.ofNat (16 + ow)))) (.val (.int (Int32.ofNat (16 + ow + 10)))) (.val (.int (Int32.ofNat (own_wl n)))) (.val (.int (Int32.ofNat (mm)))) (.val (.int (Int32.ofNat (16 + ow + 10 + mm)))) (.val (.int (1 : Int32))) (.val (.int (1 : Int32))) (.val (.int (1 : Int32))) (.val (.int (1 : Int32))) (.unset) (.unset) (.unset) [(.int ((Int32.ofNat (16 + ow + 10 + mm)) - (1 : Int32)))])
            rw [own_sub1 (show 1 ≤ 16 + ow + 10 + mm by omega)]
            refine og (fun _ k => XS.istore X.here hx rfl (hb hby at_661) rfl (l' := #[.val (.int a), .val (.int b), .val (.long v), .second, .val (.int d), .val (.int k0), .val (.int k1), .val (.int o), .val (.int x8), .val (.int c0), .val (.int c1), .val (.ref a11), .val (.ref a12), .val v13, .val (.ref a14), .val (.ref ms), .val (.int (Int32.ofNat ow)), .val (.int (Int32.ofNat (16 + ow))), .val (.int (Int32.ofNat (16 + ow + 10))), .val (.int (Int32.ofNat (own_wl n))), .val (.int (Int32.ofNat (mm))), .val (.int (Int32.ofNat (16 + ow + 10 + mm))), .val (.int (1 : Int32)), .val (.int (1 : Int32)), .val (.int (1 : Int32)), .val (.int (1 : Int32)), .val (.int (Int32.ofNat (16 + ow + 10 + mm - 1))), .unset, .unset]) rfl k) ?_
            refine og (fun _ k => XS.aload X.here hx rfl (hb hby at_663) rfl rfl k) ?_
            refine og (fun _ k => XS.iload X.here hx rfl (hb hby at_665) rfl k) ?_
            refine og (fun _ k => XS.lloadN X.here hx rfl (hb hby at_667) rfl k) ?_
            refine og (fun _ k => XS.lconst X.here hx rfl (hb hby at_668) k) ?_
            refine og (fun _ k => XS.iconst X.here hx rfl (hb hby at_669) k) ?_
            refine og (fun _ k => XS.iload X.here hx rfl (hb hby at_670) rfl k) ?_
            have q := DIG 0 (1 : Int64) X eT own_p0 (by decide) (g := (own_fA m a b v d k0 k1 o x8 c0 c1 a11 a12 v13 a14 ms 672 (.val (.int (Int32.ofNat ow))) (.val (.int (Int32.ofNat (16 + ow)))) (.val (.int (Int32.ofNat (16 + ow + 10)))) (.val (.int (Int32.ofNat (own_wl n)))) (.val (.int (Int32.ofNat (mm)))) (.val (.int (Int32.ofNat (16 + ow + 10 + mm)))) (.val (.int (1 : Int32))) (.val (.int (1 : Int32))) (.val (.int (1 : Int32))) (.val (.int (1 : Int32))) (.val (.int (Int32.ofNat (16 + ow + 10 + mm - 1)))) (.unset) (.unset) [(.int (Int32.ofNat (own_wl n))), (.int (0 : Int32)), (.long (1 : Int64)), (.long v), (.int (Int32.ofNat (16 + ow + 10 + mm - 1))), (.ref ms)])) rfl (own_fAs.trans hml.symm) rfl rfl (hb hby at_672)
            obtain ⟨T375, X375, e375, st375⟩ := q
            refine og st375 ?_
            refine og (fun _ k => XS.ifNo X375.here hx rfl (hb hby at_675) rfl ((if0 _ _).trans (feq (by decide : ¬ (1 : Int32) = 0)).1) k) ?_
            refine og (fun _ k => XS.aload X375.here hx rfl (hb hby at_678) rfl rfl k) ?_
            refine og (fun _ k => XS.iload X375.here hx rfl (hb hby at_680) rfl k) ?_
            refine og (fun _ k => XS.lloadN X375.here hx rfl (hb hby at_682) rfl k) ?_
            refine og (fun _ k => Jvm.Stand.ldc2J X375 hx hown1 (mvT hZ1 (own_g hw 230 rfl)) rfl (hb hby at_683) k) ?_
            refine og (fun _ k => XS.iconst X375.here hx rfl (hb hby at_686) k) ?_
            refine og (fun _ k => XS.iload X375.here hx rfl (hb hby at_687) rfl k) ?_
            have q := DIG 1 (10 : Int64) X375 e375 own_p1 (by decide) (g := (own_fA m a b v d k0 k1 o x8 c0 c1 a11 a12 v13 a14 ms 689 (.val (.int (Int32.ofNat ow))) (.val (.int (Int32.ofNat (16 + ow)))) (.val (.int (Int32.ofNat (16 + ow + 10)))) (.val (.int (Int32.ofNat (own_wl n)))) (.val (.int (Int32.ofNat (mm)))) (.val (.int (Int32.ofNat (16 + ow + 10 + mm)))) (.val (.int (1 : Int32))) (.val (.int (1 : Int32))) (.val (.int (1 : Int32))) (.val (.int (1 : Int32))) (.val (.int (Int32.ofNat (16 + ow + 10 + mm - 1)))) (.unset) (.unset) [(.int (Int32.ofNat (own_wl n))), (.int (1 : Int32)), (.long (10 : Int64)), (.long v), (.int (Int32.ofNat (16 + ow + 10 + mm - 1))), (.ref ms)])) rfl (own_fAs.trans hml.symm) rfl rfl (hb hby at_689)
            obtain ⟨T376, X376, e376, st376⟩ := q
            refine og st376 ?_
            refine og (fun _ k => XS.ifNo X376.here hx rfl (hb hby at_692) rfl ((if0 _ _).trans (feq (by decide : ¬ (1 : Int32) = 0)).1) k) ?_
            refine og (fun _ k => XS.aload X376.here hx rfl (hb hby at_695) rfl rfl k) ?_
            refine og (fun _ k => XS.iload X376.here hx rfl (hb hby at_697) rfl k) ?_
            refine og (fun _ k => XS.lloadN X376.here hx rfl (hb hby at_699) rfl k) ?_
            refine og (fun _ k => Jvm.Stand.ldc2J X376 hx hown1 (mvT hZ1 (own_g hw 234 rfl)) rfl (hb hby at_700) k) ?_
            refine og (fun _ k => XS.iconst X376.here hx rfl (hb hby at_703) k) ?_
            refine og (fun _ k => XS.iload X376.here hx rfl (hb hby at_704) rfl k) ?_
            have q := DIG 2 (100 : Int64) X376 e376 own_p2 (by decide) (g := (own_fA m a b v d k0 k1 o x8 c0 c1 a11 a12 v13 a14 ms 706 (.val (.int (Int32.ofNat ow))) (.val (.int (Int32.ofNat (16 + ow)))) (.val (.int (Int32.ofNat (16 + ow + 10)))) (.val (.int (Int32.ofNat (own_wl n)))) (.val (.int (Int32.ofNat (mm)))) (.val (.int (Int32.ofNat (16 + ow + 10 + mm)))) (.val (.int (1 : Int32))) (.val (.int (1 : Int32))) (.val (.int (1 : Int32))) (.val (.int (1 : Int32))) (.val (.int (Int32.ofNat (16 + ow + 10 + mm - 1)))) (.unset) (.unset) [(.int (Int32.ofNat (own_wl n))), (.int (2 : Int32)), (.long (100 : Int64)), (.long v), (.int (Int32.ofNat (16 + ow + 10 + mm - 1))), (.ref ms)])) rfl (own_fAs.trans hml.symm) rfl rfl (hb hby at_706)
            obtain ⟨T377, X377, e377, st377⟩ := q
            refine og st377 ?_
            refine og (fun _ k => XS.ifNo X377.here hx rfl (hb hby at_709) rfl ((if0 _ _).trans (feq (by decide : ¬ (1 : Int32) = 0)).1) k) ?_
            refine og (fun _ k => XS.aload X377.here hx rfl (hb hby at_712) rfl rfl k) ?_
            refine og (fun _ k => XS.iload X377.here hx rfl (hb hby at_714) rfl k) ?_
            refine og (fun _ k => XS.lloadN X377.here hx rfl (hb hby at_716) rfl k) ?_
            refine og (fun _ k => Jvm.Stand.ldc2J X377 hx hown1 (mvT hZ1 (own_g hw 235 rfl)) rfl (hb hby at_717) k) ?_
            refine og (fun _ k => XS.iconst X377.here hx rfl (hb hby at_720) k) ?_
            refine og (fun _ k => XS.iload X377.here hx rfl (hb hby at_721) rfl k) ?_
            have q := DIG 3 (1000 : Int64) X377 e377 own_p3 (by decide) (g := (own_fA m a b v d k0 k1 o x8 c0 c1 a11 a12 v13 a14 ms 723 (.val (.int (Int32.ofNat ow))) (.val (.int (Int32.ofNat (16 + ow)))) (.val (.int (Int32.ofNat (16 + ow + 10)))) (.val (.int (Int32.ofNat (own_wl n)))) (.val (.int (Int32.ofNat (mm)))) (.val (.int (Int32.ofNat (16 + ow + 10 + mm)))) (.val (.int (1 : Int32))) (.val (.int (1 : Int32))) (.val (.int (1 : Int32))) (.val (.int (1 : Int32))) (.val (.int (Int32.ofNat (16 + ow + 10 + mm - 1)))) (.unset) (.unset) [(.int (Int32.ofNat (own_wl n))), (.int (3 : Int32)), (.long (1000 : Int64)), (.long v), (.int (Int32.ofNat (16 + ow + 10 + mm - 1))), (.ref ms)])) rfl (own_fAs.trans hml.symm) rfl rfl (hb hby at_723)
            obtain ⟨T378, X378, e378, st378⟩ := q
            refine og st378 ?_
            refine og (fun _ k => XS.ifNo X378.here hx rfl (hb hby at_726) rfl ((if0 _ _).trans (feq (by decide : ¬ (1 : Int32) = 0)).1) k) ?_
            refine og (fun _ k => XS.aload X378.here hx rfl (hb hby at_729) rfl rfl k) ?_
            refine og (fun _ k => XS.iload X378.here hx rfl (hb hby at_731) rfl k) ?_
            refine og (fun _ k => XS.lloadN X378.here hx rfl (hb hby at_733) rfl k) ?_
            refine og (fun _ k => Jvm.Stand.ldc2J X378 hx hown1 (mvT hZ1 (own_g hw 236 rfl)) rfl (hb hby at_734) k) ?_
            refine og (fun _ k => XS.iconst X378.here hx rfl (hb hby at_737) k) ?_
            refine og (fun _ k => XS.iload X378.here hx rfl (hb hby at_738) rfl k) ?_
            have q := DIG 4 (10000 : Int64) X378 e378 own_p4 (by decide) (g := (own_fA m a b v d k0 k1 o x8 c0 c1 a11 a12 v13 a14 ms 740 (.val (.int (Int32.ofNat ow))) (.val (.int (Int32.ofNat (16 + ow)))) (.val (.int (Int32.ofNat (16 + ow + 10)))) (.val (.int (Int32.ofNat (own_wl n)))) (.val (.int (Int32.ofNat (mm)))) (.val (.int (Int32.ofNat (16 + ow + 10 + mm)))) (.val (.int (1 : Int32))) (.val (.int (1 : Int32))) (.val (.int (1 : Int32))) (.val (.int (1 : Int32))) (.val (.int (Int32.ofNat (16 + ow + 10 + mm - 1)))) (.unset) (.unset) [(.int (Int32.ofNat (own_wl n))), (.int (4 : Int32)), (.long (10000 : Int64)), (.long v), (.int (Int32.ofNat (16 + ow + 10 + mm - 1))), (.ref ms)])) rfl (own_fAs.trans hml.symm) rfl rfl (hb hby at_740)
            obtain ⟨T379, X379, e379, st379⟩ := q
            refine og st379 ?_
            refine og (fun _ k => XS.ifNo X379.here hx rfl (hb hby at_743) rfl ((if0 _ _).trans (feq (by decide : ¬ (1 : Int32) = 0)).1) k) ?_
            refine og (fun _ k => XS.aload X379.here hx rfl (hb hby at_746) rfl rfl k) ?_
            refine og (fun _ k => XS.iload X379.here hx rfl (hb hby at_748) rfl k) ?_
            refine og (fun _ k => XS.lloadN X379.here hx rfl (hb hby at_750) rfl k) ?_
            refine og (fun _ k => Jvm.Stand.ldc2J X379 hx hown1 (mvT hZ1 (own_g hw 237 rfl)) rfl (hb hby at_751) k) ?_
            refine og (fun _ k => XS.iconst X379.here hx rfl (hb hby at_754) k) ?_
            refine og (fun _ k => XS.iload X379.here hx rfl (hb hby at_755) rfl k) ?_
            have q := DIG 5 (100000 : Int64) X379 e379 own_p5 (by decide) (g := (own_fA m a b v d k0 k1 o x8 c0 c1 a11 a12 v13 a14 ms 757 (.val (.int (Int32.ofNat ow))) (.val (.int (Int32.ofNat (16 + ow)))) (.val (.int (Int32.ofNat (16 + ow + 10)))) (.val (.int (Int32.ofNat (own_wl n)))) (.val (.int (Int32.ofNat (mm)))) (.val (.int (Int32.ofNat (16 + ow + 10 + mm)))) (.val (.int (1 : Int32))) (.val (.int (1 : Int32))) (.val (.int (1 : Int32))) (.val (.int (1 : Int32))) (.val (.int (Int32.ofNat (16 + ow + 10 + mm - 1)))) (.unset) (.unset) [(.int (Int32.ofNat (own_wl n))), (.int (5 : Int32)), (.long (100000 : Int64)), (.long v), (.int (Int32.ofNat (16 + ow + 10 + mm - 1))), (.ref ms)])) rfl (own_fAs.trans hml.symm) rfl rfl (hb hby at_757)
            obtain ⟨T380, X380, e380, st380⟩ := q
            refine og st380 ?_
            refine og (fun _ k => XS.ifNo X380.here hx rfl (hb hby at_760) rfl ((if0 _ _).trans (feq (by decide : ¬ (1 : Int32) = 0)).1) k) ?_
            refine og (fun _ k => XS.aload X380.here hx rfl (hb hby at_763) rfl rfl k) ?_
            refine og (fun _ k => XS.iload X380.here hx rfl (hb hby at_765) rfl k) ?_
            refine og (fun _ k => XS.lloadN X380.here hx rfl (hb hby at_767) rfl k) ?_
            refine og (fun _ k => Jvm.Stand.ldc2J X380 hx hown1 (mvT hZ1 (own_g hw 238 rfl)) rfl (hb hby at_768) k) ?_
            refine og (fun _ k => XS.bipush X380.here hx rfl (hb hby at_771) k) ?_
            refine og (fun _ k => XS.iload X380.here hx rfl (hb hby at_773) rfl k) ?_
            have q := DIG 6 (1000000 : Int64) X380 e380 own_p6 (by decide) (g := (own_fA m a b v d k0 k1 o x8 c0 c1 a11 a12 v13 a14 ms 775 (.val (.int (Int32.ofNat ow))) (.val (.int (Int32.ofNat (16 + ow)))) (.val (.int (Int32.ofNat (16 + ow + 10)))) (.val (.int (Int32.ofNat (own_wl n)))) (.val (.int (Int32.ofNat (mm)))) (.val (.int (Int32.ofNat (16 + ow + 10 + mm)))) (.val (.int (1 : Int32))) (.val (.int (1 : Int32))) (.val (.int (1 : Int32))) (.val (.int (1 : Int32))) (.val (.int (Int32.ofNat (16 + ow + 10 + mm - 1)))) (.unset) (.unset) [(.int (Int32.ofNat (own_wl n))), (.int (6 : Int32)), (.long (1000000 : Int64)), (.long v), (.int (Int32.ofNat (16 + ow + 10 + mm - 1))), (.ref ms)])) rfl (own_fAs.trans hml.symm) rfl rfl (hb hby at_775)
            obtain ⟨T381, X381, e381, st381⟩ := q
            refine og st381 ?_
            refine og (fun _ k => XS.ifNo X381.here hx rfl (hb hby at_778) rfl ((if0 _ _).trans (feq (by decide : ¬ (1 : Int32) = 0)).1) k) ?_
            refine og (fun _ k => XS.aload X381.here hx rfl (hb hby at_781) rfl rfl k) ?_
            refine og (fun _ k => XS.iload X381.here hx rfl (hb hby at_783) rfl k) ?_
            refine og (fun _ k => XS.lloadN X381.here hx rfl (hb hby at_785) rfl k) ?_
            refine og (fun _ k => Jvm.Stand.ldc2J X381 hx hown1 (mvT hZ1 (own_g hw 239 rfl)) rfl (hb hby at_786) k) ?_
            refine og (fun _ k => XS.bipush X381.here hx rfl (hb hby at_789) k) ?_
            refine og (fun _ k => XS.iload X381.here hx rfl (hb hby at_791) rfl k) ?_
            have q := DIG 7 (10000000 : Int64) X381 e381 own_p7 (by decide) (g := (own_fA m a b v d k0 k1 o x8 c0 c1 a11 a12 v13 a14 ms 793 (.val (.int (Int32.ofNat ow))) (.val (.int (Int32.ofNat (16 + ow)))) (.val (.int (Int32.ofNat (16 + ow + 10)))) (.val (.int (Int32.ofNat (own_wl n)))) (.val (.int (Int32.ofNat (mm)))) (.val (.int (Int32.ofNat (16 + ow + 10 + mm)))) (.val (.int (1 : Int32))) (.val (.int (1 : Int32))) (.val (.int (1 : Int32))) (.val (.int (1 : Int32))) (.val (.int (Int32.ofNat (16 + ow + 10 + mm - 1)))) (.unset) (.unset) [(.int (Int32.ofNat (own_wl n))), (.int (7 : Int32)), (.long (10000000 : Int64)), (.long v), (.int (Int32.ofNat (16 + ow + 10 + mm - 1))), (.ref ms)])) rfl (own_fAs.trans hml.symm) rfl rfl (hb hby at_793)
            obtain ⟨T382, X382, e382, st382⟩ := q
            refine og st382 ?_
            refine og (fun _ k => XS.ifNo X382.here hx rfl (hb hby at_796) rfl ((if0 _ _).trans (feq (by decide : ¬ (1 : Int32) = 0)).1) k) ?_
            refine og (fun _ k => XS.aload X382.here hx rfl (hb hby at_799) rfl rfl k) ?_
            refine og (fun _ k => XS.iload X382.here hx rfl (hb hby at_801) rfl k) ?_
            refine og (fun _ k => XS.lloadN X382.here hx rfl (hb hby at_803) rfl k) ?_
            refine og (fun _ k => Jvm.Stand.ldc2J X382 hx hown1 (mvT hZ1 (own_g hw 240 rfl)) rfl (hb hby at_804) k) ?_
            refine og (fun _ k => XS.bipush X382.here hx rfl (hb hby at_807) k) ?_
            refine og (fun _ k => XS.iload X382.here hx rfl (hb hby at_809) rfl k) ?_
            have q := DIG 8 (100000000 : Int64) X382 e382 own_p8 (by decide) (g := (own_fA m a b v d k0 k1 o x8 c0 c1 a11 a12 v13 a14 ms 811 (.val (.int (Int32.ofNat ow))) (.val (.int (Int32.ofNat (16 + ow)))) (.val (.int (Int32.ofNat (16 + ow + 10)))) (.val (.int (Int32.ofNat (own_wl n)))) (.val (.int (Int32.ofNat (mm)))) (.val (.int (Int32.ofNat (16 + ow + 10 + mm)))) (.val (.int (1 : Int32))) (.val (.int (1 : Int32))) (.val (.int (1 : Int32))) (.val (.int (1 : Int32))) (.val (.int (Int32.ofNat (16 + ow + 10 + mm - 1)))) (.unset) (.unset) [(.int (Int32.ofNat (own_wl n))), (.int (8 : Int32)), (.long (100000000 : Int64)), (.long v), (.int (Int32.ofNat (16 + ow + 10 + mm - 1))), (.ref ms)])) rfl (own_fAs.trans hml.symm) rfl rfl (hb hby at_811)
            obtain ⟨T383, X383, e383, st383⟩ := q
            refine og st383 ?_
            refine og (fun _ k => XS.ifNo X383.here hx rfl (hb hby at_814) rfl ((if0 _ _).trans (feq (by decide : ¬ (1 : Int32) = 0)).1) k) ?_
            refine og (fun _ k => XS.aload X383.here hx rfl (hb hby at_817) rfl rfl k) ?_
            refine og (fun _ k => XS.iload X383.here hx rfl (hb hby at_819) rfl k) ?_
            refine og (fun _ k => XS.lloadN X383.here hx rfl (hb hby at_821) rfl k) ?_
            refine og (fun _ k => Jvm.Stand.ldc2J X383 hx hown1 (mvT hZ1 (own_g hw 241 rfl)) rfl (hb hby at_822) k) ?_
            refine og (fun _ k => XS.bipush X383.here hx rfl (hb hby at_825) k) ?_
            refine og (fun _ k => XS.iload X383.here hx rfl (hb hby at_827) rfl k) ?_
            have q := DIG 9 (1000000000 : Int64) X383 e383 own_p9 (by decide) (g := (own_fA m a b v d k0 k1 o x8 c0 c1 a11 a12 v13 a14 ms 829 (.val (.int (Int32.ofNat ow))) (.val (.int (Int32.ofNat (16 + ow)))) (.val (.int (Int32.ofNat (16 + ow + 10)))) (.val (.int (Int32.ofNat (own_wl n)))) (.val (.int (Int32.ofNat (mm)))) (.val (.int (Int32.ofNat (16 + ow + 10 + mm)))) (.val (.int (1 : Int32))) (.val (.int (1 : Int32))) (.val (.int (1 : Int32))) (.val (.int (1 : Int32))) (.val (.int (Int32.ofNat (16 + ow + 10 + mm - 1)))) (.unset) (.unset) [(.int (Int32.ofNat (own_wl n))), (.int (9 : Int32)), (.long (1000000000 : Int64)), (.long v), (.int (Int32.ofNat (16 + ow + 10 + mm - 1))), (.ref ms)])) rfl (own_fAs.trans hml.symm) rfl rfl (hb hby at_829)
            obtain ⟨T384, X384, e384, st384⟩ := q
            refine og st384 ?_
            refine og (fun _ k => XS.ifNo X384.here hx rfl (hb hby at_832) rfl ((if0 _ _).trans (feq (by decide : ¬ (1 : Int32) = 0)).1) k) ?_
            refine og (fun _ k => XS.aload X384.here hx rfl (hb hby at_835) rfl rfl k) ?_
            refine og (fun _ k => XS.iload X384.here hx rfl (hb hby at_837) rfl k) ?_
            refine og (fun _ k => XS.lloadN X384.here hx rfl (hb hby at_839) rfl k) ?_
            refine og (fun _ k => Jvm.Stand.ldc2J X384 hx hown1 (mvT hZ1 (own_g hw 242 rfl)) rfl (hb hby at_840) k) ?_
            refine og (fun _ k => XS.bipush X384.here hx rfl (hb hby at_843) k) ?_
            refine og (fun _ k => XS.iload X384.here hx rfl (hb hby at_845) rfl k) ?_
            have q := DIG 10 (10000000000 : Int64) X384 e384 own_p10 (by decide) (g := (own_fA m a b v d k0 k1 o x8 c0 c1 a11 a12 v13 a14 ms 847 (.val (.int (Int32.ofNat ow))) (.val (.int (Int32.ofNat (16 + ow)))) (.val (.int (Int32.ofNat (16 + ow + 10)))) (.val (.int (Int32.ofNat (own_wl n)))) (.val (.int (Int32.ofNat (mm)))) (.val (.int (Int32.ofNat (16 + ow + 10 + mm)))) (.val (.int (1 : Int32))) (.val (.int (1 : Int32))) (.val (.int (1 : Int32))) (.val (.int (1 : Int32))) (.val (.int (Int32.ofNat (16 + ow + 10 + mm - 1)))) (.unset) (.unset) [(.int (Int32.ofNat (own_wl n))), (.int (10 : Int32)), (.long (10000000000 : Int64)), (.long v), (.int (Int32.ofNat (16 + ow + 10 + mm - 1))), (.ref ms)])) rfl (own_fAs.trans hml.symm) rfl rfl (hb hby at_847)
            obtain ⟨T385, X385, e385, st385⟩ := q
            refine og st385 ?_
            refine og (fun _ k => XS.ifNo X385.here hx rfl (hb hby at_850) rfl ((if0 _ _).trans (feq (by decide : ¬ (1 : Int32) = 0)).1) k) ?_
            refine og (fun _ k => XS.aload X385.here hx rfl (hb hby at_853) rfl rfl k) ?_
            refine og (fun _ k => XS.iload X385.here hx rfl (hb hby at_855) rfl k) ?_
            refine og (fun _ k => XS.lloadN X385.here hx rfl (hb hby at_857) rfl k) ?_
            refine og (fun _ k => Jvm.Stand.ldc2J X385 hx hown1 (mvT hZ1 (own_g hw 243 rfl)) rfl (hb hby at_858) k) ?_
            refine og (fun _ k => XS.bipush X385.here hx rfl (hb hby at_861) k) ?_
            refine og (fun _ k => XS.iload X385.here hx rfl (hb hby at_863) rfl k) ?_
            have q := DIG 11 (100000000000 : Int64) X385 e385 own_p11 (by decide) (g := (own_fA m a b v d k0 k1 o x8 c0 c1 a11 a12 v13 a14 ms 865 (.val (.int (Int32.ofNat ow))) (.val (.int (Int32.ofNat (16 + ow)))) (.val (.int (Int32.ofNat (16 + ow + 10)))) (.val (.int (Int32.ofNat (own_wl n)))) (.val (.int (Int32.ofNat (mm)))) (.val (.int (Int32.ofNat (16 + ow + 10 + mm)))) (.val (.int (1 : Int32))) (.val (.int (1 : Int32))) (.val (.int (1 : Int32))) (.val (.int (1 : Int32))) (.val (.int (Int32.ofNat (16 + ow + 10 + mm - 1)))) (.unset) (.unset) [(.int (Int32.ofNat (own_wl n))), (.int (11 : Int32)), (.long (100000000000 : Int64)), (.long v), (.int (Int32.ofNat (16 + ow + 10 + mm - 1))), (.ref ms)])) rfl (own_fAs.trans hml.symm) rfl rfl (hb hby at_865)
            obtain ⟨T386, X386, e386, st386⟩ := q
            refine og st386 ?_
            refine og (fun _ k => XS.ifNo X386.here hx rfl (hb hby at_868) rfl ((if0 _ _).trans (feq (by decide : ¬ (1 : Int32) = 0)).1) k) ?_
            refine og (fun _ k => XS.aload X386.here hx rfl (hb hby at_871) rfl rfl k) ?_
            refine og (fun _ k => XS.iload X386.here hx rfl (hb hby at_873) rfl k) ?_
            refine og (fun _ k => XS.lloadN X386.here hx rfl (hb hby at_875) rfl k) ?_
            refine og (fun _ k => Jvm.Stand.ldc2J X386 hx hown1 (mvT hZ1 (own_g hw 244 rfl)) rfl (hb hby at_876) k) ?_
            refine og (fun _ k => XS.bipush X386.here hx rfl (hb hby at_879) k) ?_
            refine og (fun _ k => XS.iload X386.here hx rfl (hb hby at_881) rfl k) ?_
            have q := DIG 12 (1000000000000 : Int64) X386 e386 own_p12 (by decide) (g := (own_fA m a b v d k0 k1 o x8 c0 c1 a11 a12 v13 a14 ms 883 (.val (.int (Int32.ofNat ow))) (.val (.int (Int32.ofNat (16 + ow)))) (.val (.int (Int32.ofNat (16 + ow + 10)))) (.val (.int (Int32.ofNat (own_wl n)))) (.val (.int (Int32.ofNat (mm)))) (.val (.int (Int32.ofNat (16 + ow + 10 + mm)))) (.val (.int (1 : Int32))) (.val (.int (1 : Int32))) (.val (.int (1 : Int32))) (.val (.int (1 : Int32))) (.val (.int (Int32.ofNat (16 + ow + 10 + mm - 1)))) (.unset) (.unset) [(.int (Int32.ofNat (own_wl n))), (.int (12 : Int32)), (.long (1000000000000 : Int64)), (.long v), (.int (Int32.ofNat (16 + ow + 10 + mm - 1))), (.ref ms)])) rfl (own_fAs.trans hml.symm) rfl rfl (hb hby at_883)
            obtain ⟨T387, X387, e387, st387⟩ := q
            refine og st387 ?_
            refine og (fun _ k => XS.ifNo X387.here hx rfl (hb hby at_886) rfl ((if0 _ _).trans (feq (by decide : ¬ (1 : Int32) = 0)).1) k) ?_
            refine og (fun _ k => XS.aload X387.here hx rfl (hb hby at_889) rfl rfl k) ?_
            refine og (fun _ k => XS.iload X387.here hx rfl (hb hby at_891) rfl k) ?_
            refine og (fun _ k => XS.lloadN X387.here hx rfl (hb hby at_893) rfl k) ?_
            refine og (fun _ k => Jvm.Stand.ldc2J X387 hx hown1 (mvT hZ1 (own_g hw 245 rfl)) rfl (hb hby at_894) k) ?_
            refine og (fun _ k => XS.bipush X387.here hx rfl (hb hby at_897) k) ?_
            refine og (fun _ k => XS.iload X387.here hx rfl (hb hby at_899) rfl k) ?_
            have q := DIG 13 (10000000000000 : Int64) X387 e387 own_p13 (by decide) (g := (own_fA m a b v d k0 k1 o x8 c0 c1 a11 a12 v13 a14 ms 901 (.val (.int (Int32.ofNat ow))) (.val (.int (Int32.ofNat (16 + ow)))) (.val (.int (Int32.ofNat (16 + ow + 10)))) (.val (.int (Int32.ofNat (own_wl n)))) (.val (.int (Int32.ofNat (mm)))) (.val (.int (Int32.ofNat (16 + ow + 10 + mm)))) (.val (.int (1 : Int32))) (.val (.int (1 : Int32))) (.val (.int (1 : Int32))) (.val (.int (1 : Int32))) (.val (.int (Int32.ofNat (16 + ow + 10 + mm - 1)))) (.unset) (.unset) [(.int (Int32.ofNat (own_wl n))), (.int (13 : Int32)), (.long (10000000000000 : Int64)), (.long v), (.int (Int32.ofNat (16 + ow + 10 + mm - 1))), (.ref ms)])) rfl (own_fAs.trans hml.symm) rfl rfl (hb hby at_901)
            obtain ⟨T388, X388, e388, st388⟩ := q
            refine og st388 ?_
            refine og (fun _ k => XS.ifNo X388.here hx rfl (hb hby at_904) rfl ((if0 _ _).trans (feq (by decide : ¬ (1 : Int32) = 0)).1) k) ?_
            refine og (fun _ k => XS.aload X388.here hx rfl (hb hby at_907) rfl rfl k) ?_
            refine og (fun _ k => XS.iload X388.here hx rfl (hb hby at_909) rfl k) ?_
            refine og (fun _ k => XS.lloadN X388.here hx rfl (hb hby at_911) rfl k) ?_
            refine og (fun _ k => Jvm.Stand.ldc2J X388 hx hown1 (mvT hZ1 (own_g hw 246 rfl)) rfl (hb hby at_912) k) ?_
            refine og (fun _ k => XS.bipush X388.here hx rfl (hb hby at_915) k) ?_
            refine og (fun _ k => XS.iload X388.here hx rfl (hb hby at_917) rfl k) ?_
            have q := DIG 14 (100000000000000 : Int64) X388 e388 own_p14 (by decide) (g := (own_fA m a b v d k0 k1 o x8 c0 c1 a11 a12 v13 a14 ms 919 (.val (.int (Int32.ofNat ow))) (.val (.int (Int32.ofNat (16 + ow)))) (.val (.int (Int32.ofNat (16 + ow + 10)))) (.val (.int (Int32.ofNat (own_wl n)))) (.val (.int (Int32.ofNat (mm)))) (.val (.int (Int32.ofNat (16 + ow + 10 + mm)))) (.val (.int (1 : Int32))) (.val (.int (1 : Int32))) (.val (.int (1 : Int32))) (.val (.int (1 : Int32))) (.val (.int (Int32.ofNat (16 + ow + 10 + mm - 1)))) (.unset) (.unset) [(.int (Int32.ofNat (own_wl n))), (.int (14 : Int32)), (.long (100000000000000 : Int64)), (.long v), (.int (Int32.ofNat (16 + ow + 10 + mm - 1))), (.ref ms)])) rfl (own_fAs.trans hml.symm) rfl rfl (hb hby at_919)
            obtain ⟨T389, X389, e389, st389⟩ := q
            refine og st389 ?_
            refine og (fun _ k => XS.ifNo X389.here hx rfl (hb hby at_922) rfl ((if0 _ _).trans (feq (by decide : ¬ (1 : Int32) = 0)).1) k) ?_
            refine og (fun _ k => XS.aload X389.here hx rfl (hb hby at_925) rfl rfl k) ?_
            refine og (fun _ k => XS.iload X389.here hx rfl (hb hby at_927) rfl k) ?_
            refine og (fun _ k => XS.lloadN X389.here hx rfl (hb hby at_929) rfl k) ?_
            refine og (fun _ k => Jvm.Stand.ldc2J X389 hx hown1 (mvT hZ1 (own_g hw 247 rfl)) rfl (hb hby at_930) k) ?_
            refine og (fun _ k => XS.bipush X389.here hx rfl (hb hby at_933) k) ?_
            refine og (fun _ k => XS.iload X389.here hx rfl (hb hby at_935) rfl k) ?_
            have q := DIG 15 (1000000000000000 : Int64) X389 e389 own_p15 (by decide) (g := (own_fA m a b v d k0 k1 o x8 c0 c1 a11 a12 v13 a14 ms 937 (.val (.int (Int32.ofNat ow))) (.val (.int (Int32.ofNat (16 + ow)))) (.val (.int (Int32.ofNat (16 + ow + 10)))) (.val (.int (Int32.ofNat (own_wl n)))) (.val (.int (Int32.ofNat (mm)))) (.val (.int (Int32.ofNat (16 + ow + 10 + mm)))) (.val (.int (1 : Int32))) (.val (.int (1 : Int32))) (.val (.int (1 : Int32))) (.val (.int (1 : Int32))) (.val (.int (Int32.ofNat (16 + ow + 10 + mm - 1)))) (.unset) (.unset) [(.int (Int32.ofNat (own_wl n))), (.int (15 : Int32)), (.long (1000000000000000 : Int64)), (.long v), (.int (Int32.ofNat (16 + ow + 10 + mm - 1))), (.ref ms)])) rfl (own_fAs.trans hml.symm) rfl rfl (hb hby at_937)
            obtain ⟨T390, X390, e390, st390⟩ := q
            refine og st390 ?_
            refine og (fun _ k => XS.ifNo X390.here hx rfl (hb hby at_940) rfl ((if0 _ _).trans (feq (by decide : ¬ (1 : Int32) = 0)).1) k) ?_
            refine og (fun _ k => XS.aload X390.here hx rfl (hb hby at_943) rfl rfl k) ?_
            refine og (fun _ k => XS.iload X390.here hx rfl (hb hby at_945) rfl k) ?_
            refine og (fun _ k => XS.lloadN X390.here hx rfl (hb hby at_947) rfl k) ?_
            refine og (fun _ k => Jvm.Stand.ldc2J X390 hx hown1 (mvT hZ1 (own_g hw 248 rfl)) rfl (hb hby at_948) k) ?_
            refine og (fun _ k => XS.bipush X390.here hx rfl (hb hby at_951) k) ?_
            refine og (fun _ k => XS.iload X390.here hx rfl (hb hby at_953) rfl k) ?_
            have q := DIG 16 (10000000000000000 : Int64) X390 e390 own_p16 (by decide) (g := (own_fA m a b v d k0 k1 o x8 c0 c1 a11 a12 v13 a14 ms 955 (.val (.int (Int32.ofNat ow))) (.val (.int (Int32.ofNat (16 + ow)))) (.val (.int (Int32.ofNat (16 + ow + 10)))) (.val (.int (Int32.ofNat (own_wl n)))) (.val (.int (Int32.ofNat (mm)))) (.val (.int (Int32.ofNat (16 + ow + 10 + mm)))) (.val (.int (1 : Int32))) (.val (.int (1 : Int32))) (.val (.int (1 : Int32))) (.val (.int (1 : Int32))) (.val (.int (Int32.ofNat (16 + ow + 10 + mm - 1)))) (.unset) (.unset) [(.int (Int32.ofNat (own_wl n))), (.int (16 : Int32)), (.long (10000000000000000 : Int64)), (.long v), (.int (Int32.ofNat (16 + ow + 10 + mm - 1))), (.ref ms)])) rfl (own_fAs.trans hml.symm) rfl rfl (hb hby at_955)
            obtain ⟨T391, X391, e391, st391⟩ := q
            refine og st391 ?_
            refine og (fun _ k => XS.ifNo X391.here hx rfl (hb hby at_958) rfl ((if0 _ _).trans (feq (by decide : ¬ (1 : Int32) = 0)).1) k) ?_
            refine og (fun _ k => XS.aload X391.here hx rfl (hb hby at_961) rfl rfl k) ?_
            refine og (fun _ k => XS.iload X391.here hx rfl (hb hby at_963) rfl k) ?_
            refine og (fun _ k => XS.lloadN X391.here hx rfl (hb hby at_965) rfl k) ?_
            refine og (fun _ k => Jvm.Stand.ldc2J X391 hx hown1 (mvT hZ1 (own_g hw 249 rfl)) rfl (hb hby at_966) k) ?_
            refine og (fun _ k => XS.bipush X391.here hx rfl (hb hby at_969) k) ?_
            refine og (fun _ k => XS.iload X391.here hx rfl (hb hby at_971) rfl k) ?_
            have q := DIG 17 (100000000000000000 : Int64) X391 e391 own_p17 (by decide) (g := (own_fA m a b v d k0 k1 o x8 c0 c1 a11 a12 v13 a14 ms 973 (.val (.int (Int32.ofNat ow))) (.val (.int (Int32.ofNat (16 + ow)))) (.val (.int (Int32.ofNat (16 + ow + 10)))) (.val (.int (Int32.ofNat (own_wl n)))) (.val (.int (Int32.ofNat (mm)))) (.val (.int (Int32.ofNat (16 + ow + 10 + mm)))) (.val (.int (1 : Int32))) (.val (.int (1 : Int32))) (.val (.int (1 : Int32))) (.val (.int (1 : Int32))) (.val (.int (Int32.ofNat (16 + ow + 10 + mm - 1)))) (.unset) (.unset) [(.int (Int32.ofNat (own_wl n))), (.int (17 : Int32)), (.long (100000000000000000 : Int64)), (.long v), (.int (Int32.ofNat (16 + ow + 10 + mm - 1))), (.ref ms)])) rfl (own_fAs.trans hml.symm) rfl rfl (hb hby at_973)
            obtain ⟨T392, X392, e392, st392⟩ := q
            refine og st392 ?_
            refine og (fun _ k => XS.ifNo X392.here hx rfl (hb hby at_976) rfl ((if0 _ _).trans (feq (by decide : ¬ (1 : Int32) = 0)).1) k) ?_
            refine og (fun _ k => XS.aload X392.here hx rfl (hb hby at_979) rfl rfl k) ?_
            refine og (fun _ k => XS.iload X392.here hx rfl (hb hby at_981) rfl k) ?_
            refine og (fun _ k => XS.lloadN X392.here hx rfl (hb hby at_983) rfl k) ?_
            refine og (fun _ k => Jvm.Stand.ldc2J X392 hx hown1 (mvT hZ1 (own_g hw 250 rfl)) rfl (hb hby at_984) k) ?_
            refine og (fun _ k => XS.bipush X392.here hx rfl (hb hby at_987) k) ?_
            refine og (fun _ k => XS.iload X392.here hx rfl (hb hby at_989) rfl k) ?_
            have q := DIG 18 (1000000000000000000 : Int64) X392 e392 own_p18 (by decide) (g := (own_fA m a b v d k0 k1 o x8 c0 c1 a11 a12 v13 a14 ms 991 (.val (.int (Int32.ofNat ow))) (.val (.int (Int32.ofNat (16 + ow)))) (.val (.int (Int32.ofNat (16 + ow + 10)))) (.val (.int (Int32.ofNat (own_wl n)))) (.val (.int (Int32.ofNat (mm)))) (.val (.int (Int32.ofNat (16 + ow + 10 + mm)))) (.val (.int (1 : Int32))) (.val (.int (1 : Int32))) (.val (.int (1 : Int32))) (.val (.int (1 : Int32))) (.val (.int (Int32.ofNat (16 + ow + 10 + mm - 1)))) (.unset) (.unset) [(.int (Int32.ofNat (own_wl n))), (.int (18 : Int32)), (.long (1000000000000000000 : Int64)), (.long v), (.int (Int32.ofNat (16 + ow + 10 + mm - 1))), (.ref ms)])) rfl (own_fAs.trans hml.symm) rfl rfl (hb hby at_991)
            obtain ⟨T393, X393, e393, st393⟩ := q
            refine og st393 ?_
            refine og (fun _ k => XS.ifNo X393.here hx rfl (hb hby at_994) rfl ((if0 _ _).trans (feq (by decide : ¬ (1 : Int32) = 0)).1) k) ?_
            refine og (fun _ k => XS.iconst X393.here hx rfl (hb hby at_997) k) ?_
            refine og (fun _ k => XS.goto X393.here hx rfl (pc0 := 998) (pc' := 1002) rfl (hb hby at_998) (by decide) (by decide) k) ?_
            refine og (fun _ k => XS.istore X393.here hx rfl (hb hby at_1002) rfl (l' := #[.val (.int a), .val (.int b), .val (.long v), .second, .val (.int d), .val (.int k0), .val (.int k1), .val (.int o), .val (.int x8), .val (.int c0), .val (.int c1), .val (.ref a11), .val (.ref a12), .val v13, .val (.ref a14), .val (.ref ms), .val (.int (Int32.ofNat ow)), .val (.int (Int32.ofNat (16 + ow))), .val (.int (Int32.ofNat (16 + ow + 10))), .val (.int (Int32.ofNat (own_wl n))), .val (.int (Int32.ofNat (mm))), .val (.int (Int32.ofNat (16 + ow + 10 + mm))), .val (.int (1 : Int32)), .val (.int (1 : Int32)), .val (.int (1 : Int32)), .val (.int (1 : Int32)), .val (.int (Int32.ofNat (16 + ow + 10 + mm - 1))), .val (.int (1 : Int32)), .unset]) rfl k) ?_
            refine og (fun _ k => XS.aload X393.here hx rfl (hb hby at_1004) rfl rfl k) ?_
            refine og (fun _ k => XS.iload X393.here hx rfl (hb hby at_1006) rfl k) ?_
            refine og (fun _ k => XS.bipush X393.here hx rfl (hb hby at_1008) k) ?_
            have q := ATN (16 + ow + 10 + mm) (b' := (44 : Int32)) (x := (44 : Int32)) X393 e393 (by omega) ((gB 0).trans rfl) (by decide) (g := (own_fA m a b v d k0 k1 o x8 c0 c1 a11 a12 v13 a14 ms 1010 (.val (.int (Int32.ofNat ow))) (.val (.int (Int32.ofNat (16 + ow)))) (.val (.int (Int32.ofNat (16 + ow + 10)))) (.val (.int (Int32.ofNat (own_wl n)))) (.val (.int (Int32.ofNat (mm)))) (.val (.int (Int32.ofNat (16 + ow + 10 + mm)))) (.val (.int (1 : Int32))) (.val (.int (1 : Int32))) (.val (.int (1 : Int32))) (.val (.int (1 : Int32))) (.val (.int (Int32.ofNat (16 + ow + 10 + mm - 1)))) (.val (.int (1 : Int32))) (.unset) [(.int (44 : Int32)), (.int (Int32.ofNat (16 + ow + 10 + mm))), (.ref ms)])) rfl (own_fAs.trans hml.symm) rfl rfl (hb hby at_1010)
            obtain ⟨T394, X394, e394, st394⟩ := q
            refine og st394 ?_
            refine og (fun _ k => XS.ifNo X394.here hx rfl (hb hby at_1013) rfl ((if0 _ _).trans (feq (by decide : ¬ (1 : Int32) = 0)).1) k) ?_
            refine og (fun _ k => XS.aload X394.here hx rfl (hb hby at_1016) rfl rfl k) ?_
            refine og (fun _ k => XS.iload X394.here hx rfl (hb hby at_1018) rfl k) ?_
            refine og (fun _ k => XS.iconst X394.here hx rfl (hb hby at_1020) k) ?_
            refine og (fun _ k => XS.iadd X394.here hx rfl (hb hby at_1021) rfl k) ?_
            show OGo p e below _ T394 (own_fA m a b v d k0 k1 o x8 c0 c1 a11 a12 v13 a14 ms 1022 (.val (.int (Int32.ofNat ow))) (.val (.int (Int32.ofNat (16 + ow)))) (.val (.int (Int32.ofNat (16 + ow + 10)))) (.val (.int (Int32.ofNat (own_wl n)))) (.val (.int (Int32.ofNat (mm)))) (.val (.int (Int32.ofNat (16 + ow + 10 + mm)))) (.val (.int (1 : Int32))) (.val (.int (1 : Int32))) (.val (.int (1 : Int32))) (.val (.int (1 : Int32))) (.val (.int (Int32.ofNat (16 + ow + 10 + mm - 1)))) (.val (.int (1 : Int32))) (.unset) [(.int ((Int32.ofNat (16 + ow + 10 + mm)) + (1 : Int32))), (.ref ms)])
            rw [show Int32.ofNat (16 + ow + 10 + mm) + (1 : Int32) = Int32.ofNat (16 + ow + 10 + mm + 1) from own_addn _ 1]
            refine og (fun _ k => XS.bipush X394.here hx rfl (hb hby at_1022) k) ?_
            have q := ATN (16 + ow + 10 + mm + 1) (b' := (32 : Int32)) (x := (32 : Int32)) X394 e394 (by omega) ((gB 1).trans rfl) (by decide) (g := (own_fA m a b v d k0 k1 o x8 c0 c1 a11 a12 v13 a14 ms 1024 (.val (.int (Int32.ofNat ow))) (.val (.int (Int32.ofNat (16 + ow)))) (.val (.int (Int32.ofNat (16 + ow + 10)))) (.val (.int (Int32.ofNat (own_wl n)))) (.val (.int (Int32.ofNat (mm)))) (.val (.int (Int32.ofNat (16 + ow + 10 + mm)))) (.val (.int (1 : Int32))) (.val (.int (1 : Int32))) (.val (.int (1 : Int32))) (.val (.int (1 : Int32))) (.val (.int (Int32.ofNat (16 + ow + 10 + mm - 1)))) (.val (.int (1 : Int32))) (.unset) [(.int (32 : Int32)), (.int (Int32.ofNat (16 + ow + 10 + mm + 1))), (.ref ms)])) rfl (own_fAs.trans hml.symm) rfl rfl (hb hby at_1024)
            obtain ⟨T395, X395, e395, st395⟩ := q
            refine og st395 ?_
            refine og (fun _ k => XS.ifNo X395.here hx rfl (hb hby at_1027) rfl ((if0 _ _).trans (feq (by decide : ¬ (1 : Int32) = 0)).1) k) ?_
            refine og (fun _ k => XS.aload X395.here hx rfl (hb hby at_1030) rfl rfl k) ?_
            refine og (fun _ k => XS.iload X395.here hx rfl (hb hby at_1032) rfl k) ?_
            refine og (fun _ k => XS.iconst X395.here hx rfl (hb hby at_1034) k) ?_
            refine og (fun _ k => XS.iadd X395.here hx rfl (hb hby at_1035) rfl k) ?_
            show OGo p e below _ T395 (own_fA m a b v d k0 k1 o x8 c0 c1 a11 a12 v13 a14 ms 1036 (.val (.int (Int32.ofNat ow))) (.val (.int (Int32.ofNat (16 + ow)))) (.val (.int (Int32.ofNat (16 + ow + 10)))) (.val (.int (Int32.ofNat (own_wl n)))) (.val (.int (Int32.ofNat (mm)))) (.val (.int (Int32.ofNat (16 + ow + 10 + mm)))) (.val (.int (1 : Int32))) (.val (.int (1 : Int32))) (.val (.int (1 : Int32))) (.val (.int (1 : Int32))) (.val (.int (Int32.ofNat (16 + ow + 10 + mm - 1)))) (.val (.int (1 : Int32))) (.unset) [(.int ((Int32.ofNat (16 + ow + 10 + mm)) + (2 : Int32))), (.ref ms)])
            rw [show Int32.ofNat (16 + ow + 10 + mm) + (2 : Int32) = Int32.ofNat (16 + ow + 10 + mm + 2) from own_addn _ 2]
            refine og (fun _ k => XS.bipush X395.here hx rfl (hb hby at_1036) k) ?_
            have q := ATN (16 + ow + 10 + mm + 2) (b' := (99 : Int32)) (x := (99 : Int32)) X395 e395 (by omega) ((gB 2).trans rfl) (by decide) (g := (own_fA m a b v d k0 k1 o x8 c0 c1 a11 a12 v13 a14 ms 1038 (.val (.int (Int32.ofNat ow))) (.val (.int (Int32.ofNat (16 + ow)))) (.val (.int (Int32.ofNat (16 + ow + 10)))) (.val (.int (Int32.ofNat (own_wl n)))) (.val (.int (Int32.ofNat (mm)))) (.val (.int (Int32.ofNat (16 + ow + 10 + mm)))) (.val (.int (1 : Int32))) (.val (.int (1 : Int32))) (.val (.int (1 : Int32))) (.val (.int (1 : Int32))) (.val (.int (Int32.ofNat (16 + ow + 10 + mm - 1)))) (.val (.int (1 : Int32))) (.unset) [(.int (99 : Int32)), (.int (Int32.ofNat (16 + ow + 10 + mm + 2))), (.ref ms)])) rfl (own_fAs.trans hml.symm) rfl rfl (hb hby at_1038)
            obtain ⟨T396, X396, e396, st396⟩ := q
            refine og st396 ?_
            refine og (fun _ k => XS.ifNo X396.here hx rfl (hb hby at_1041) rfl ((if0 _ _).trans (feq (by decide : ¬ (1 : Int32) = 0)).1) k) ?_
            refine og (fun _ k => XS.aload X396.here hx rfl (hb hby at_1044) rfl rfl k) ?_
            refine og (fun _ k => XS.iload X396.here hx rfl (hb hby at_1046) rfl k) ?_
            refine og (fun _ k => XS.iconst X396.here hx rfl (hb hby at_1048) k) ?_
            refine og (fun _ k => XS.iadd X396.here hx rfl (hb hby at_1049) rfl k) ?_
            show OGo p e below _ T396 (own_fA m a b v d k0 k1 o x8 c0 c1 a11 a12 v13 a14 ms 1050 (.val (.int (Int32.ofNat ow))) (.val (.int (Int32.ofNat (16 + ow)))) (.val (.int (Int32.ofNat (16 + ow + 10)))) (.val (.int (Int32.ofNat (own_wl n)))) (.val (.int (Int32.ofNat (mm)))) (.val (.int (Int32.ofNat (16 + ow + 10 + mm)))) (.val (.int (1 : Int32))) (.val (.int (1 : Int32))) (.val (.int (1 : Int32))) (.val (.int (1 : Int32))) (.val (.int (Int32.ofNat (16 + ow + 10 + mm - 1)))) (.val (.int (1 : Int32))) (.unset) [(.int ((Int32.ofNat (16 + ow + 10 + mm)) + (3 : Int32))), (.ref ms)])
            rw [show Int32.ofNat (16 + ow + 10 + mm) + (3 : Int32) = Int32.ofNat (16 + ow + 10 + mm + 3) from own_addn _ 3]
            refine og (fun _ k => XS.bipush X396.here hx rfl (hb hby at_1050) k) ?_
            have q := ATN (16 + ow + 10 + mm + 3) (b' := (104 : Int32)) (x := (104 : Int32)) X396 e396 (by omega) ((gB 3).trans rfl) (by decide) (g := (own_fA m a b v d k0 k1 o x8 c0 c1 a11 a12 v13 a14 ms 1052 (.val (.int (Int32.ofNat ow))) (.val (.int (Int32.ofNat (16 + ow)))) (.val (.int (Int32.ofNat (16 + ow + 10)))) (.val (.int (Int32.ofNat (own_wl n)))) (.val (.int (Int32.ofNat (mm)))) (.val (.int (Int32.ofNat (16 + ow + 10 + mm)))) (.val (.int (1 : Int32))) (.val (.int (1 : Int32))) (.val (.int (1 : Int32))) (.val (.int (1 : Int32))) (.val (.int (Int32.ofNat (16 + ow + 10 + mm - 1)))) (.val (.int (1 : Int32))) (.unset) [(.int (104 : Int32)), (.int (Int32.ofNat (16 + ow + 10 + mm + 3))), (.ref ms)])) rfl (own_fAs.trans hml.symm) rfl rfl (hb hby at_1052)
            obtain ⟨T397, X397, e397, st397⟩ := q
            refine og st397 ?_
            refine og (fun _ k => XS.ifNo X397.here hx rfl (hb hby at_1055) rfl ((if0 _ _).trans (feq (by decide : ¬ (1 : Int32) = 0)).1) k) ?_
            refine og (fun _ k => XS.aload X397.here hx rfl (hb hby at_1058) rfl rfl k) ?_
            refine og (fun _ k => XS.iload X397.here hx rfl (hb hby at_1060) rfl k) ?_
            refine og (fun _ k => XS.iconst X397.here hx rfl (hb hby at_1062) k) ?_
            refine og (fun _ k => XS.iadd X397.here hx rfl (hb hby at_1063) rfl k) ?_
            show OGo p e below _ T397 (own_fA m a b v d k0 k1 o x8 c0 c1 a11 a12 v13 a14 ms 1064 (.val (.int (Int32.ofNat ow))) (.val (.int (Int32.ofNat (16 + ow)))) (.val (.int (Int32.ofNat (16 + ow + 10)))) (.val (.int (Int32.ofNat (own_wl n)))) (.val (.int (Int32.ofNat (mm)))) (.val (.int (Int32.ofNat (16 + ow + 10 + mm)))) (.val (.int (1 : Int32))) (.val (.int (1 : Int32))) (.val (.int (1 : Int32))) (.val (.int (1 : Int32))) (.val (.int (Int32.ofNat (16 + ow + 10 + mm - 1)))) (.val (.int (1 : Int32))) (.unset) [(.int ((Int32.ofNat (16 + ow + 10 + mm)) + (4 : Int32))), (.ref ms)])
            rw [show Int32.ofNat (16 + ow + 10 + mm) + (4 : Int32) = Int32.ofNat (16 + ow + 10 + mm + 4) from own_addn _ 4]
            refine og (fun _ k => XS.bipush X397.here hx rfl (hb hby at_1064) k) ?_
            have q := ATN (16 + ow + 10 + mm + 4) (b' := (101 : Int32)) (x := (101 : Int32)) X397 e397 (by omega) ((gB 4).trans rfl) (by decide) (g := (own_fA m a b v d k0 k1 o x8 c0 c1 a11 a12 v13 a14 ms 1066 (.val (.int (Int32.ofNat ow))) (.val (.int (Int32.ofNat (16 + ow)))) (.val (.int (Int32.ofNat (16 + ow + 10)))) (.val (.int (Int32.ofNat (own_wl n)))) (.val (.int (Int32.ofNat (mm)))) (.val (.int (Int32.ofNat (16 + ow + 10 + mm)))) (.val (.int (1 : Int32))) (.val (.int (1 : Int32))) (.val (.int (1 : Int32))) (.val (.int (1 : Int32))) (.val (.int (Int32.ofNat (16 + ow + 10 + mm - 1)))) (.val (.int (1 : Int32))) (.unset) [(.int (101 : Int32)), (.int (Int32.ofNat (16 + ow + 10 + mm + 4))), (.ref ms)])) rfl (own_fAs.trans hml.symm) rfl rfl (hb hby at_1066)
            obtain ⟨T398, X398, e398, st398⟩ := q
            refine og st398 ?_
            refine og (fun _ k => XS.ifNo X398.here hx rfl (hb hby at_1069) rfl ((if0 _ _).trans (feq (by decide : ¬ (1 : Int32) = 0)).1) k) ?_
            refine og (fun _ k => XS.aload X398.here hx rfl (hb hby at_1072) rfl rfl k) ?_
            refine og (fun _ k => XS.iload X398.here hx rfl (hb hby at_1074) rfl k) ?_
            refine og (fun _ k => XS.iconst X398.here hx rfl (hb hby at_1076) k) ?_
            refine og (fun _ k => XS.iadd X398.here hx rfl (hb hby at_1077) rfl k) ?_
            show OGo p e below _ T398 (own_fA m a b v d k0 k1 o x8 c0 c1 a11 a12 v13 a14 ms 1078 (.val (.int (Int32.ofNat ow))) (.val (.int (Int32.ofNat (16 + ow)))) (.val (.int (Int32.ofNat (16 + ow + 10)))) (.val (.int (Int32.ofNat (own_wl n)))) (.val (.int (Int32.ofNat (mm)))) (.val (.int (Int32.ofNat (16 + ow + 10 + mm)))) (.val (.int (1 : Int32))) (.val (.int (1 : Int32))) (.val (.int (1 : Int32))) (.val (.int (1 : Int32))) (.val (.int (Int32.ofNat (16 + ow + 10 + mm - 1)))) (.val (.int (1 : Int32))) (.unset) [(.int ((Int32.ofNat (16 + ow + 10 + mm)) + (5 : Int32))), (.ref ms)])
            rw [show Int32.ofNat (16 + ow + 10 + mm) + (5 : Int32) = Int32.ofNat (16 + ow + 10 + mm + 5) from own_addn _ 5]
            refine og (fun _ k => XS.bipush X398.here hx rfl (hb hby at_1078) k) ?_
            have q := ATN (16 + ow + 10 + mm + 5) (b' := (99 : Int32)) (x := (99 : Int32)) X398 e398 (by omega) ((gB 5).trans rfl) (by decide) (g := (own_fA m a b v d k0 k1 o x8 c0 c1 a11 a12 v13 a14 ms 1080 (.val (.int (Int32.ofNat ow))) (.val (.int (Int32.ofNat (16 + ow)))) (.val (.int (Int32.ofNat (16 + ow + 10)))) (.val (.int (Int32.ofNat (own_wl n)))) (.val (.int (Int32.ofNat (mm)))) (.val (.int (Int32.ofNat (16 + ow + 10 + mm)))) (.val (.int (1 : Int32))) (.val (.int (1 : Int32))) (.val (.int (1 : Int32))) (.val (.int (1 : Int32))) (.val (.int (Int32.ofNat (16 + ow + 10 + mm - 1)))) (.val (.int (1 : Int32))) (.unset) [(.int (99 : Int32)), (.int (Int32.ofNat (16 + ow + 10 + mm + 5))), (.ref ms)])) rfl (own_fAs.trans hml.symm) rfl rfl (hb hby at_1080)
            obtain ⟨T399, X399, e399, st399⟩ := q
            refine og st399 ?_
            refine og (fun _ k => XS.ifNo X399.here hx rfl (hb hby at_1083) rfl ((if0 _ _).trans (feq (by decide : ¬ (1 : Int32) = 0)).1) k) ?_
            refine og (fun _ k => XS.aload X399.here hx rfl (hb hby at_1086) rfl rfl k) ?_
            refine og (fun _ k => XS.iload X399.here hx rfl (hb hby at_1088) rfl k) ?_
            refine og (fun _ k => XS.bipush X399.here hx rfl (hb hby at_1090) k) ?_
            refine og (fun _ k => XS.iadd X399.here hx rfl (hb hby at_1092) rfl k) ?_
            show OGo p e below _ T399 (own_fA m a b v d k0 k1 o x8 c0 c1 a11 a12 v13 a14 ms 1093 (.val (.int (Int32.ofNat ow))) (.val (.int (Int32.ofNat (16 + ow)))) (.val (.int (Int32.ofNat (16 + ow + 10)))) (.val (.int (Int32.ofNat (own_wl n)))) (.val (.int (Int32.ofNat (mm)))) (.val (.int (Int32.ofNat (16 + ow + 10 + mm)))) (.val (.int (1 : Int32))) (.val (.int (1 : Int32))) (.val (.int (1 : Int32))) (.val (.int (1 : Int32))) (.val (.int (Int32.ofNat (16 + ow + 10 + mm - 1)))) (.val (.int (1 : Int32))) (.unset) [(.int ((Int32.ofNat (16 + ow + 10 + mm)) + (6 : Int32))), (.ref ms)])
            rw [show Int32.ofNat (16 + ow + 10 + mm) + (6 : Int32) = Int32.ofNat (16 + ow + 10 + mm + 6) from own_addn _ 6]
            refine og (fun _ k => XS.bipush X399.here hx rfl (hb hby at_1093) k) ?_
            have q := ATN (16 + ow + 10 + mm + 6) (b' := (107 : Int32)) (x := (107 : Int32)) X399 e399 (by omega) ((gB 6).trans rfl) (by decide) (g := (own_fA m a b v d k0 k1 o x8 c0 c1 a11 a12 v13 a14 ms 1095 (.val (.int (Int32.ofNat ow))) (.val (.int (Int32.ofNat (16 + ow)))) (.val (.int (Int32.ofNat (16 + ow + 10)))) (.val (.int (Int32.ofNat (own_wl n)))) (.val (.int (Int32.ofNat (mm)))) (.val (.int (Int32.ofNat (16 + ow + 10 + mm)))) (.val (.int (1 : Int32))) (.val (.int (1 : Int32))) (.val (.int (1 : Int32))) (.val (.int (1 : Int32))) (.val (.int (Int32.ofNat (16 + ow + 10 + mm - 1)))) (.val (.int (1 : Int32))) (.unset) [(.int (107 : Int32)), (.int (Int32.ofNat (16 + ow + 10 + mm + 6))), (.ref ms)])) rfl (own_fAs.trans hml.symm) rfl rfl (hb hby at_1095)
            obtain ⟨T400, X400, e400, st400⟩ := q
            refine og st400 ?_
            refine og (fun _ k => XS.ifNo X400.here hx rfl (hb hby at_1098) rfl ((if0 _ _).trans (feq (by decide : ¬ (1 : Int32) = 0)).1) k) ?_
            refine og (fun _ k => XS.aload X400.here hx rfl (hb hby at_1101) rfl rfl k) ?_
            refine og (fun _ k => XS.iload X400.here hx rfl (hb hby at_1103) rfl k) ?_
            refine og (fun _ k => XS.bipush X400.here hx rfl (hb hby at_1105) k) ?_
            refine og (fun _ k => XS.iadd X400.here hx rfl (hb hby at_1107) rfl k) ?_
            show OGo p e below _ T400 (own_fA m a b v d k0 k1 o x8 c0 c1 a11 a12 v13 a14 ms 1108 (.val (.int (Int32.ofNat ow))) (.val (.int (Int32.ofNat (16 + ow)))) (.val (.int (Int32.ofNat (16 + ow + 10)))) (.val (.int (Int32.ofNat (own_wl n)))) (.val (.int (Int32.ofNat (mm)))) (.val (.int (Int32.ofNat (16 + ow + 10 + mm)))) (.val (.int (1 : Int32))) (.val (.int (1 : Int32))) (.val (.int (1 : Int32))) (.val (.int (1 : Int32))) (.val (.int (Int32.ofNat (16 + ow + 10 + mm - 1)))) (.val (.int (1 : Int32))) (.unset) [(.int ((Int32.ofNat (16 + ow + 10 + mm)) + (7 : Int32))), (.ref ms)])
            rw [show Int32.ofNat (16 + ow + 10 + mm) + (7 : Int32) = Int32.ofNat (16 + ow + 10 + mm + 7) from own_addn _ 7]
            refine og (fun _ k => XS.bipush X400.here hx rfl (hb hby at_1108) k) ?_
            have q := ATN (16 + ow + 10 + mm + 7) (b' := (112 : Int32)) (x := (112 : Int32)) X400 e400 (by omega) ((gB 7).trans rfl) (by decide) (g := (own_fA m a b v d k0 k1 o x8 c0 c1 a11 a12 v13 a14 ms 1110 (.val (.int (Int32.ofNat ow))) (.val (.int (Int32.ofNat (16 + ow)))) (.val (.int (Int32.ofNat (16 + ow + 10)))) (.val (.int (Int32.ofNat (own_wl n)))) (.val (.int (Int32.ofNat (mm)))) (.val (.int (Int32.ofNat (16 + ow + 10 + mm)))) (.val (.int (1 : Int32))) (.val (.int (1 : Int32))) (.val (.int (1 : Int32))) (.val (.int (1 : Int32))) (.val (.int (Int32.ofNat (16 + ow + 10 + mm - 1)))) (.val (.int (1 : Int32))) (.unset) [(.int (112 : Int32)), (.int (Int32.ofNat (16 + ow + 10 + mm + 7))), (.ref ms)])) rfl (own_fAs.trans hml.symm) rfl rfl (hb hby at_1110)
            obtain ⟨T401, X401, e401, st401⟩ := q
            refine og st401 ?_
            refine og (fun _ k => XS.ifNo X401.here hx rfl (hb hby at_1113) rfl ((if0 _ _).trans (feq (by decide : ¬ (1 : Int32) = 0)).1) k) ?_
            refine og (fun _ k => XS.aload X401.here hx rfl (hb hby at_1116) rfl rfl k) ?_
            refine og (fun _ k => XS.iload X401.here hx rfl (hb hby at_1118) rfl k) ?_
            refine og (fun _ k => XS.bipush X401.here hx rfl (hb hby at_1120) k) ?_
            refine og (fun _ k => XS.iadd X401.here hx rfl (hb hby at_1122) rfl k) ?_
            show OGo p e below _ T401 (own_fA m a b v d k0 k1 o x8 c0 c1 a11 a12 v13 a14 ms 1123 (.val (.int (Int32.ofNat ow))) (.val (.int (Int32.ofNat (16 + ow)))) (.val (.int (Int32.ofNat (16 + ow + 10)))) (.val (.int (Int32.ofNat (own_wl n)))) (.val (.int (Int32.ofNat (mm)))) (.val (.int (Int32.ofNat (16 + ow + 10 + mm)))) (.val (.int (1 : Int32))) (.val (.int (1 : Int32))) (.val (.int (1 : Int32))) (.val (.int (1 : Int32))) (.val (.int (Int32.ofNat (16 + ow + 10 + mm - 1)))) (.val (.int (1 : Int32))) (.unset) [(.int ((Int32.ofNat (16 + ow + 10 + mm)) + (8 : Int32))), (.ref ms)])
            rw [show Int32.ofNat (16 + ow + 10 + mm) + (8 : Int32) = Int32.ofNat (16 + ow + 10 + mm + 8) from own_addn _ 8]
            refine og (fun _ k => XS.bipush X401.here hx rfl (hb hby at_1123) k) ?_
            have q := ATN (16 + ow + 10 + mm + 8) (b' := (111 : Int32)) (x := (111 : Int32)) X401 e401 (by omega) ((gB 8).trans rfl) (by decide) (g := (own_fA m a b v d k0 k1 o x8 c0 c1 a11 a12 v13 a14 ms 1125 (.val (.int (Int32.ofNat ow))) (.val (.int (Int32.ofNat (16 + ow)))) (.val (.int (Int32.ofNat (16 + ow + 10)))) (.val (.int (Int32.ofNat (own_wl n)))) (.val (.int (Int32.ofNat (mm)))) (.val (.int (Int32.ofNat (16 + ow + 10 + mm)))) (.val (.int (1 : Int32))) (.val (.int (1 : Int32))) (.val (.int (1 : Int32))) (.val (.int (1 : Int32))) (.val (.int (Int32.ofNat (16 + ow + 10 + mm - 1)))) (.val (.int (1 : Int32))) (.unset) [(.int (111 : Int32)), (.int (Int32.ofNat (16 + ow + 10 + mm + 8))), (.ref ms)])) rfl (own_fAs.trans hml.symm) rfl rfl (hb hby at_1125)
            obtain ⟨T402, X402, e402, st402⟩ := q
            refine og st402 ?_
            refine og (fun _ k => XS.ifNo X402.here hx rfl (hb hby at_1128) rfl ((if0 _ _).trans (feq (by decide : ¬ (1 : Int32) = 0)).1) k) ?_
            refine og (fun _ k => XS.aload X402.here hx rfl (hb hby at_1131) rfl rfl k) ?_
            refine og (fun _ k => XS.iload X402.here hx rfl (hb hby at_1133) rfl k) ?_
            refine og (fun _ k => XS.bipush X402.here hx rfl (hb hby at_1135) k) ?_
            refine og (fun _ k => XS.iadd X402.here hx rfl (hb hby at_1137) rfl k) ?_
            show OGo p e below _ T402 (own_fA m a b v d k0 k1 o x8 c0 c1 a11 a12 v13 a14 ms 1138 (.val (.int (Int32.ofNat ow))) (.val (.int (Int32.ofNat (16 + ow)))) (.val (.int (Int32.ofNat (16 + ow + 10)))) (.val (.int (Int32.ofNat (own_wl n)))) (.val (.int (Int32.ofNat (mm)))) (.val (.int (Int32.ofNat (16 + ow + 10 + mm)))) (.val (.int (1 : Int32))) (.val (.int (1 : Int32))) (.val (.int (1 : Int32))) (.val (.int (1 : Int32))) (.val (.int (Int32.ofNat (16 + ow + 10 + mm - 1)))) (.val (.int (1 : Int32))) (.unset) [(.int ((Int32.ofNat (16 + ow + 10 + mm)) + (9 : Int32))), (.ref ms)])
            rw [show Int32.ofNat (16 + ow + 10 + mm) + (9 : Int32) = Int32.ofNat (16 + ow + 10 + mm + 9) from own_addn _ 9]
            refine og (fun _ k => XS.bipush X402.here hx rfl (hb hby at_1138) k) ?_
            have q := ATN (16 + ow + 10 + mm + 9) (b' := (105 : Int32)) (x := (105 : Int32)) X402 e402 (by omega) ((gB 9).trans rfl) (by decide) (g := (own_fA m a b v d k0 k1 o x8 c0 c1 a11 a12 v13 a14 ms 1140 (.val (.int (Int32.ofNat ow))) (.val (.int (Int32.ofNat (16 + ow)))) (.val (.int (Int32.ofNat (16 + ow + 10)))) (.val (.int (Int32.ofNat (own_wl n)))) (.val (.int (Int32.ofNat (mm)))) (.val (.int (Int32.ofNat (16 + ow + 10 + mm)))) (.val (.int (1 : Int32))) (.val (.int (1 : Int32))) (.val (.int (1 : Int32))) (.val (.int (1 : Int32))) (.val (.int (Int32.ofNat (16 + ow + 10 + mm - 1)))) (.val (.int (1 : Int32))) (.unset) [(.int (105 : Int32)), (.int (Int32.ofNat (16 + ow + 10 + mm + 9))), (.ref ms)])) rfl (own_fAs.trans hml.symm) rfl rfl (hb hby at_1140)
            obtain ⟨T403, X403, e403, st403⟩ := q
            refine og st403 ?_
            refine og (fun _ k => XS.ifNo X403.here hx rfl (hb hby at_1143) rfl ((if0 _ _).trans (feq (by decide : ¬ (1 : Int32) = 0)).1) k) ?_
            refine og (fun _ k => XS.aload X403.here hx rfl (hb hby at_1146) rfl rfl k) ?_
            refine og (fun _ k => XS.iload X403.here hx rfl (hb hby at_1148) rfl k) ?_
            refine og (fun _ k => XS.bipush X403.here hx rfl (hb hby at_1150) k) ?_
            refine og (fun _ k => XS.iadd X403.here hx rfl (hb hby at_1152) rfl k) ?_
            show OGo p e below _ T403 (own_fA m a b v d k0 k1 o x8 c0 c1 a11 a12 v13 a14 ms 1153 (.val (.int (Int32.ofNat ow))) (.val (.int (Int32.ofNat (16 + ow)))) (.val (.int (Int32.ofNat (16 + ow + 10)))) (.val (.int (Int32.ofNat (own_wl n)))) (.val (.int (Int32.ofNat (mm)))) (.val (.int (Int32.ofNat (16 + ow + 10 + mm)))) (.val (.int (1 : Int32))) (.val (.int (1 : Int32))) (.val (.int (1 : Int32))) (.val (.int (1 : Int32))) (.val (.int (Int32.ofNat (16 + ow + 10 + mm - 1)))) (.val (.int (1 : Int32))) (.unset) [(.int ((Int32.ofNat (16 + ow + 10 + mm)) + (10 : Int32))), (.ref ms)])
            rw [show Int32.ofNat (16 + ow + 10 + mm) + (10 : Int32) = Int32.ofNat (16 + ow + 10 + mm + 10) from own_addn _ 10]
            refine og (fun _ k => XS.bipush X403.here hx rfl (hb hby at_1153) k) ?_
            have q := ATN (16 + ow + 10 + mm + 10) (b' := (110 : Int32)) (x := (110 : Int32)) X403 e403 (by omega) ((gB 10).trans rfl) (by decide) (g := (own_fA m a b v d k0 k1 o x8 c0 c1 a11 a12 v13 a14 ms 1155 (.val (.int (Int32.ofNat ow))) (.val (.int (Int32.ofNat (16 + ow)))) (.val (.int (Int32.ofNat (16 + ow + 10)))) (.val (.int (Int32.ofNat (own_wl n)))) (.val (.int (Int32.ofNat (mm)))) (.val (.int (Int32.ofNat (16 + ow + 10 + mm)))) (.val (.int (1 : Int32))) (.val (.int (1 : Int32))) (.val (.int (1 : Int32))) (.val (.int (1 : Int32))) (.val (.int (Int32.ofNat (16 + ow + 10 + mm - 1)))) (.val (.int (1 : Int32))) (.unset) [(.int (110 : Int32)), (.int (Int32.ofNat (16 + ow + 10 + mm + 10))), (.ref ms)])) rfl (own_fAs.trans hml.symm) rfl rfl (hb hby at_1155)
            obtain ⟨T404, X404, e404, st404⟩ := q
            refine og st404 ?_
            refine og (fun _ k => XS.ifNo X404.here hx rfl (hb hby at_1158) rfl ((if0 _ _).trans (feq (by decide : ¬ (1 : Int32) = 0)).1) k) ?_
            refine og (fun _ k => XS.aload X404.here hx rfl (hb hby at_1161) rfl rfl k) ?_
            refine og (fun _ k => XS.iload X404.here hx rfl (hb hby at_1163) rfl k) ?_
            refine og (fun _ k => XS.bipush X404.here hx rfl (hb hby at_1165) k) ?_
            refine og (fun _ k => XS.iadd X404.here hx rfl (hb hby at_1167) rfl k) ?_
            show OGo p e below _ T404 (own_fA m a b v d k0 k1 o x8 c0 c1 a11 a12 v13 a14 ms 1168 (.val (.int (Int32.ofNat ow))) (.val (.int (Int32.ofNat (16 + ow)))) (.val (.int (Int32.ofNat (16 + ow + 10)))) (.val (.int (Int32.ofNat (own_wl n)))) (.val (.int (Int32.ofNat (mm)))) (.val (.int (Int32.ofNat (16 + ow + 10 + mm)))) (.val (.int (1 : Int32))) (.val (.int (1 : Int32))) (.val (.int (1 : Int32))) (.val (.int (1 : Int32))) (.val (.int (Int32.ofNat (16 + ow + 10 + mm - 1)))) (.val (.int (1 : Int32))) (.unset) [(.int ((Int32.ofNat (16 + ow + 10 + mm)) + (11 : Int32))), (.ref ms)])
            rw [show Int32.ofNat (16 + ow + 10 + mm) + (11 : Int32) = Int32.ofNat (16 + ow + 10 + mm + 11) from own_addn _ 11]
            refine og (fun _ k => XS.bipush X404.here hx rfl (hb hby at_1168) k) ?_
            have q := ATN (16 + ow + 10 + mm + 11) (b' := (116 : Int32)) (x := (116 : Int32)) X404 e404 (by omega) ((gB 11).trans rfl) (by decide) (g := (own_fA m a b v d k0 k1 o x8 c0 c1 a11 a12 v13 a14 ms 1170 (.val (.int (Int32.ofNat ow))) (.val (.int (Int32.ofNat (16 + ow)))) (.val (.int (Int32.ofNat (16 + ow + 10)))) (.val (.int (Int32.ofNat (own_wl n)))) (.val (.int (Int32.ofNat (mm)))) (.val (.int (Int32.ofNat (16 + ow + 10 + mm)))) (.val (.int (1 : Int32))) (.val (.int (1 : Int32))) (.val (.int (1 : Int32))) (.val (.int (1 : Int32))) (.val (.int (Int32.ofNat (16 + ow + 10 + mm - 1)))) (.val (.int (1 : Int32))) (.unset) [(.int (116 : Int32)), (.int (Int32.ofNat (16 + ow + 10 + mm + 11))), (.ref ms)])) rfl (own_fAs.trans hml.symm) rfl rfl (hb hby at_1170)
            obtain ⟨T405, X405, e405, st405⟩ := q
            refine og st405 ?_
            refine og (fun _ k => XS.ifNo X405.here hx rfl (hb hby at_1173) rfl ((if0 _ _).trans (feq (by decide : ¬ (1 : Int32) = 0)).1) k) ?_
            refine og (fun _ k => XS.aload X405.here hx rfl (hb hby at_1176) rfl rfl k) ?_
            refine og (fun _ k => XS.iload X405.here hx rfl (hb hby at_1178) rfl k) ?_
            refine og (fun _ k => XS.bipush X405.here hx rfl (hb hby at_1180) k) ?_
            refine og (fun _ k => XS.iadd X405.here hx rfl (hb hby at_1182) rfl k) ?_
            show OGo p e below _ T405 (own_fA m a b v d k0 k1 o x8 c0 c1 a11 a12 v13 a14 ms 1183 (.val (.int (Int32.ofNat ow))) (.val (.int (Int32.ofNat (16 + ow)))) (.val (.int (Int32.ofNat (16 + ow + 10)))) (.val (.int (Int32.ofNat (own_wl n)))) (.val (.int (Int32.ofNat (mm)))) (.val (.int (Int32.ofNat (16 + ow + 10 + mm)))) (.val (.int (1 : Int32))) (.val (.int (1 : Int32))) (.val (.int (1 : Int32))) (.val (.int (1 : Int32))) (.val (.int (Int32.ofNat (16 + ow + 10 + mm - 1)))) (.val (.int (1 : Int32))) (.unset) [(.int ((Int32.ofNat (16 + ow + 10 + mm)) + (12 : Int32))), (.ref ms)])
            rw [show Int32.ofNat (16 + ow + 10 + mm) + (12 : Int32) = Int32.ofNat (16 + ow + 10 + mm + 12) from own_addn _ 12]
            refine og (fun _ k => XS.bipush X405.here hx rfl (hb hby at_1183) k) ?_
            have q := ATN (16 + ow + 10 + mm + 12) (b' := (32 : Int32)) (x := (32 : Int32)) X405 e405 (by omega) ((gB 12).trans rfl) (by decide) (g := (own_fA m a b v d k0 k1 o x8 c0 c1 a11 a12 v13 a14 ms 1185 (.val (.int (Int32.ofNat ow))) (.val (.int (Int32.ofNat (16 + ow)))) (.val (.int (Int32.ofNat (16 + ow + 10)))) (.val (.int (Int32.ofNat (own_wl n)))) (.val (.int (Int32.ofNat (mm)))) (.val (.int (Int32.ofNat (16 + ow + 10 + mm)))) (.val (.int (1 : Int32))) (.val (.int (1 : Int32))) (.val (.int (1 : Int32))) (.val (.int (1 : Int32))) (.val (.int (Int32.ofNat (16 + ow + 10 + mm - 1)))) (.val (.int (1 : Int32))) (.unset) [(.int (32 : Int32)), (.int (Int32.ofNat (16 + ow + 10 + mm + 12))), (.ref ms)])) rfl (own_fAs.trans hml.symm) rfl rfl (hb hby at_1185)
            obtain ⟨T406, X406, e406, st406⟩ := q
            refine og st406 ?_
            refine og (fun _ k => XS.ifNo X406.here hx rfl (hb hby at_1188) rfl ((if0 _ _).trans (feq (by decide : ¬ (1 : Int32) = 0)).1) k) ?_
            refine og (fun _ k => XS.aload X406.here hx rfl (hb hby at_1191) rfl rfl k) ?_
            refine og (fun _ k => XS.iload X406.here hx rfl (hb hby at_1193) rfl k) ?_
            refine og (fun _ k => XS.bipush X406.here hx rfl (hb hby at_1195) k) ?_
            refine og (fun _ k => XS.iadd X406.here hx rfl (hb hby at_1197) rfl k) ?_
            show OGo p e below _ T406 (own_fA m a b v d k0 k1 o x8 c0 c1 a11 a12 v13 a14 ms 1198 (.val (.int (Int32.ofNat ow))) (.val (.int (Int32.ofNat (16 + ow)))) (.val (.int (Int32.ofNat (16 + ow + 10)))) (.val (.int (Int32.ofNat (own_wl n)))) (.val (.int (Int32.ofNat (mm)))) (.val (.int (Int32.ofNat (16 + ow + 10 + mm)))) (.val (.int (1 : Int32))) (.val (.int (1 : Int32))) (.val (.int (1 : Int32))) (.val (.int (1 : Int32))) (.val (.int (Int32.ofNat (16 + ow + 10 + mm - 1)))) (.val (.int (1 : Int32))) (.unset) [(.int ((Int32.ofNat (16 + ow + 10 + mm)) + (13 : Int32))), (.ref ms)])
            rw [show Int32.ofNat (16 + ow + 10 + mm) + (13 : Int32) = Int32.ofNat (16 + ow + 10 + mm + 13) from own_addn _ 13]
            refine og (fun _ k => XS.iload X406.here hx rfl (hb hby at_1198) rfl k) ?_
            have q := ATN (16 + ow + 10 + mm + 13) (b' := c0.toInt8.toInt32) (x := c0) X406 e406 (by omega) ((gB 13).trans rfl) (own_lo8 hc0) (g := (own_fA m a b v d k0 k1 o x8 c0 c1 a11 a12 v13 a14 ms 1200 (.val (.int (Int32.ofNat ow))) (.val (.int (Int32.ofNat (16 + ow)))) (.val (.int (Int32.ofNat (16 + ow + 10)))) (.val (.int (Int32.ofNat (own_wl n)))) (.val (.int (Int32.ofNat (mm)))) (.val (.int (Int32.ofNat (16 + ow + 10 + mm)))) (.val (.int (1 : Int32))) (.val (.int (1 : Int32))) (.val (.int (1 : Int32))) (.val (.int (1 : Int32))) (.val (.int (Int32.ofNat (16 + ow + 10 + mm - 1)))) (.val (.int (1 : Int32))) (.unset) [(.int c0), (.int (Int32.ofNat (16 + ow + 10 + mm + 13))), (.ref ms)])) rfl (own_fAs.trans hml.symm) rfl rfl (hb hby at_1200)
            obtain ⟨T407, X407, e407, st407⟩ := q
            refine og st407 ?_
            refine og (fun _ k => XS.ifNo X407.here hx rfl (hb hby at_1203) rfl ((if0 _ _).trans (feq (by decide : ¬ (1 : Int32) = 0)).1) k) ?_
            refine og (fun _ k => XS.aload X407.here hx rfl (hb hby at_1206) rfl rfl k) ?_
            refine og (fun _ k => XS.iload X407.here hx rfl (hb hby at_1208) rfl k) ?_
            refine og (fun _ k => XS.bipush X407.here hx rfl (hb hby at_1210) k) ?_
            refine og (fun _ k => XS.iadd X407.here hx rfl (hb hby at_1212) rfl k) ?_
            show OGo p e below _ T407 (own_fA m a b v d k0 k1 o x8 c0 c1 a11 a12 v13 a14 ms 1213 (.val (.int (Int32.ofNat ow))) (.val (.int (Int32.ofNat (16 + ow)))) (.val (.int (Int32.ofNat (16 + ow + 10)))) (.val (.int (Int32.ofNat (own_wl n)))) (.val (.int (Int32.ofNat (mm)))) (.val (.int (Int32.ofNat (16 + ow + 10 + mm)))) (.val (.int (1 : Int32))) (.val (.int (1 : Int32))) (.val (.int (1 : Int32))) (.val (.int (1 : Int32))) (.val (.int (Int32.ofNat (16 + ow + 10 + mm - 1)))) (.val (.int (1 : Int32))) (.unset) [(.int ((Int32.ofNat (16 + ow + 10 + mm)) + (14 : Int32))), (.ref ms)])
            rw [show Int32.ofNat (16 + ow + 10 + mm) + (14 : Int32) = Int32.ofNat (16 + ow + 10 + mm + 14) from own_addn _ 14]
            refine og (fun _ k => XS.iload X407.here hx rfl (hb hby at_1213) rfl k) ?_
            have q := ATN (16 + ow + 10 + mm + 14) (b' := c1.toInt8.toInt32) (x := c1) X407 e407 (by omega) ((gB 14).trans rfl) (own_lo8 hc1) (g := (own_fA m a b v d k0 k1 o x8 c0 c1 a11 a12 v13 a14 ms 1215 (.val (.int (Int32.ofNat ow))) (.val (.int (Int32.ofNat (16 + ow)))) (.val (.int (Int32.ofNat (16 + ow + 10)))) (.val (.int (Int32.ofNat (own_wl n)))) (.val (.int (Int32.ofNat (mm)))) (.val (.int (Int32.ofNat (16 + ow + 10 + mm)))) (.val (.int (1 : Int32))) (.val (.int (1 : Int32))) (.val (.int (1 : Int32))) (.val (.int (1 : Int32))) (.val (.int (Int32.ofNat (16 + ow + 10 + mm - 1)))) (.val (.int (1 : Int32))) (.unset) [(.int c1), (.int (Int32.ofNat (16 + ow + 10 + mm + 14))), (.ref ms)])) rfl (own_fAs.trans hml.symm) rfl rfl (hb hby at_1215)
            obtain ⟨T408, X408, e408, st408⟩ := q
            refine og st408 ?_
            refine og (fun _ k => XS.ifNo X408.here hx rfl (hb hby at_1218) rfl ((if0 _ _).trans (feq (by decide : ¬ (1 : Int32) = 0)).1) k) ?_
            refine og (fun _ k => XS.aload X408.here hx rfl (hb hby at_1221) rfl rfl k) ?_
            refine og (fun _ k => XS.iload X408.here hx rfl (hb hby at_1223) rfl k) ?_
            refine og (fun _ k => XS.bipush X408.here hx rfl (hb hby at_1225) k) ?_
            refine og (fun _ k => XS.iadd X408.here hx rfl (hb hby at_1227) rfl k) ?_
            show OGo p e below _ T408 (own_fA m a b v d k0 k1 o x8 c0 c1 a11 a12 v13 a14 ms 1228 (.val (.int (Int32.ofNat ow))) (.val (.int (Int32.ofNat (16 + ow)))) (.val (.int (Int32.ofNat (16 + ow + 10)))) (.val (.int (Int32.ofNat (own_wl n)))) (.val (.int (Int32.ofNat (mm)))) (.val (.int (Int32.ofNat (16 + ow + 10 + mm)))) (.val (.int (1 : Int32))) (.val (.int (1 : Int32))) (.val (.int (1 : Int32))) (.val (.int (1 : Int32))) (.val (.int (Int32.ofNat (16 + ow + 10 + mm - 1)))) (.val (.int (1 : Int32))) (.unset) [(.int ((Int32.ofNat (16 + ow + 10 + mm)) + (15 : Int32))), (.ref ms)])
            rw [show Int32.ofNat (16 + ow + 10 + mm) + (15 : Int32) = Int32.ofNat (16 + ow + 10 + mm + 15) from own_addn _ 15]
            refine og (fun _ k => XS.bipush X408.here hx rfl (hb hby at_1228) k) ?_
            have q := ATN (16 + ow + 10 + mm + 15) (b' := (41 : Int32)) (x := (41 : Int32)) X408 e408 (by omega) ((gB 15).trans rfl) (by decide) (g := (own_fA m a b v d k0 k1 o x8 c0 c1 a11 a12 v13 a14 ms 1230 (.val (.int (Int32.ofNat ow))) (.val (.int (Int32.ofNat (16 + ow)))) (.val (.int (Int32.ofNat (16 + ow + 10)))) (.val (.int (Int32.ofNat (own_wl n)))) (.val (.int (Int32.ofNat (mm)))) (.val (.int (Int32.ofNat (16 + ow + 10 + mm)))) (.val (.int (1 : Int32))) (.val (.int (1 : Int32))) (.val (.int (1 : Int32))) (.val (.int (1 : Int32))) (.val (.int (Int32.ofNat (16 + ow + 10 + mm - 1)))) (.val (.int (1 : Int32))) (.unset) [(.int (41 : Int32)), (.int (Int32.ofNat (16 + ow + 10 + mm + 15))), (.ref ms)])) rfl (own_fAs.trans hml.symm) rfl rfl (hb hby at_1230)
            obtain ⟨T409, X409, e409, st409⟩ := q
            refine og st409 ?_
            refine og (fun _ k => XS.ifNo X409.here hx rfl (hb hby at_1233) rfl ((if0 _ _).trans (feq (by decide : ¬ (1 : Int32) = 0)).1) k) ?_
            refine og (fun _ k => XS.iconst X409.here hx rfl (hb hby at_1236) k) ?_
            refine og (fun _ k => XS.goto X409.here hx rfl (pc0 := 1237) (pc' := 1241) rfl (hb hby at_1237) (by decide) (by decide) k) ?_
            refine og (fun _ k => XS.istore X409.here hx rfl (hb hby at_1241) rfl (l' := #[.val (.int a), .val (.int b), .val (.long v), .second, .val (.int d), .val (.int k0), .val (.int k1), .val (.int o), .val (.int x8), .val (.int c0), .val (.int c1), .val (.ref a11), .val (.ref a12), .val v13, .val (.ref a14), .val (.ref ms), .val (.int (Int32.ofNat ow)), .val (.int (Int32.ofNat (16 + ow))), .val (.int (Int32.ofNat (16 + ow + 10))), .val (.int (Int32.ofNat (own_wl n))), .val (.int (Int32.ofNat (mm))), .val (.int (Int32.ofNat (16 + ow + 10 + mm))), .val (.int (1 : Int32)), .val (.int (1 : Int32)), .val (.int (1 : Int32)), .val (.int (1 : Int32)), .val (.int (Int32.ofNat (16 + ow + 10 + mm - 1))), .val (.int (1 : Int32)), .val (.int (1 : Int32))]) rfl k) ?_
            refine og (fun _ k => XS.iload X409.here hx rfl (hb hby at_1243) rfl k) ?_
            refine og (fun _ k => XS.ifNo X409.here hx rfl (hb hby at_1245) rfl ((if0 _ _).trans (feq (by decide : ¬ (1 : Int32) = 0)).1) k) ?_
            refine og (fun _ k => XS.iload X409.here hx rfl (hb hby at_1248) rfl k) ?_
            refine og (fun _ k => XS.ifNo X409.here hx rfl (hb hby at_1250) rfl ((if0 _ _).trans (feq (by decide : ¬ (1 : Int32) = 0)).1) k) ?_
            refine og (fun _ k => XS.iload X409.here hx rfl (hb hby at_1253) rfl k) ?_
            refine og (fun _ k => XS.ifNo X409.here hx rfl (hb hby at_1255) rfl ((if0 _ _).trans (feq (by decide : ¬ (1 : Int32) = 0)).1) k) ?_
            refine og (fun _ k => XS.iload X409.here hx rfl (hb hby at_1258) rfl k) ?_
            refine og (fun _ k => XS.ifNo X409.here hx rfl (hb hby at_1260) rfl ((if0 _ _).trans (feq (by decide : ¬ (1 : Int32) = 0)).1) k) ?_
            refine og (fun _ k => XS.iload X409.here hx rfl (hb hby at_1263) rfl k) ?_
            refine og (fun _ k => XS.ifNo X409.here hx rfl (hb hby at_1265) rfl ((if0 _ _).trans (feq (by decide : ¬ (1 : Int32) = 0)).1) k) ?_
            refine og (fun _ k => XS.iload X409.here hx rfl (hb hby at_1268) rfl k) ?_
            refine og (fun _ k => XS.ifNo X409.here hx rfl (hb hby at_1270) rfl ((if0 _ _).trans (feq (by decide : ¬ (1 : Int32) = 0)).1) k) ?_
            refine og (fun _ k => XS.iconst X409.here hx rfl (hb hby at_1273) k) ?_
            refine og (fun _ k => XS.goto X409.here hx rfl (pc0 := 1274) (pc' := 1278) rfl (hb hby at_1274) (by decide) (by decide) k) ?_
            show OGo p e below _ T409 (own_fA m a b v d k0 k1 o x8 c0 c1 a11 a12 v13 a14 ms 1278 (.val (.int (Int32.ofNat ow))) (.val (.int (Int32.ofNat (16 + ow)))) (.val (.int (Int32.ofNat (16 + ow + 10)))) (.val (.int (Int32.ofNat (own_wl n)))) (.val (.int (Int32.ofNat (mm)))) (.val (.int (Int32.ofNat (16 + ow + 10 + mm)))) (.val (.int (1 : Int32))) (.val (.int (1 : Int32))) (.val (.int (1 : Int32))) (.val (.int (1 : Int32))) (.val (.int (Int32.ofNat (16 + ow + 10 + mm - 1)))) (.val (.int (1 : Int32))) (.val (.int (1 : Int32))) [(.int (1 : Int32))])
            exact OGo.retH X409 hx hZ1 (own_hEL hw) hs0 e409 hS1 hkz H1 R1 (t := .boolean) hret hlk rfl (Or.inl ⟨rfl, by simp, _, rfl⟩) (hb hby at_1278) (by decide) (by decide) ⟨rfl, N⟩
          show OGo p e below _ T374 (own_fA m a b v d k0 k1 o x8 c0 c1 a11 a12 v13 a14 ms 639 (.val (.int (Int32.ofNat ow))) (.val (.int (Int32.ofNat (16 + ow)))) (.val (.int (Int32.ofNat (16 + ow + 10)))) (.val (.int (Int32.ofNat (own_wl n)))) (.val (.int (Int32.ofNat (mm)))) (.val (.int (Int32.ofNat (16 + ow + 10 + mm)))) (.val (.int (1 : Int32))) (.val (.int (1 : Int32))) (.val (.int (1 : Int32))) (.unset) (.unset) (.unset) (.unset) [(.int (lcmpW v (0 : Int64)))])
          by_cases hv : v < 0
          case neg =>
            refine og (fun _ k => XS.ifYes X374.here hx rfl (pc0 := 639) (pc' := 654) rfl (hb hby at_639) rfl ((if0 _ _).trans (flt (fun h => hv ((lw_lt _ _).mp h))).2.1) (by decide) (by decide) k) ?_
            refine og (fun _ k => XS.iconst X374.here hx rfl (hb hby at_654) k) ?_
            show OGo p e below _ T374 (own_fA m a b v d k0 k1 o x8 c0 c1 a11 a12 v13 a14 ms 655 (.val (.int (Int32.ofNat ow))) (.val (.int (Int32.ofNat (16 + ow)))) (.val (.int (Int32.ofNat (16 + ow + 10)))) (.val (.int (Int32.ofNat (own_wl n)))) (.val (.int (Int32.ofNat (mm)))) (.val (.int (Int32.ofNat (16 + ow + 10 + mm)))) (.val (.int (1 : Int32))) (.val (.int (1 : Int32))) (.val (.int (1 : Int32))) (.unset) (.unset) (.unset) (.unset) [(.int (1 : Int32))])
            exact K655  _ _ X374 N e374
          refine og (fun _ k => XS.ifNo X374.here hx rfl (hb hby at_639) rfl ((if0 _ _).trans (tlt ((lw_lt _ _).mpr hv)).2.1) k) ?_
          refine og (fun _ k => XS.aload X374.here hx rfl (hb hby at_642) rfl rfl k) ?_
          refine og (fun _ k => XS.iload X374.here hx rfl (hb hby at_644) rfl k) ?_
          refine og (fun _ k => XS.bipush X374.here hx rfl (hb hby at_646) k) ?_
          have q := ATN (16 + ow + 10) (b' := (45 : Int32)) (x := (45 : Int32)) X374 e374 (by omega) (gS hv) (by decide) (g := (own_fA m a b v d k0 k1 o x8 c0 c1 a11 a12 v13 a14 ms 648 (.val (.int (Int32.ofNat ow))) (.val (.int (Int32.ofNat (16 + ow)))) (.val (.int (Int32.ofNat (16 + ow + 10)))) (.val (.int (Int32.ofNat (own_wl n)))) (.val (.int (Int32.ofNat (mm)))) (.val (.int (Int32.ofNat (16 + ow + 10 + mm)))) (.val (.int (1 : Int32))) (.val (.int (1 : Int32))) (.val (.int (1 : Int32))) (.unset) (.unset) (.unset) (.unset) [(.int (45 : Int32)), (.int (Int32.ofNat (16 + ow + 10))), (.ref ms)])) rfl (own_fAs.trans hml.symm) rfl rfl (hb hby at_648)
          obtain ⟨T410, X410, e410, st410⟩ := q
          refine og st410 ?_
          refine og (fun _ k => XS.goto X410.here hx rfl (pc0 := 651) (pc' := 655) rfl (hb hby at_651) (by decide) (by decide) k) ?_
          show OGo p e below _ T410 (own_fA m a b v d k0 k1 o x8 c0 c1 a11 a12 v13 a14 ms 655 (.val (.int (Int32.ofNat ow))) (.val (.int (Int32.ofNat (16 + ow)))) (.val (.int (Int32.ofNat (16 + ow + 10)))) (.val (.int (Int32.ofNat (own_wl n)))) (.val (.int (Int32.ofNat (mm)))) (.val (.int (Int32.ofNat (16 + ow + 10 + mm)))) (.val (.int (1 : Int32))) (.val (.int (1 : Int32))) (.val (.int (1 : Int32))) (.unset) (.unset) (.unset) (.unset) [(.int (1 : Int32))])
          exact K655  _ _ X410 N e410
        rcases hx8 with ⟨h8, h9, g8⟩ | ⟨h8, h9, g8⟩
        · show OGo p e below _ T364 (own_fA m a b v d k0 k1 o x8 c0 c1 a11 a12 v13 a14 ms 417 (.val (.int (Int32.ofNat ow))) (.val (.int (Int32.ofNat (16 + ow)))) (.val (.int (Int32.ofNat (16 + ow + 10)))) (.val (.int (Int32.ofNat (own_wl n)))) (.val (.int (Int32.ofNat (mm)))) (.val (.int (Int32.ofNat (16 + ow + 10 + mm)))) (.val (.int (1 : Int32))) (.unset) (.unset) (.unset) (.unset) (.unset) (.unset) [(.int x8)])
          refine og (fun _ k => XS.ifNo X364.here hx rfl (hb hby at_417) rfl ((if0 _ _).trans (feq (by rw [h8]; decide)).1) k) ?_
          refine og (fun _ k => XS.aload X364.here hx rfl (hb hby at_420) rfl rfl k) ?_
          refine og (fun _ k => XS.bipush X364.here hx rfl (hb hby at_422) k) ?_
          refine og (fun _ k => XS.bipush X364.here hx rfl (hb hby at_424) k) ?_
          have q := ATN 16 (b' := (110 : Int32)) (x := (110 : Int32)) X364 e364 (by omega) ((g8 0 (by decide)).trans rfl) (by decide) (g := (own_fA m a b v d k0 k1 o x8 c0 c1 a11 a12 v13 a14 ms 426 (.val (.int (Int32.ofNat ow))) (.val (.int (Int32.ofNat (16 + ow)))) (.val (.int (Int32.ofNat (16 + ow + 10)))) (.val (.int (Int32.ofNat (own_wl n)))) (.val (.int (Int32.ofNat (mm)))) (.val (.int (Int32.ofNat (16 + ow + 10 + mm)))) (.val (.int (1 : Int32))) (.unset) (.unset) (.unset) (.unset) (.unset) (.unset) [(.int (110 : Int32)), (.int (16 : Int32)), (.ref ms)])) rfl (own_fAs.trans hml.symm) rfl rfl (hb hby at_426)
          obtain ⟨T411, X411, e411, st411⟩ := q
          refine og st411 ?_
          refine og (fun _ k => XS.ifNo X411.here hx rfl (hb hby at_429) rfl ((if0 _ _).trans (feq (by decide : ¬ (1 : Int32) = 0)).1) k) ?_
          refine og (fun _ k => XS.aload X411.here hx rfl (hb hby at_432) rfl rfl k) ?_
          refine og (fun _ k => XS.bipush X411.here hx rfl (hb hby at_434) k) ?_
          refine og (fun _ k => XS.bipush X411.here hx rfl (hb hby at_436) k) ?_
          have q := ATN 17 (b' := (117 : Int32)) (x := (117 : Int32)) X411 e411 (by omega) ((g8 1 (by decide)).trans rfl) (by decide) (g := (own_fA m a b v d k0 k1 o x8 c0 c1 a11 a12 v13 a14 ms 438 (.val (.int (Int32.ofNat ow))) (.val (.int (Int32.ofNat (16 + ow)))) (.val (.int (Int32.ofNat (16 + ow + 10)))) (.val (.int (Int32.ofNat (own_wl n)))) (.val (.int (Int32.ofNat (mm)))) (.val (.int (Int32.ofNat (16 + ow + 10 + mm)))) (.val (.int (1 : Int32))) (.unset) (.unset) (.unset) (.unset) (.unset) (.unset) [(.int (117 : Int32)), (.int (17 : Int32)), (.ref ms)])) rfl (own_fAs.trans hml.symm) rfl rfl (hb hby at_438)
          obtain ⟨T412, X412, e412, st412⟩ := q
          refine og st412 ?_
          refine og (fun _ k => XS.ifNo X412.here hx rfl (hb hby at_441) rfl ((if0 _ _).trans (feq (by decide : ¬ (1 : Int32) = 0)).1) k) ?_
          refine og (fun _ k => XS.aload X412.here hx rfl (hb hby at_444) rfl rfl k) ?_
          refine og (fun _ k => XS.bipush X412.here hx rfl (hb hby at_446) k) ?_
          refine og (fun _ k => XS.bipush X412.here hx rfl (hb hby at_448) k) ?_
          have q := ATN 18 (b' := (108 : Int32)) (x := (108 : Int32)) X412 e412 (by omega) ((g8 2 (by decide)).trans rfl) (by decide) (g := (own_fA m a b v d k0 k1 o x8 c0 c1 a11 a12 v13 a14 ms 450 (.val (.int (Int32.ofNat ow))) (.val (.int (Int32.ofNat (16 + ow)))) (.val (.int (Int32.ofNat (16 + ow + 10)))) (.val (.int (Int32.ofNat (own_wl n)))) (.val (.int (Int32.ofNat (mm)))) (.val (.int (Int32.ofNat (16 + ow + 10 + mm)))) (.val (.int (1 : Int32))) (.unset) (.unset) (.unset) (.unset) (.unset) (.unset) [(.int (108 : Int32)), (.int (18 : Int32)), (.ref ms)])) rfl (own_fAs.trans hml.symm) rfl rfl (hb hby at_450)
          obtain ⟨T413, X413, e413, st413⟩ := q
          refine og st413 ?_
          refine og (fun _ k => XS.ifNo X413.here hx rfl (hb hby at_453) rfl ((if0 _ _).trans (feq (by decide : ¬ (1 : Int32) = 0)).1) k) ?_
          refine og (fun _ k => XS.aload X413.here hx rfl (hb hby at_456) rfl rfl k) ?_
          refine og (fun _ k => XS.bipush X413.here hx rfl (hb hby at_458) k) ?_
          refine og (fun _ k => XS.bipush X413.here hx rfl (hb hby at_460) k) ?_
          have q := ATN 19 (b' := (108 : Int32)) (x := (108 : Int32)) X413 e413 (by omega) ((g8 3 (by decide)).trans rfl) (by decide) (g := (own_fA m a b v d k0 k1 o x8 c0 c1 a11 a12 v13 a14 ms 462 (.val (.int (Int32.ofNat ow))) (.val (.int (Int32.ofNat (16 + ow)))) (.val (.int (Int32.ofNat (16 + ow + 10)))) (.val (.int (Int32.ofNat (own_wl n)))) (.val (.int (Int32.ofNat (mm)))) (.val (.int (Int32.ofNat (16 + ow + 10 + mm)))) (.val (.int (1 : Int32))) (.unset) (.unset) (.unset) (.unset) (.unset) (.unset) [(.int (108 : Int32)), (.int (19 : Int32)), (.ref ms)])) rfl (own_fAs.trans hml.symm) rfl rfl (hb hby at_462)
          obtain ⟨T414, X414, e414, st414⟩ := q
          refine og st414 ?_
          refine og (fun _ k => XS.ifNo X414.here hx rfl (hb hby at_465) rfl ((if0 _ _).trans (feq (by decide : ¬ (1 : Int32) = 0)).1) k) ?_
          refine og (fun _ k => XS.iconst X414.here hx rfl (hb hby at_468) k) ?_
          refine og (fun _ k => XS.goto X414.here hx rfl (pc0 := 469) (pc' := 485) rfl (hb hby at_469) (by decide) (by decide) k) ?_
          show OGo p e below _ T414 (own_fA m a b v d k0 k1 o x8 c0 c1 a11 a12 v13 a14 ms 485 (.val (.int (Int32.ofNat ow))) (.val (.int (Int32.ofNat (16 + ow)))) (.val (.int (Int32.ofNat (16 + ow + 10)))) (.val (.int (Int32.ofNat (own_wl n)))) (.val (.int (Int32.ofNat (mm)))) (.val (.int (Int32.ofNat (16 + ow + 10 + mm)))) (.val (.int (1 : Int32))) (.unset) (.unset) (.unset) (.unset) (.unset) (.unset) [(.int (1 : Int32))])
          exact K485  _ _ X414 N e414
        · show OGo p e below _ T364 (own_fA m a b v d k0 k1 o x8 c0 c1 a11 a12 v13 a14 ms 417 (.val (.int (Int32.ofNat ow))) (.val (.int (Int32.ofNat (16 + ow)))) (.val (.int (Int32.ofNat (16 + ow + 10)))) (.val (.int (Int32.ofNat (own_wl n)))) (.val (.int (Int32.ofNat (mm)))) (.val (.int (Int32.ofNat (16 + ow + 10 + mm)))) (.val (.int (1 : Int32))) (.unset) (.unset) (.unset) (.unset) (.unset) (.unset) [(.int x8)])
          refine og (fun _ k => XS.ifYes X364.here hx rfl (pc0 := 417) (pc' := 476) rfl (hb hby at_417) rfl ((if0 _ _).trans (teq (by rw [h8])).1) (by decide) (by decide) k) ?_
          refine og (fun _ k => XS.aload X364.here hx rfl (hb hby at_476) rfl rfl k) ?_
          refine og (fun _ k => XS.bipush X364.here hx rfl (hb hby at_478) k) ?_
          refine og (fun _ k => XS.iload X364.here hx rfl (hb hby at_480) rfl k) ?_
          have q := ATN 16 (b' := o.toInt8.toInt32) (x := o) X364 e364 (by omega) g8 (own_lo8 ho) (g := (own_fA m a b v d k0 k1 o x8 c0 c1 a11 a12 v13 a14 ms 482 (.val (.int (Int32.ofNat ow))) (.val (.int (Int32.ofNat (16 + ow)))) (.val (.int (Int32.ofNat (16 + ow + 10)))) (.val (.int (Int32.ofNat (own_wl n)))) (.val (.int (Int32.ofNat (mm)))) (.val (.int (Int32.ofNat (16 + ow + 10 + mm)))) (.val (.int (1 : Int32))) (.unset) (.unset) (.unset) (.unset) (.unset) (.unset) [(.int o), (.int (16 : Int32)), (.ref ms)])) rfl (own_fAs.trans hml.symm) rfl rfl (hb hby at_482)
          obtain ⟨T415, X415, e415, st415⟩ := q
          refine og st415 ?_
          show OGo p e below _ T415 (own_fA m a b v d k0 k1 o x8 c0 c1 a11 a12 v13 a14 ms 485 (.val (.int (Int32.ofNat ow))) (.val (.int (Int32.ofNat (16 + ow)))) (.val (.int (Int32.ofNat (16 + ow + 10)))) (.val (.int (Int32.ofNat (own_wl n)))) (.val (.int (Int32.ofNat (mm)))) (.val (.int (Int32.ofNat (16 + ow + 10 + mm)))) (.val (.int (1 : Int32))) (.unset) (.unset) (.unset) (.unset) (.unset) (.unset) [(.int (1 : Int32))])
          exact K485  _ _ X415 N e415
      show OGo p e below _ T347 (own_fA m a b v d k0 k1 o x8 c0 c1 a11 a12 v13 a14 ms 184 (.val (.int (Int32.ofNat ow))) (.val (.int (Int32.ofNat (16 + ow)))) (.val (.int (Int32.ofNat (16 + ow + 10)))) (.val (.int (Int32.ofNat (own_wl n)))) (.unset) (.unset) (.unset) (.unset) (.unset) (.unset) (.unset) (.unset) (.unset) [(.int (lcmpW v (0 : Int64))), (.int (Int32.ofNat (own_wl n)))])
      by_cases hv : v < 0
      case pos =>
        refine og (fun _ k => XS.ifNo X347.here hx rfl (hb hby at_184) rfl ((if0 _ _).trans (tlt ((lw_lt _ _).mpr hv)).2.1) k) ?_
        refine og (fun _ k => XS.iconst X347.here hx rfl (hb hby at_187) k) ?_
        refine og (fun _ k => XS.goto X347.here hx rfl (pc0 := 188) (pc' := 192) rfl (hb hby at_188) (by decide) (by decide) k) ?_
        show OGo p e below _ T347 (own_fA m a b v d k0 k1 o x8 c0 c1 a11 a12 v13 a14 ms 192 (.val (.int (Int32.ofNat ow))) (.val (.int (Int32.ofNat (16 + ow)))) (.val (.int (Int32.ofNat (16 + ow + 10)))) (.val (.int (Int32.ofNat (own_wl n)))) (.unset) (.unset) (.unset) (.unset) (.unset) (.unset) (.unset) (.unset) (.unset) [(.int (1 : Int32)), (.int (Int32.ofNat (own_wl n)))])
        exact K192 (1 : Int32) (by rw [own_sg, if_pos hv]; rfl) _ _ X347 N e347
      case neg =>
        refine og (fun _ k => XS.ifYes X347.here hx rfl (pc0 := 184) (pc' := 191) rfl (hb hby at_184) rfl ((if0 _ _).trans (flt (fun h => hv ((lw_lt _ _).mp h))).2.1) (by decide) (by decide) k) ?_
        refine og (fun _ k => XS.iconst X347.here hx rfl (hb hby at_191) k) ?_
        show OGo p e below _ T347 (own_fA m a b v d k0 k1 o x8 c0 c1 a11 a12 v13 a14 ms 192 (.val (.int (Int32.ofNat ow))) (.val (.int (Int32.ofNat (16 + ow)))) (.val (.int (Int32.ofNat (16 + ow + 10)))) (.val (.int (Int32.ofNat (own_wl n)))) (.unset) (.unset) (.unset) (.unset) (.unset) (.unset) (.unset) (.unset) (.unset) [(.int (0 : Int32)), (.int (Int32.ofNat (own_wl n)))])
        exact K192 (0 : Int32) (by rw [own_sg, if_neg hv]; rfl) _ _ X347 N e347
    rcases hx8 with ⟨h8, h9, g8⟩ | ⟨h8, h9, g8⟩
    · subst h9
      show OGo p e below _ T (own_fA m a b v d k0 k1 o x8 c0 c1 a11 a12 v13 a14 ms 149 (.unset) (.unset) (.unset) (.unset) (.unset) (.unset) (.unset) (.unset) (.unset) (.unset) (.unset) (.unset) (.unset) [(.int x8)])
      refine og (fun _ k => XS.ifNo X.here hx rfl (hb hby at_149) rfl ((if0 _ _).trans (feq (by rw [h8]; decide)).1) k) ?_
      refine og (fun _ k => XS.iconst X.here hx rfl (hb hby at_152) k) ?_
      refine og (fun _ k => XS.goto X.here hx rfl (pc0 := 153) (pc' := 157) rfl (hb hby at_153) (by decide) (by decide) k) ?_
      show OGo p e below _ T (own_fA m a b v d k0 k1 o x8 c0 c1 a11 a12 v13 a14 ms 157 (.unset) (.unset) (.unset) (.unset) (.unset) (.unset) (.unset) (.unset) (.unset) (.unset) (.unset) (.unset) (.unset) [(.int (4 : Int32))])
      exact K157  _ _ X N eT
    · subst h9
      show OGo p e below _ T (own_fA m a b v d k0 k1 o x8 c0 c1 a11 a12 v13 a14 ms 149 (.unset) (.unset) (.unset) (.unset) (.unset) (.unset) (.unset) (.unset) (.unset) (.unset) (.unset) (.unset) (.unset) [(.int x8)])
      refine og (fun _ k => XS.ifYes X.here hx rfl (pc0 := 149) (pc' := 156) rfl (hb hby at_149) rfl ((if0 _ _).trans (teq (by rw [h8])).1) (by decide) (by decide) k) ?_
      refine og (fun _ k => XS.iconst X.here hx rfl (hb hby at_156) k) ?_
      show OGo p e below _ T (own_fA m a b v d k0 k1 o x8 c0 c1 a11 a12 v13 a14 ms 157 (.unset) (.unset) (.unset) (.unset) (.unset) (.unset) (.unset) (.unset) (.unset) (.unset) (.unset) (.unset) (.unset) [(.int (1 : Int32))])
      exact K157  _ _ X N eT
  by_cases qn : (((b.toUInt32 >>> ((8 : Int32) &&& 31).toUInt32).toInt32) &&& (1 : Int32)) = 0
  case pos =>
    refine og (fun _ k => XS.ifYes X0.here hx rfl (pc0 := 33) (pc' := 40) rfl (hb hby at_33) rfl ((if0 _ _).trans (teq qn).1) (by decide) (by decide) k) ?_
    refine og (fun _ k => XS.iconst X0.here hx rfl (hb hby at_40) k) ?_
    refine og (fun _ k => XS.istore X0.here hx rfl (hb hby at_41) rfl (l' := #[.val (.int a), .val (.int b), .val (.long v), .second, .val (.int d), .val (.int k0), .val (.int k1), .val (.int o), .val (.int (0 : Int32)), .unset, .unset, .unset, .unset, .unset, .unset, .unset, .unset, .unset, .unset, .unset, .unset, .unset, .unset, .unset, .unset, .unset, .unset, .unset, .unset]) rfl k) ?_
    refine og (fun _ k => XS.iload X0.here hx rfl (hb hby at_43) rfl k) ?_
    refine og (fun _ k => XS.sipush X0.here hx rfl (hb hby at_45) k) ?_
    refine og (fun _ k => XS.iand X0.here hx rfl (hb hby at_48) rfl k) ?_
    refine og (fun _ k => XS.i2c X0.here hx rfl (hb hby at_49) rfl k) ?_
    show OGo p e below _ s₁ (mkF m 50 #[.val (.int a), .val (.int b), .val (.long v), .second, .val (.int d), .val (.int k0), .val (.int k1), .val (.int o), .val (.int (0 : Int32)), .unset, .unset, .unset, .unset, .unset, .unset, .unset, .unset, .unset, .unset, .unset, .unset, .unset, .unset, .unset, .unset, .unset, .unset, .unset, .unset] [(.int ((d &&& (255 : Int32)).toUInt32.toUInt16.toUInt32.toInt32))])
    rw [i2c_mask]
    show OGo p e below _ s₁ (mkF m 50 #[.val (.int a), .val (.int b), .val (.long v), .second, .val (.int d), .val (.int k0), .val (.int k1), .val (.int o), .val (.int (0 : Int32)), .unset, .unset, .unset, .unset, .unset, .unset, .unset, .unset, .unset, .unset, .unset, .unset, .unset, .unset, .unset, .unset, .unset, .unset, .unset, .unset] [(.int (d &&& (255 : Int32)))])
    rw [ec0]
    refine og (fun _ k => XS.istore X0.here hx rfl (hb hby at_50) rfl (l' := #[.val (.int a), .val (.int b), .val (.long v), .second, .val (.int d), .val (.int k0), .val (.int k1), .val (.int o), .val (.int (0 : Int32)), .val (.int c0), .unset, .unset, .unset, .unset, .unset, .unset, .unset, .unset, .unset, .unset, .unset, .unset, .unset, .unset, .unset, .unset, .unset, .unset, .unset]) rfl k) ?_
    refine og (fun _ k => XS.iload X0.here hx rfl (hb hby at_52) rfl k) ?_
    refine og (fun _ k => XS.bipush X0.here hx rfl (hb hby at_54) k) ?_
    refine og (fun _ k => XS.iushr X0.here hx rfl (hb hby at_56) rfl k) ?_
    refine og (fun _ k => XS.sipush X0.here hx rfl (hb hby at_57) k) ?_
    refine og (fun _ k => XS.iand X0.here hx rfl (hb hby at_60) rfl k) ?_
    refine og (fun _ k => XS.i2c X0.here hx rfl (hb hby at_61) rfl k) ?_
    show OGo p e below _ s₁ (mkF m 62 #[.val (.int a), .val (.int b), .val (.long v), .second, .val (.int d), .val (.int k0), .val (.int k1), .val (.int o), .val (.int (0 : Int32)), .val (.int c0), .unset, .unset, .unset, .unset, .unset, .unset, .unset, .unset, .unset, .unset, .unset, .unset, .unset, .unset, .unset, .unset, .unset, .unset, .unset] [(.int ((((d.toUInt32 >>> ((8 : Int32) &&& 31).toUInt32).toInt32) &&& (255 : Int32)).toUInt32.toUInt16.toUInt32.toInt32))])
    rw [i2c_mask]
    show OGo p e below _ s₁ (mkF m 62 #[.val (.int a), .val (.int b), .val (.long v), .second, .val (.int d), .val (.int k0), .val (.int k1), .val (.int o), .val (.int (0 : Int32)), .val (.int c0), .unset, .unset, .unset, .unset, .unset, .unset, .unset, .unset, .unset, .unset, .unset, .unset, .unset, .unset, .unset, .unset, .unset, .unset, .unset] [(.int (((d.toUInt32 >>> ((8 : Int32) &&& 31).toUInt32).toInt32) &&& (255 : Int32)))])
    rw [ec1]
    refine og (fun _ k => XS.istore X0.here hx rfl (hb hby at_62) rfl (l' := #[.val (.int a), .val (.int b), .val (.long v), .second, .val (.int d), .val (.int k0), .val (.int k1), .val (.int o), .val (.int (0 : Int32)), .val (.int c0), .val (.int c1), .unset, .unset, .unset, .unset, .unset, .unset, .unset, .unset, .unset, .unset, .unset, .unset, .unset, .unset, .unset, .unset, .unset, .unset]) rfl k) ?_
    obtain ⟨T416, h416, X416, e416, E416, A416, D416, UN416, st416⟩ := newO X0 hx hZ hown (own_g hw 0 rfl) (own_g hw 1 rfl) (own_g hw 2 rfl) e0 (g := (mkF m 64 #[.val (.int a), .val (.int b), .val (.long v), .second, .val (.int d), .val (.int k0), .val (.int k1), .val (.int o), .val (.int (0 : Int32)), .val (.int c0), .val (.int c1), .unset, .unset, .unset, .unset, .unset, .unset, .unset, .unset, .unset, .unset, .unset, .unset, .unset, .unset, .unset, .unset, .unset, .unset] [])) rfl (hb hby at_64) (by decide) (by decide)
    obtain ⟨b416, g416⟩ : ∃ z, z = h0.size := ⟨_, rfl⟩
    rw [← g416] at A416 D416 UN416 st416
    have sz_b416 : h0.size ≤ b416 := Nat.le_trans (Keep.refl h0 []).1 (Nat.le_of_eq g416.symm)
    have KK416 : Keep h0 h416 [] := (Keep.refl h0 []).ext E416
    have H416 := CHv.ext E416 H0
    have R416 := CHr.trans R0 (CHr.ext E416 H0)
    have F416_coder : Fld Z h416 b416 "java/lang/String" "coder" "B" (.int (0 : Int32)) := D416 (Or.inr (own_g hw 27 rfl)) (ty := .byte) (by decide)
    have F416_value : Fld Z h416 b416 "java/lang/String" "value" "[B" .null := D416 (Or.inr (own_g hw 29 rfl)) (ty := (.array .byte)) (by decide)
    refine og st416 ?_
    refine og (fun _ k => XS.dup X416.here hx rfl (hb hby at_67) rfl rfl k) ?_
    refine og (fun _ k => XS.iconst X416.here hx rfl (hb hby at_68) k) ?_
    obtain ⟨T417, h417, k417, X417, e417, E417, A417, AE417, st417⟩ := newPE X416 hx hZ (own_g hw 3 rfl) e416 (g := (mkF m 69 #[.val (.int a), .val (.int b), .val (.long v), .second, .val (.int d), .val (.int k0), .val (.int k1), .val (.int o), .val (.int (0 : Int32)), .val (.int c0), .val (.int c1), .unset, .unset, .unset, .unset, .unset, .unset, .unset, .unset, .unset, .unset, .unset, .unset, .unset, .unset, .unset, .unset, .unset, .unset] [(.int (2 : Int32)), (.ref b416), (.ref b416)])) rfl (hb hby at_69) rfl (by decide) (cap := 2) (by decide) (by decide) (by decide) (by decide) (ad := "[C") (by decide)
    obtain ⟨b417, g417⟩ : ∃ z, z = h416.size := ⟨_, rfl⟩
    rw [← g417] at A417 AE417 st417
    have sz_b417 : h0.size ≤ b417 := Nat.le_trans KK416.1 (Nat.le_of_eq g417.symm)
    have KK417 : Keep h0 h417 [] := KK416.ext E417
    have H417 := CHv.ext E417 H416
    have R417 := CHr.trans R416 (CHr.ext E417 H416)
    have V417 : Arv Z h417 b417 k417 .char (2 : Int32) [(.int (0 : Int32)), (.int (0 : Int32))] (.int (0 : Int32)) := (Arv.new A417 (by decide)).pad (pad_rep [] (.int (0 : Int32)) 2)
    refine og st417 ?_
    refine og (fun _ k => XS.dup X417.here hx rfl (hb hby at_71) rfl rfl k) ?_
    refine og (fun _ k => XS.iconst X417.here hx rfl (hb hby at_72) k) ?_
    refine og (fun _ k => XS.iload X417.here hx rfl (hb hby at_73) rfl k) ?_
    obtain ⟨T418, h418, X418, e418, W418, Vq418, st418⟩ := castoreV X417 hx hZ e417 V417 (j := (0 : Int32)) ⟨by decide, by decide⟩ (by decide) (g := (mkF m 75 #[.val (.int a), .val (.int b), .val (.long v), .second, .val (.int d), .val (.int k0), .val (.int k1), .val (.int o), .val (.int (0 : Int32)), .val (.int c0), .val (.int c1), .unset, .unset, .unset, .unset, .unset, .unset, .unset, .unset, .unset, .unset, .unset, .unset, .unset, .unset, .unset, .unset, .unset, .unset] [(.int k0), (.int (0 : Int32)), (.ref b417), (.ref b417), (.ref b416), (.ref b416)])) rfl rfl (hb hby at_75)
    have q419 := (Safe.ext E417 H416 (Safe.new (Nat.le_of_eq g417.symm)))
    have N418 := Fr.snoc X418 N0 (Nat.le_trans Z0 sz_b417)
    have KK418 : Keep h0 h418 [] := KK417.wr W418 (Or.inr sz_b417)
    have H418 := CHv.wr W418 q419 H417
    have R418 := CHr.trans R417 (CHr.wr W418 q419 H417)
    have V418 : Arv Z h418 b417 k417 .char (2 : Int32) [(.int (nar .char k0)), (.int (0 : Int32))] (.int (0 : Int32)) := Vq418
    refine og st418 ?_
    refine og (fun _ k => XS.dup X418.here hx rfl (hb hby at_76) rfl rfl k) ?_
    refine og (fun _ k => XS.iconst X418.here hx rfl (hb hby at_77) k) ?_
    refine og (fun _ k => XS.iload X418.here hx rfl (hb hby at_78) rfl k) ?_
    obtain ⟨T420, h420, X420, e420, W420, Vq420, st420⟩ := castoreV X418 hx hZ e418 V418 (j := (1 : Int32)) ⟨by decide, by decide⟩ (show (1 : Int32).toNatClampNeg < 2 by decide) (g := (mkF m 80 #[.val (.int a), .val (.int b), .val (.long v), .second, .val (.int d), .val (.int k0), .val (.int k1), .val (.int o), .val (.int (0 : Int32)), .val (.int c0), .val (.int c1), .unset, .unset, .unset, .unset, .unset, .unset, .unset, .unset, .unset, .unset, .unset, .unset, .unset, .unset, .unset, .unset, .unset, .unset] [(.int k1), (.int (1 : Int32)), (.ref b417), (.ref b417), (.ref b416), (.ref b416)])) rfl rfl (hb hby at_80)
    have N420 := Fr.snoc X420 N418 (Nat.le_trans Z0 sz_b417)
    have KK420 : Keep h0 h420 [] := KK418.wr W420 (Or.inr sz_b417)
    have H420 := CHv.wr W420 (Safe.wr W418 q419 H417 q419) H418
    have R420 := CHr.trans R418 (CHr.wr W420 (Safe.wr W418 q419 H417 q419) H418)
    have V420 : Arv Z h420 b417 k417 .char (2 : Int32) [(.int (nar .char k0)), (.int (nar .char k1))] (.int (0 : Int32)) := Vq420
    refine og st420 ?_
    have Vc421 : Arv Z h420 b417 k417 .char (Int32.ofNat [k0, k1].length) ([k0, k1].map Value.int) (.int (0 : Int32)) := by have q := V420; rw [own_narc hk0, own_narc hk1] at q; exact q
    have q422 := ((((O.ext E416).ext E417).wr W418 (Nat.le_trans Z0 sz_b417)).wr W420 (Nat.le_trans Z0 sz_b417))
    have ne423 : b416 ≠ b417 := (Nat.ne_of_lt (Nat.lt_of_lt_of_le F416_coder.lt (Nat.le_of_eq g417.symm)))
    have q424 := (((F416_coder.ext E417).other W418 (Or.inl ne423)).other W420 (Or.inl ne423))
    have q425 := (((F416_value.ext E417).other W418 (Or.inl ne423)).other W420 (Or.inl ne423))
    have q426 := (Safe.wr W420 (Safe.wr W418 q419 H417 q419) H418 (Safe.wr W418 q419 H417 (Safe.ext E417 H416 (Safe.ext E416 H0 (Safe.new (Nat.le_of_eq g416.symm))))))
    obtain ⟨v427, T427, L427, X427, hQ427, st427⟩ := icall X420 hx hZ rfl hown (own_g hw 4 rfl) (own_g hw 5 rfl) (own_g hw 2 rfl) (own_g hw 6 rfl) (by decide) (W := 1) (rm_new1 l Z a0 hw [] b416 b417 k417 [k0, k1] zc wf n0 h420 SS' q422 Vc421 (own_ok2 hk0 hk1) (show 2 < 2147483648 by decide) (show 2 ≤ 2 by decide) (((A416.ext E417).wr W418).wr W420) q424 q425 (Nat.le_trans Z0 sz_b416) (show ¬ Int32.ofNat 2 = 0 by decide) (Ne.symm ne423)) e420 (by decide) (by decide) (by decide) (by decide) (g := (mkF m 81 #[.val (.int a), .val (.int b), .val (.long v), .second, .val (.int d), .val (.int k0), .val (.int k1), .val (.int o), .val (.int (0 : Int32)), .val (.int c0), .val (.int c1), .unset, .unset, .unset, .unset, .unset, .unset, .unset, .unset, .unset, .unset, .unset, .unset, .unset, .unset, .unset, .unset, .unset, .unset] [(.ref b417), (.ref b416), (.ref b416)])) rfl (by rw [hml]; rfl) (a := b416) (argsL := [(.ref b417)]) (rest := [(.ref b416)]) opd_40 rfl rfl rfl (by show 2 * 0 + _ ≤ _; exact Nat.le_of_eq rfl) (hb hby at_81)
    obtain ⟨rfl, N427, K427, r427, kr427, sr427, I427⟩ := hQ427
    have NN427 := Fr.app N420 N427
    have KK427 : Keep h0 T427.heap [] := KK420.trans K427 (allS (Or.inr sz_b416) all0)
    have H427 := CHv.keep K427 (sfS q426 sf0) H420
    have R427 := CHr.trans R420 (CHr.keep K427 (sfS q426 sf0) H420)
    have sz_r427 : h0.size ≤ r427 := Nat.le_trans KK420.1 sr427
    refine og st427 ?_
    obtain ⟨IE427, IC427, IF427, IV427⟩ := I427
    refine og (fun _ k => XS.astore X427.here hx rfl (hb hby at_84) rfl rfl (l' := #[.val (.int a), .val (.int b), .val (.long v), .second, .val (.int d), .val (.int k0), .val (.int k1), .val (.int o), .val (.int (0 : Int32)), .val (.int c0), .val (.int c1), .val (.ref b416), .unset, .unset, .unset, .unset, .unset, .unset, .unset, .unset, .unset, .unset, .unset, .unset, .unset, .unset, .unset, .unset, .unset]) rfl k) ?_
    obtain ⟨T428, h428, X428, e428, E428, A428, D428, UN428, st428⟩ := newO X427 hx hZ hown (own_g hw 0 rfl) (own_g hw 1 rfl) (own_g hw 2 rfl) rfl (g := (mkF m 86 #[.val (.int a), .val (.int b), .val (.long v), .second, .val (.int d), .val (.int k0), .val (.int k1), .val (.int o), .val (.int (0 : Int32)), .val (.int c0), .val (.int c1), .val (.ref b416), .unset, .unset, .unset, .unset, .unset, .unset, .unset, .unset, .unset, .unset, .unset, .unset, .unset, .unset, .unset, .unset, .unset] [])) rfl (hb hby at_86) (by decide) (by decide)
    obtain ⟨b428, g428⟩ : ∃ z, z = T427.heap.size := ⟨_, rfl⟩
    rw [← g428] at A428 D428 UN428 st428
    have sz_b428 : h0.size ≤ b428 := Nat.le_trans KK427.1 (Nat.le_of_eq g428.symm)
    have KK428 : Keep h0 h428 [] := KK427.ext E428
    have H428 := CHv.ext E428 H427
    have R428 := CHr.trans R427 (CHr.ext E428 H427)
    have F428_coder : Fld Z h428 b428 "java/lang/String" "coder" "B" (.int (0 : Int32)) := D428 (Or.inr (own_g hw 27 rfl)) (ty := .byte) (by decide)
    have F428_value : Fld Z h428 b428 "java/lang/String" "value" "[B" .null := D428 (Or.inr (own_g hw 29 rfl)) (ty := (.array .byte)) (by decide)
    refine og st428 ?_
    refine og (fun _ k => XS.dup X428.here hx rfl (hb hby at_89) rfl rfl k) ?_
    refine og (fun _ k => XS.iconst X428.here hx rfl (hb hby at_90) k) ?_
    obtain ⟨T429, h429, k429, X429, e429, E429, A429, AE429, st429⟩ := newPE X428 hx hZ (own_g hw 3 rfl) e428 (g := (mkF m 91 #[.val (.int a), .val (.int b), .val (.long v), .second, .val (.int d), .val (.int k0), .val (.int k1), .val (.int o), .val (.int (0 : Int32)), .val (.int c0), .val (.int c1), .val (.ref b416), .unset, .unset, .unset, .unset, .unset, .unset, .unset, .unset, .unset, .unset, .unset, .unset, .unset, .unset, .unset, .unset, .unset] [(.int (2 : Int32)), (.ref b428), (.ref b428)])) rfl (hb hby at_91) rfl (by decide) (cap := 2) (by decide) (by decide) (by decide) (by decide) (ad := "[C") (by decide)
    obtain ⟨b429, g429⟩ : ∃ z, z = h428.size := ⟨_, rfl⟩
    rw [← g429] at A429 AE429 st429
    have sz_b429 : h0.size ≤ b429 := Nat.le_trans KK428.1 (Nat.le_of_eq g429.symm)
    have KK429 : Keep h0 h429 [] := KK428.ext E429
    have H429 := CHv.ext E429 H428
    have R429 := CHr.trans R428 (CHr.ext E429 H428)
    have V429 : Arv Z h429 b429 k429 .char (2 : Int32) [(.int (0 : Int32)), (.int (0 : Int32))] (.int (0 : Int32)) := (Arv.new A429 (by decide)).pad (pad_rep [] (.int (0 : Int32)) 2)
    refine og st429 ?_
    refine og (fun _ k => XS.dup X429.here hx rfl (hb hby at_93) rfl rfl k) ?_
    refine og (fun _ k => XS.iconst X429.here hx rfl (hb hby at_94) k) ?_
    refine og (fun _ k => XS.iload X429.here hx rfl (hb hby at_95) rfl k) ?_
    obtain ⟨T430, h430, X430, e430, W430, Vq430, st430⟩ := castoreV X429 hx hZ e429 V429 (j := (0 : Int32)) ⟨by decide, by decide⟩ (by decide) (g := (mkF m 97 #[.val (.int a), .val (.int b), .val (.long v), .second, .val (.int d), .val (.int k0), .val (.int k1), .val (.int o), .val (.int (0 : Int32)), .val (.int c0), .val (.int c1), .val (.ref b416), .unset, .unset, .unset, .unset, .unset, .unset, .unset, .unset, .unset, .unset, .unset, .unset, .unset, .unset, .unset, .unset, .unset] [(.int c0), (.int (0 : Int32)), (.ref b429), (.ref b429), (.ref b428), (.ref b428)])) rfl rfl (hb hby at_97)
    have q431 := (Safe.ext E429 H428 (Safe.new (Nat.le_of_eq g429.symm)))
    have N430 := Fr.snoc X430 NN427 (Nat.le_trans Z0 sz_b429)
    have KK430 : Keep h0 h430 [] := KK429.wr W430 (Or.inr sz_b429)
    have H430 := CHv.wr W430 q431 H429
    have R430 := CHr.trans R429 (CHr.wr W430 q431 H429)
    have V430 : Arv Z h430 b429 k429 .char (2 : Int32) [(.int (nar .char c0)), (.int (0 : Int32))] (.int (0 : Int32)) := Vq430
    refine og st430 ?_
    refine og (fun _ k => XS.dup X430.here hx rfl (hb hby at_98) rfl rfl k) ?_
    refine og (fun _ k => XS.iconst X430.here hx rfl (hb hby at_99) k) ?_
    refine og (fun _ k => XS.iload X430.here hx rfl (hb hby at_100) rfl k) ?_
    obtain ⟨T432, h432, X432, e432, W432, Vq432, st432⟩ := castoreV X430 hx hZ e430 V430 (j := (1 : Int32)) ⟨by decide, by decide⟩ (show (1 : Int32).toNatClampNeg < 2 by decide) (g := (mkF m 102 #[.val (.int a), .val (.int b), .val (.long v), .second, .val (.int d), .val (.int k0), .val (.int k1), .val (.int o), .val (.int (0 : Int32)), .val (.int c0), .val (.int c1), .val (.ref b416), .unset, .unset, .unset, .unset, .unset, .unset, .unset, .unset, .unset, .unset, .unset, .unset, .unset, .unset, .unset, .unset, .unset] [(.int c1), (.int (1 : Int32)), (.ref b429), (.ref b429), (.ref b428), (.ref b428)])) rfl rfl (hb hby at_102)
    have N432 := Fr.snoc X432 N430 (Nat.le_trans Z0 sz_b429)
    have KK432 : Keep h0 h432 [] := KK430.wr W432 (Or.inr sz_b429)
    have H432 := CHv.wr W432 (Safe.wr W430 q431 H429 q431) H430
    have R432 := CHr.trans R430 (CHr.wr W432 (Safe.wr W430 q431 H429 q431) H430)
    have V432 : Arv Z h432 b429 k429 .char (2 : Int32) [(.int (nar .char c0)), (.int (nar .char c1))] (.int (0 : Int32)) := Vq432
    refine og st432 ?_
    have Vc433 : Arv Z h432 b429 k429 .char (Int32.ofNat [c0, c1].length) ([c0, c1].map Value.int) (.int (0 : Int32)) := by have q := V432; rw [own_narc hc0, own_narc hc1] at q; exact q
    have q434 := (((((q422.keep K427 (allS (Nat.le_trans Z0 sz_b416) all0)).ext E428).ext E429).wr W430 (Nat.le_trans Z0 sz_b429)).wr W432 (Nat.le_trans Z0 sz_b429))
    have ne435 : b428 ≠ b429 := (Nat.ne_of_lt (Nat.lt_of_lt_of_le F428_coder.lt (Nat.le_of_eq g429.symm)))
    have q436 := (((F428_coder.ext E429).other W430 (Or.inl ne435)).other W432 (Or.inl ne435))
    have q437 := (((F428_value.ext E429).other W430 (Or.inl ne435)).other W432 (Or.inl ne435))
    have q438 := (Safe.wr W432 (Safe.wr W430 q431 H429 q431) H430 (Safe.wr W430 q431 H429 (Safe.ext E429 H428 (Safe.ext E428 H427 (Safe.new (Nat.le_of_eq g428.symm))))))
    obtain ⟨v439, T439, L439, X439, hQ439, st439⟩ := icall X432 hx hZ rfl hown (own_g hw 4 rfl) (own_g hw 5 rfl) (own_g hw 2 rfl) (own_g hw 6 rfl) (by decide) (W := 1) (rm_new1 l Z a0 hw [] b428 b429 k429 [c0, c1] zc wf n0 h432 SS' q434 Vc433 (own_ok2 hc0 hc1) (show 2 < 2147483648 by decide) (show 2 ≤ 2 by decide) (((A428.ext E429).wr W430).wr W432) q436 q437 (Nat.le_trans Z0 sz_b428) (show ¬ Int32.ofNat 2 = 0 by decide) (Ne.symm ne435)) e432 (by decide) (by decide) (by decide) (by decide) (g := (mkF m 103 #[.val (.int a), .val (.int b), .val (.long v), .second, .val (.int d), .val (.int k0), .val (.int k1), .val (.int o), .val (.int (0 : Int32)), .val (.int c0), .val (.int c1), .val (.ref b416), .unset, .unset, .unset, .unset, .unset, .unset, .unset, .unset, .unset, .unset, .unset, .unset, .unset, .unset, .unset, .unset, .unset] [(.ref b429), (.ref b428), (.ref b428)])) rfl (by rw [hml]; rfl) (a := b428) (argsL := [(.ref b429)]) (rest := [(.ref b428)]) opd_40 rfl rfl rfl (by show 2 * 0 + _ ≤ _; exact Nat.le_of_eq rfl) (hb hby at_103)
    obtain ⟨rfl, N439, K439, r439, kr439, sr439, I439⟩ := hQ439
    have NN439 := Fr.app N432 N439
    have KK439 : Keep h0 T439.heap [] := KK432.trans K439 (allS (Or.inr sz_b428) all0)
    have H439 := CHv.keep K439 (sfS q438 sf0) H432
    have R439 := CHr.trans R432 (CHr.keep K439 (sfS q438 sf0) H432)
    have sz_r439 : h0.size ≤ r439 := Nat.le_trans KK432.1 sr439
    refine og st439 ?_
    obtain ⟨IE439, IC439, IF439, IV439⟩ := I439
    refine og (fun _ k => XS.astore X439.here hx rfl (hb hby at_106) rfl rfl (l' := #[.val (.int a), .val (.int b), .val (.long v), .second, .val (.int d), .val (.int k0), .val (.int k1), .val (.int o), .val (.int (0 : Int32)), .val (.int c0), .val (.int c1), .val (.ref b416), .val (.ref b428), .unset, .unset, .unset, .unset, .unset, .unset, .unset, .unset, .unset, .unset, .unset, .unset, .unset, .unset, .unset, .unset]) rfl k) ?_
    refine og (fun _ k => XS.iload X439.here hx rfl (hb hby at_108) rfl k) ?_
    refine og (fun _ k => XS.ifYes X439.here hx rfl (pc0 := 110) (pc' := 117) rfl (hb hby at_110) rfl ((if0 _ _).trans (teq (rfl : (0 : Int32) = 0)).1) (by decide) (by decide) k) ?_
    refine og (fun _ k => XS.iload X439.here hx rfl (hb hby at_117) rfl k) ?_
    have q440 := (q434.keep K439 (allS (Nat.le_trans Z0 sz_b428) all0))
    obtain ⟨v441, T441, L441, X441, hQ441, st441⟩ := scall X439 hx hZ hown (own_g hw 30 rfl) (own_g hw 31 rfl) (own_g hw 2 rfl) (own_g hw 32 rfl) (by decide) (W := 0) (rm_valueOf l Z a0 hw [] o zc wf n0 T439.heap SS' q440 ho.2) rfl (by decide) (by decide) (by decide) (by decide) (g := (mkF m 119 #[.val (.int a), .val (.int b), .val (.long v), .second, .val (.int d), .val (.int k0), .val (.int k1), .val (.int o), .val (.int (0 : Int32)), .val (.int c0), .val (.int c1), .val (.ref b416), .val (.ref b428), .unset, .unset, .unset, .unset, .unset, .unset, .unset, .unset, .unset, .unset, .unset, .unset, .unset, .unset, .unset, .unset] [(.int o)])) rfl (by rw [hml]; rfl) (argsL := [(.int o)]) (rest := []) opd_41 rfl rfl rfl (by show 2 * 0 + _ ≤ _; exact Nat.le_of_eq rfl) (hb hby at_119)
    obtain ⟨a441, r441, kr441, rfl, sa441, sr441, N441, K441, I441⟩ := hQ441
    have NN441 := Fr.app NN439 N441
    have KK441 : Keep h0 T441.heap [] := KK439.trans K441 all0
    have H441 := CHv.keep K441 sf0 H439
    have R441 := CHr.trans R439 (CHr.keep K441 sf0 H439)
    have sz_a441 : h0.size ≤ a441 := Nat.le_trans KK439.1 sa441
    have sz_r441 : h0.size ≤ r441 := Nat.le_trans KK439.1 sr441
    refine og st441 ?_
    obtain ⟨IE441, IC441, IF441, IV441⟩ := I441
    refine og (fun _ k => XS.astore X441.here hx rfl (hb hby at_122) rfl rfl (l' := #[.val (.int a), .val (.int b), .val (.long v), .second, .val (.int d), .val (.int k0), .val (.int k1), .val (.int o), .val (.int (0 : Int32)), .val (.int c0), .val (.int c1), .val (.ref b416), .val (.ref b428), .val (.ref a441), .unset, .unset, .unset, .unset, .unset, .unset, .unset, .unset, .unset, .unset, .unset, .unset, .unset, .unset, .unset]) rfl k) ?_
    obtain ⟨T442, h442, X442, e442, E442, A442, D442, UN442, st442⟩ := newO X441 hx hZ hown (own_g hw 44 rfl) (own_g hw 45 rfl) (own_g hw 46 rfl) rfl (g := (mkF m 124 #[.val (.int a), .val (.int b), .val (.long v), .second, .val (.int d), .val (.int k0), .val (.int k1), .val (.int o), .val (.int (0 : Int32)), .val (.int c0), .val (.int c1), .val (.ref b416), .val (.ref b428), .val (.ref a441), .unset, .unset, .unset, .unset, .unset, .unset, .unset, .unset, .unset, .unset, .unset, .unset, .unset, .unset, .unset] [])) rfl (hb hby at_124) (by decide) (by decide)
    obtain ⟨b442, g442⟩ : ∃ z, z = T441.heap.size := ⟨_, rfl⟩
    rw [← g442] at A442 D442 UN442 st442
    have sz_b442 : h0.size ≤ b442 := Nat.le_trans KK441.1 (Nat.le_of_eq g442.symm)
    have KK442 : Keep h0 h442 [] := KK441.ext E442
    have H442 := CHv.ext E442 H441
    have R442 := CHr.trans R441 (CHr.ext E442 H441)
    have F442_leaseKey : Fld Z h442 b442 "com/example/drain_shards/drainshards/Lease" "leaseKey" "Ljava/lang/String;" .null := D442 (Or.inr (own_g hw 60 rfl)) (ty := (.object "java/lang/String")) (by decide)
    have F442_leaseOwner : Fld Z h442 b442 "com/example/drain_shards/drainshards/Lease" "leaseOwner" "Ljava/lang/String;" .null := D442 (Or.inr (own_g hw 62 rfl)) (ty := (.object "java/lang/String")) (by decide)
    have F442_leaseCounter : Fld Z h442 b442 "com/example/drain_shards/drainshards/Lease" "leaseCounter" "J" (.long (0 : Int64)) := D442 (Or.inr (own_g hw 64 rfl)) (ty := .long) (by decide)
    have F442_checkpoint : Fld Z h442 b442 "com/example/drain_shards/drainshards/Lease" "checkpoint" "Ljava/lang/String;" .null := D442 (Or.inr (own_g hw 67 rfl)) (ty := (.object "java/lang/String")) (by decide)
    refine og st442 ?_
    refine og (fun _ k => XS.dup X442.here hx rfl (hb hby at_127) rfl rfl k) ?_
    refine og (fun _ k => XS.aload X442.here hx rfl (hb hby at_128) rfl rfl k) ?_
    refine og (fun _ k => XS.aload X442.here hx rfl (hb hby at_130) rfl rfl k) ?_
    refine og (fun _ k => XS.lloadN X442.here hx rfl (hb hby at_132) rfl k) ?_
    refine og (fun _ k => XS.aload X442.here hx rfl (hb hby at_133) rfl rfl k) ?_
    have q443 := (((((((IE427.ext E428).ext E429).wr W430).wr W432).keep K439).keep K441).ext E442)
    obtain ⟨v444, T444, L444, kk444, X444, hS444, hk444, hZ444, hown444, CR444, hQ444, st444⟩ := icallH X442 hx hZ rfl hown (own_hEL hw) hS0 (Nat.le_trans (Nat.le_trans (Nat.le_trans (Nat.le_trans (Nat.le_trans (Nat.le_trans (Nat.le_trans (Nat.le_trans (Nat.le_trans (Nat.le_trans (Nat.le_trans (Nat.le_trans (Nat.zero_le _) E416.1) E417.1) (Nat.le_of_eq W418.size.symm)) (Nat.le_of_eq W420.size.symm)) K427.1) E428.1) E429.1) (Nat.le_of_eq W430.size.symm)) (Nat.le_of_eq W432.size.symm)) K439.1) K441.1) E442.1) H442 (own_g hw 47 rfl) (own_g hw 48 rfl) (own_g hw 46 rfl) (own_g hw 49 rfl) (by decide) (W := 1) (rm_leO l Z a0 hw [] b442 b416 a441 b428 v zc wf n0 h442 SS' ((q440.keep K441 all0).ext E442) A442 (Nat.le_trans Z0 sz_b442) q443 ((IE439.keep K441).ext E442) F442_leaseKey F442_leaseOwner F442_leaseCounter F442_checkpoint) e442 (by decide) (by decide) (by decide) (by decide) (g := (mkF m 135 #[.val (.int a), .val (.int b), .val (.long v), .second, .val (.int d), .val (.int k0), .val (.int k1), .val (.int o), .val (.int (0 : Int32)), .val (.int c0), .val (.int c1), .val (.ref b416), .val (.ref b428), .val (.ref a441), .unset, .unset, .unset, .unset, .unset, .unset, .unset, .unset, .unset, .unset, .unset, .unset, .unset, .unset, .unset] [(.ref b428), (.long v), (.ref a441), (.ref b416), (.ref b442), (.ref b442)])) rfl (by rw [hml]; rfl) (a := b442) (argsL := [(.ref b416), (.ref a441), (.long v), (.ref b428)]) (rest := [(.ref b442)]) opd_42 rfl rfl rfl (by show 2 * 0 + _ ≤ _; exact Nat.le_of_eq rfl) (hb hby at_135)
    obtain ⟨rfl, N444, K444, XE444, X0444, X1444, X2444, X3444⟩ := hQ444
    have NN444 := Fr.app NN441 N444
    have KK444 : Keep h0 T444.heap [] := KK442.trans K444 (allS (Or.inr sz_b442) all0)
    have H444 := CR444.1
    have R444 := CHr.trans R442 CR444
    refine og st444 ?_
    refine og (fun _ k => XS.astore X444.here hx rfl (hb hby at_138) rfl rfl (l' := #[.val (.int a), .val (.int b), .val (.long v), .second, .val (.int d), .val (.int k0), .val (.int k1), .val (.int o), .val (.int (0 : Int32)), .val (.int c0), .val (.int c1), .val (.ref b416), .val (.ref b428), .val (.ref a441), .val (.ref b442), .unset, .unset, .unset, .unset, .unset, .unset, .unset, .unset, .unset, .unset, .unset, .unset, .unset, .unset]) rfl k) ?_
    refine og (fun _ k => XS.aload X444.here hx rfl (hb hby at_140) rfl rfl k) ?_
    have q445 := (((q440.keep K441 all0).ext E442).keep K444 (allS (Nat.le_trans Z0 sz_b442) all0))
    have ne446 : b416 ≠ b429 := (Nat.ne_of_lt (Nat.lt_of_lt_of_le (IC427.ext E428).lt (Nat.le_of_eq g429.symm)))
    have ne447 : b416 ≠ b428 := (Nat.ne_of_lt (Nat.lt_of_lt_of_le IC427.lt (Nat.le_of_eq g428.symm)))
    have ne448 : b416 ≠ b442 := (Nat.ne_of_lt (Nat.lt_of_lt_of_le ((((((IC427.ext E428).ext E429).other W430 (Or.inl ne446)).other W432 (Or.inl ne446)).keep K439 (ninS ne447 nin0)).keep K441 nin0).lt (Nat.le_of_eq g442.symm)))
    have q449 := ((((((((IC427.ext E428).ext E429).other W430 (Or.inl ne446)).other W432 (Or.inl ne446)).keep K439 (ninS ne447 nin0)).keep K441 nin0).ext E442).keep K444 (ninS ne448 nin0))
    have q450 := ((((((((IF427.ext E428).ext E429).other W430 (Or.inl ne446)).other W432 (Or.inl ne446)).keep K439 (ninS ne447 nin0)).keep K441 nin0).ext E442).keep K444 (ninS ne448 nin0))
    have ne451 : r427 ≠ b429 := (Nat.ne_of_lt (Nat.lt_of_lt_of_le (IV427.ext E428).lt (Nat.le_of_eq g429.symm)))
    have ne452 : r427 ≠ b428 := (Nat.ne_of_lt (Nat.lt_of_lt_of_le IV427.lt (Nat.le_of_eq g428.symm)))
    have ne453 : r427 ≠ b442 := (Nat.ne_of_lt (Nat.lt_of_lt_of_le ((((((IV427.ext E428).ext E429).other W430 ne451).other W432 ne451).keep K439 (ninS ne452 nin0)).keep K441 nin0).lt (Nat.le_of_eq g442.symm)))
    have q454 := ((((((((IV427.ext E428).ext E429).other W430 ne451).other W432 ne451).keep K439 (ninS ne452 nin0)).keep K441 nin0).ext E442).keep K444 (ninS ne453 nin0))
    have ne455 : b428 ≠ b442 := (Nat.ne_of_lt (Nat.lt_of_lt_of_le (IC439.keep K441 nin0).lt (Nat.le_of_eq g442.symm)))
    have q456 := (((IC439.keep K441 nin0).ext E442).keep K444 (ninS ne455 nin0))
    have q457 := (((IF439.keep K441 nin0).ext E442).keep K444 (ninS ne455 nin0))
    have ne458 : r439 ≠ b442 := (Nat.ne_of_lt (Nat.lt_of_lt_of_le (IV439.keep K441 nin0).lt (Nat.le_of_eq g442.symm)))
    have q459 := (((IV439.keep K441 nin0).ext E442).keep K444 (ninS ne458 nin0))
    have ne460 : a441 ≠ b442 := (Nat.ne_of_lt (Nat.lt_of_lt_of_le IE441.lt (Nat.le_of_eq g442.symm)))
    have q461 := ((IC441.ext E442).keep K444 (ninS ne460 nin0))
    have q462 := ((IF441.ext E442).keep K444 (ninS ne460 nin0))
    have ne463 : r441 ≠ b442 := (Nat.ne_of_lt (Nat.lt_of_lt_of_le IV441.lt (Nat.le_of_eq g442.symm)))
    have q464 := ((IV441.ext E442).keep K444 (ninS ne463 nin0))
    obtain ⟨v465, T465, L465, kk465, X465, hS465, hk465, hZ465, hown465, CR465, hQ465, st465⟩ := vcallH X444 hx hZ444 hown444 (own_hEL hw) hS444 hk444 H444 (own_g hw 68 rfl) (own_g hw 69 rfl) (own_g hw 71 rfl) rfl (own_g hw 71 rfl) (own_g hw 70 rfl) (own_g hw 46 rfl) (own_g hw 72 rfl) (by decide) (W := 0) (rm_tsO l Z a0 hw [] b442 b416 r427 a441 r441 b428 r439 kr427 kr441 kr439 (own_b8 [k0, k1]) (own_b8 [o]) (own_b8 [c0, c1]) v n zc wf n0 d1 d2 kd1 kd2 T444.heap SS' q445 SI hm ⟨(q443.keep K444), q449, q450, q454⟩ ⟨(((IE439.keep K441).ext E442).keep K444), q456, q457, q459⟩ rfl rfl ⟨((IE441.ext E442).keep K444), q461, q462, q464⟩ rfl X0444 X1444 X2444 X3444) rfl (by decide) (by decide) (by decide) (by decide) (g := (mkF m 142 #[.val (.int a), .val (.int b), .val (.long v), .second, .val (.int d), .val (.int k0), .val (.int k1), .val (.int o), .val (.int (0 : Int32)), .val (.int c0), .val (.int c1), .val (.ref b416), .val (.ref b428), .val (.ref a441), .val (.ref b442), .unset, .unset, .unset, .unset, .unset, .unset, .unset, .unset, .unset, .unset, .unset, .unset, .unset, .unset] [(.ref b442)])) rfl (by rw [hml]; rfl) XE444 (argsL := []) (rest := []) opd_34 rfl rfl rfl (by show 2 * 0 + _ ≤ _; exact Nat.le_of_eq rfl) (hb hby at_142)
    obtain ⟨m465, r465, kr465, rfl, sm465, N465, K465, I465⟩ := hQ465
    have NN465 := Fr.app NN444 N465
    have KK465 : Keep h0 T465.heap [] := KK444.trans K465 all0
    have H465 := CR465.1
    have R465 := CHr.trans R444 CR465
    have sz_m465 : h0.size ≤ m465 := Nat.le_trans KK444.1 sm465
    refine og st465 ?_
    refine og (fun _ k => XS.astore X465.here hx rfl (hb hby at_145) rfl rfl (l' := #[.val (.int a), .val (.int b), .val (.long v), .second, .val (.int d), .val (.int k0), .val (.int k1), .val (.int o), .val (.int (0 : Int32)), .val (.int c0), .val (.int c1), .val (.ref b416), .val (.ref b428), .val (.ref a441), .val (.ref b442), .val (.ref m465), .unset, .unset, .unset, .unset, .unset, .unset, .unset, .unset, .unset, .unset, .unset, .unset, .unset]) rfl k) ?_
    obtain ⟨hl, gA, gB, gS, gD⟩ := own_3 (A := (own_l66 ++ own_b8 [k0, k1] ++ own_l68 ++ (own_b8 [o]) ++ own_l70)) (B := (own_l75 ++ own_b8 [c0, c1] ++ own_l77)) (v := v) (n := n) (us := (own_l66 ++ own_b8 [k0, k1] ++ own_l68 ++ (own_b8 [o]) ++ own_l70 ++ own_num v n ++ own_l75 ++ own_b8 [c0, c1] ++ own_l77)) (by simp only [List.append_assoc])
    have hA : (own_l66 ++ own_b8 [k0, k1] ++ own_l68 ++ (own_b8 [o]) ++ own_l70).length = 27 := rfl
    rw [hA] at hl gA gB gS gD
    rw [← hmm] at hl gB gD
    exact K147 T465.vm _ T465 T465.heap _ (0 : Int32) (.ref a441) b416 b428 b442 m465 r465 kr465 _ 1 (Or.inr ⟨rfl, rfl, (gA 16 (by decide)).trans rfl⟩) hl (fun i hi => (gA i (by omega)).trans (show (own_hdl k0 k1 ++ (own_b8 [o]) ++ own_l70).getD i _ = _ by rw [List.append_assoc]; exact own_hd hi)) (fun i hi => (gA _ (by omega)).trans (own_gd (by show _ = 17 + i; rfl))) gS gD gB (X465.more (by decide) (by decide)) rfl hZ465 hown465 hS465 hk465 H465 R465 NN465 (q445.keep K465 all0) I465
  case neg =>
    refine og (fun _ k => XS.ifNo X0.here hx rfl (hb hby at_33) rfl ((if0 _ _).trans (feq qn).1) k) ?_
    refine og (fun _ k => XS.iconst X0.here hx rfl (hb hby at_36) k) ?_
    refine og (fun _ k => XS.goto X0.here hx rfl (pc0 := 37) (pc' := 41) rfl (hb hby at_37) (by decide) (by decide) k) ?_
    refine og (fun _ k => XS.istore X0.here hx rfl (hb hby at_41) rfl (l' := #[.val (.int a), .val (.int b), .val (.long v), .second, .val (.int d), .val (.int k0), .val (.int k1), .val (.int o), .val (.int (1 : Int32)), .unset, .unset, .unset, .unset, .unset, .unset, .unset, .unset, .unset, .unset, .unset, .unset, .unset, .unset, .unset, .unset, .unset, .unset, .unset, .unset]) rfl k) ?_
    refine og (fun _ k => XS.iload X0.here hx rfl (hb hby at_43) rfl k) ?_
    refine og (fun _ k => XS.sipush X0.here hx rfl (hb hby at_45) k) ?_
    refine og (fun _ k => XS.iand X0.here hx rfl (hb hby at_48) rfl k) ?_
    refine og (fun _ k => XS.i2c X0.here hx rfl (hb hby at_49) rfl k) ?_
    show OGo p e below _ s₁ (mkF m 50 #[.val (.int a), .val (.int b), .val (.long v), .second, .val (.int d), .val (.int k0), .val (.int k1), .val (.int o), .val (.int (1 : Int32)), .unset, .unset, .unset, .unset, .unset, .unset, .unset, .unset, .unset, .unset, .unset, .unset, .unset, .unset, .unset, .unset, .unset, .unset, .unset, .unset] [(.int ((d &&& (255 : Int32)).toUInt32.toUInt16.toUInt32.toInt32))])
    rw [i2c_mask]
    show OGo p e below _ s₁ (mkF m 50 #[.val (.int a), .val (.int b), .val (.long v), .second, .val (.int d), .val (.int k0), .val (.int k1), .val (.int o), .val (.int (1 : Int32)), .unset, .unset, .unset, .unset, .unset, .unset, .unset, .unset, .unset, .unset, .unset, .unset, .unset, .unset, .unset, .unset, .unset, .unset, .unset, .unset] [(.int (d &&& (255 : Int32)))])
    rw [ec0]
    refine og (fun _ k => XS.istore X0.here hx rfl (hb hby at_50) rfl (l' := #[.val (.int a), .val (.int b), .val (.long v), .second, .val (.int d), .val (.int k0), .val (.int k1), .val (.int o), .val (.int (1 : Int32)), .val (.int c0), .unset, .unset, .unset, .unset, .unset, .unset, .unset, .unset, .unset, .unset, .unset, .unset, .unset, .unset, .unset, .unset, .unset, .unset, .unset]) rfl k) ?_
    refine og (fun _ k => XS.iload X0.here hx rfl (hb hby at_52) rfl k) ?_
    refine og (fun _ k => XS.bipush X0.here hx rfl (hb hby at_54) k) ?_
    refine og (fun _ k => XS.iushr X0.here hx rfl (hb hby at_56) rfl k) ?_
    refine og (fun _ k => XS.sipush X0.here hx rfl (hb hby at_57) k) ?_
    refine og (fun _ k => XS.iand X0.here hx rfl (hb hby at_60) rfl k) ?_
    refine og (fun _ k => XS.i2c X0.here hx rfl (hb hby at_61) rfl k) ?_
    show OGo p e below _ s₁ (mkF m 62 #[.val (.int a), .val (.int b), .val (.long v), .second, .val (.int d), .val (.int k0), .val (.int k1), .val (.int o), .val (.int (1 : Int32)), .val (.int c0), .unset, .unset, .unset, .unset, .unset, .unset, .unset, .unset, .unset, .unset, .unset, .unset, .unset, .unset, .unset, .unset, .unset, .unset, .unset] [(.int ((((d.toUInt32 >>> ((8 : Int32) &&& 31).toUInt32).toInt32) &&& (255 : Int32)).toUInt32.toUInt16.toUInt32.toInt32))])
    rw [i2c_mask]
    show OGo p e below _ s₁ (mkF m 62 #[.val (.int a), .val (.int b), .val (.long v), .second, .val (.int d), .val (.int k0), .val (.int k1), .val (.int o), .val (.int (1 : Int32)), .val (.int c0), .unset, .unset, .unset, .unset, .unset, .unset, .unset, .unset, .unset, .unset, .unset, .unset, .unset, .unset, .unset, .unset, .unset, .unset, .unset] [(.int (((d.toUInt32 >>> ((8 : Int32) &&& 31).toUInt32).toInt32) &&& (255 : Int32)))])
    rw [ec1]
    refine og (fun _ k => XS.istore X0.here hx rfl (hb hby at_62) rfl (l' := #[.val (.int a), .val (.int b), .val (.long v), .second, .val (.int d), .val (.int k0), .val (.int k1), .val (.int o), .val (.int (1 : Int32)), .val (.int c0), .val (.int c1), .unset, .unset, .unset, .unset, .unset, .unset, .unset, .unset, .unset, .unset, .unset, .unset, .unset, .unset, .unset, .unset, .unset, .unset]) rfl k) ?_
    obtain ⟨T466, h466, X466, e466, E466, A466, D466, UN466, st466⟩ := newO X0 hx hZ hown (own_g hw 0 rfl) (own_g hw 1 rfl) (own_g hw 2 rfl) e0 (g := (mkF m 64 #[.val (.int a), .val (.int b), .val (.long v), .second, .val (.int d), .val (.int k0), .val (.int k1), .val (.int o), .val (.int (1 : Int32)), .val (.int c0), .val (.int c1), .unset, .unset, .unset, .unset, .unset, .unset, .unset, .unset, .unset, .unset, .unset, .unset, .unset, .unset, .unset, .unset, .unset, .unset] [])) rfl (hb hby at_64) (by decide) (by decide)
    obtain ⟨b466, g466⟩ : ∃ z, z = h0.size := ⟨_, rfl⟩
    rw [← g466] at A466 D466 UN466 st466
    have sz_b466 : h0.size ≤ b466 := Nat.le_trans (Keep.refl h0 []).1 (Nat.le_of_eq g466.symm)
    have KK466 : Keep h0 h466 [] := (Keep.refl h0 []).ext E466
    have H466 := CHv.ext E466 H0
    have R466 := CHr.trans R0 (CHr.ext E466 H0)
    have F466_coder : Fld Z h466 b466 "java/lang/String" "coder" "B" (.int (0 : Int32)) := D466 (Or.inr (own_g hw 27 rfl)) (ty := .byte) (by decide)
    have F466_value : Fld Z h466 b466 "java/lang/String" "value" "[B" .null := D466 (Or.inr (own_g hw 29 rfl)) (ty := (.array .byte)) (by decide)
    refine og st466 ?_
    refine og (fun _ k => XS.dup X466.here hx rfl (hb hby at_67) rfl rfl k) ?_
    refine og (fun _ k => XS.iconst X466.here hx rfl (hb hby at_68) k) ?_
    obtain ⟨T467, h467, k467, X467, e467, E467, A467, AE467, st467⟩ := newPE X466 hx hZ (own_g hw 3 rfl) e466 (g := (mkF m 69 #[.val (.int a), .val (.int b), .val (.long v), .second, .val (.int d), .val (.int k0), .val (.int k1), .val (.int o), .val (.int (1 : Int32)), .val (.int c0), .val (.int c1), .unset, .unset, .unset, .unset, .unset, .unset, .unset, .unset, .unset, .unset, .unset, .unset, .unset, .unset, .unset, .unset, .unset, .unset] [(.int (2 : Int32)), (.ref b466), (.ref b466)])) rfl (hb hby at_69) rfl (by decide) (cap := 2) (by decide) (by decide) (by decide) (by decide) (ad := "[C") (by decide)
    obtain ⟨b467, g467⟩ : ∃ z, z = h466.size := ⟨_, rfl⟩
    rw [← g467] at A467 AE467 st467
    have sz_b467 : h0.size ≤ b467 := Nat.le_trans KK466.1 (Nat.le_of_eq g467.symm)
    have KK467 : Keep h0 h467 [] := KK466.ext E467
    have H467 := CHv.ext E467 H466
    have R467 := CHr.trans R466 (CHr.ext E467 H466)
    have V467 : Arv Z h467 b467 k467 .char (2 : Int32) [(.int (0 : Int32)), (.int (0 : Int32))] (.int (0 : Int32)) := (Arv.new A467 (by decide)).pad (pad_rep [] (.int (0 : Int32)) 2)
    refine og st467 ?_
    refine og (fun _ k => XS.dup X467.here hx rfl (hb hby at_71) rfl rfl k) ?_
    refine og (fun _ k => XS.iconst X467.here hx rfl (hb hby at_72) k) ?_
    refine og (fun _ k => XS.iload X467.here hx rfl (hb hby at_73) rfl k) ?_
    obtain ⟨T468, h468, X468, e468, W468, Vq468, st468⟩ := castoreV X467 hx hZ e467 V467 (j := (0 : Int32)) ⟨by decide, by decide⟩ (by decide) (g := (mkF m 75 #[.val (.int a), .val (.int b), .val (.long v), .second, .val (.int d), .val (.int k0), .val (.int k1), .val (.int o), .val (.int (1 : Int32)), .val (.int c0), .val (.int c1), .unset, .unset, .unset, .unset, .unset, .unset, .unset, .unset, .unset, .unset, .unset, .unset, .unset, .unset, .unset, .unset, .unset, .unset] [(.int k0), (.int (0 : Int32)), (.ref b467), (.ref b467), (.ref b466), (.ref b466)])) rfl rfl (hb hby at_75)
    have q469 := (Safe.ext E467 H466 (Safe.new (Nat.le_of_eq g467.symm)))
    have N468 := Fr.snoc X468 N0 (Nat.le_trans Z0 sz_b467)
    have KK468 : Keep h0 h468 [] := KK467.wr W468 (Or.inr sz_b467)
    have H468 := CHv.wr W468 q469 H467
    have R468 := CHr.trans R467 (CHr.wr W468 q469 H467)
    have V468 : Arv Z h468 b467 k467 .char (2 : Int32) [(.int (nar .char k0)), (.int (0 : Int32))] (.int (0 : Int32)) := Vq468
    refine og st468 ?_
    refine og (fun _ k => XS.dup X468.here hx rfl (hb hby at_76) rfl rfl k) ?_
    refine og (fun _ k => XS.iconst X468.here hx rfl (hb hby at_77) k) ?_
    refine og (fun _ k => XS.iload X468.here hx rfl (hb hby at_78) rfl k) ?_
    obtain ⟨T470, h470, X470, e470, W470, Vq470, st470⟩ := castoreV X468 hx hZ e468 V468 (j := (1 : Int32)) ⟨by decide, by decide⟩ (show (1 : Int32).toNatClampNeg < 2 by decide) (g := (mkF m 80 #[.val (.int a), .val (.int b), .val (.long v), .second, .val (.int d), .val (.int k0), .val (.int k1), .val (.int o), .val (.int (1 : Int32)), .val (.int c0), .val (.int c1), .unset, .unset, .unset, .unset, .unset, .unset, .unset, .unset, .unset, .unset, .unset, .unset, .unset, .unset, .unset, .unset, .unset, .unset] [(.int k1), (.int (1 : Int32)), (.ref b467), (.ref b467), (.ref b466), (.ref b466)])) rfl rfl (hb hby at_80)
    have N470 := Fr.snoc X470 N468 (Nat.le_trans Z0 sz_b467)
    have KK470 : Keep h0 h470 [] := KK468.wr W470 (Or.inr sz_b467)
    have H470 := CHv.wr W470 (Safe.wr W468 q469 H467 q469) H468
    have R470 := CHr.trans R468 (CHr.wr W470 (Safe.wr W468 q469 H467 q469) H468)
    have V470 : Arv Z h470 b467 k467 .char (2 : Int32) [(.int (nar .char k0)), (.int (nar .char k1))] (.int (0 : Int32)) := Vq470
    refine og st470 ?_
    have Vc471 : Arv Z h470 b467 k467 .char (Int32.ofNat [k0, k1].length) ([k0, k1].map Value.int) (.int (0 : Int32)) := by have q := V470; rw [own_narc hk0, own_narc hk1] at q; exact q
    have q472 := ((((O.ext E466).ext E467).wr W468 (Nat.le_trans Z0 sz_b467)).wr W470 (Nat.le_trans Z0 sz_b467))
    have ne473 : b466 ≠ b467 := (Nat.ne_of_lt (Nat.lt_of_lt_of_le F466_coder.lt (Nat.le_of_eq g467.symm)))
    have q474 := (((F466_coder.ext E467).other W468 (Or.inl ne473)).other W470 (Or.inl ne473))
    have q475 := (((F466_value.ext E467).other W468 (Or.inl ne473)).other W470 (Or.inl ne473))
    have q476 := (Safe.wr W470 (Safe.wr W468 q469 H467 q469) H468 (Safe.wr W468 q469 H467 (Safe.ext E467 H466 (Safe.ext E466 H0 (Safe.new (Nat.le_of_eq g466.symm))))))
    obtain ⟨v477, T477, L477, X477, hQ477, st477⟩ := icall X470 hx hZ rfl hown (own_g hw 4 rfl) (own_g hw 5 rfl) (own_g hw 2 rfl) (own_g hw 6 rfl) (by decide) (W := 1) (rm_new1 l Z a0 hw [] b466 b467 k467 [k0, k1] zc wf n0 h470 SS' q472 Vc471 (own_ok2 hk0 hk1) (show 2 < 2147483648 by decide) (show 2 ≤ 2 by decide) (((A466.ext E467).wr W468).wr W470) q474 q475 (Nat.le_trans Z0 sz_b466) (show ¬ Int32.ofNat 2 = 0 by decide) (Ne.symm ne473)) e470 (by decide) (by decide) (by decide) (by decide) (g := (mkF m 81 #[.val (.int a), .val (.int b), .val (.long v), .second, .val (.int d), .val (.int k0), .val (.int k1), .val (.int o), .val (.int (1 : Int32)), .val (.int c0), .val (.int c1), .unset, .unset, .unset, .unset, .unset, .unset, .unset, .unset, .unset, .unset, .unset, .unset, .unset, .unset, .unset, .unset, .unset, .unset] [(.ref b467), (.ref b466), (.ref b466)])) rfl (by rw [hml]; rfl) (a := b466) (argsL := [(.ref b467)]) (rest := [(.ref b466)]) opd_40 rfl rfl rfl (by show 2 * 0 + _ ≤ _; exact Nat.le_of_eq rfl) (hb hby at_81)
    obtain ⟨rfl, N477, K477, r477, kr477, sr477, I477⟩ := hQ477
    have NN477 := Fr.app N470 N477
    have KK477 : Keep h0 T477.heap [] := KK470.trans K477 (allS (Or.inr sz_b466) all0)
    have H477 := CHv.keep K477 (sfS q476 sf0) H470
    have R477 := CHr.trans R470 (CHr.keep K477 (sfS q476 sf0) H470)
    have sz_r477 : h0.size ≤ r477 := Nat.le_trans KK470.1 sr477
    refine og st477 ?_
    obtain ⟨IE477, IC477, IF477, IV477⟩ := I477
    refine og (fun _ k => XS.astore X477.here hx rfl (hb hby at_84) rfl rfl (l' := #[.val (.int a), .val (.int b), .val (.long v), .second, .val (.int d), .val (.int k0), .val (.int k1), .val (.int o), .val (.int (1 : Int32)), .val (.int c0), .val (.int c1), .val (.ref b466), .unset, .unset, .unset, .unset, .unset, .unset, .unset, .unset, .unset, .unset, .unset, .unset, .unset, .unset, .unset, .unset, .unset]) rfl k) ?_
    obtain ⟨T478, h478, X478, e478, E478, A478, D478, UN478, st478⟩ := newO X477 hx hZ hown (own_g hw 0 rfl) (own_g hw 1 rfl) (own_g hw 2 rfl) rfl (g := (mkF m 86 #[.val (.int a), .val (.int b), .val (.long v), .second, .val (.int d), .val (.int k0), .val (.int k1), .val (.int o), .val (.int (1 : Int32)), .val (.int c0), .val (.int c1), .val (.ref b466), .unset, .unset, .unset, .unset, .unset, .unset, .unset, .unset, .unset, .unset, .unset, .unset, .unset, .unset, .unset, .unset, .unset] [])) rfl (hb hby at_86) (by decide) (by decide)
    obtain ⟨b478, g478⟩ : ∃ z, z = T477.heap.size := ⟨_, rfl⟩
    rw [← g478] at A478 D478 UN478 st478
    have sz_b478 : h0.size ≤ b478 := Nat.le_trans KK477.1 (Nat.le_of_eq g478.symm)
    have KK478 : Keep h0 h478 [] := KK477.ext E478
    have H478 := CHv.ext E478 H477
    have R478 := CHr.trans R477 (CHr.ext E478 H477)
    have F478_coder : Fld Z h478 b478 "java/lang/String" "coder" "B" (.int (0 : Int32)) := D478 (Or.inr (own_g hw 27 rfl)) (ty := .byte) (by decide)
    have F478_value : Fld Z h478 b478 "java/lang/String" "value" "[B" .null := D478 (Or.inr (own_g hw 29 rfl)) (ty := (.array .byte)) (by decide)
    refine og st478 ?_
    refine og (fun _ k => XS.dup X478.here hx rfl (hb hby at_89) rfl rfl k) ?_
    refine og (fun _ k => XS.iconst X478.here hx rfl (hb hby at_90) k) ?_
    obtain ⟨T479, h479, k479, X479, e479, E479, A479, AE479, st479⟩ := newPE X478 hx hZ (own_g hw 3 rfl) e478 (g := (mkF m 91 #[.val (.int a), .val (.int b), .val (.long v), .second, .val (.int d), .val (.int k0), .val (.int k1), .val (.int o), .val (.int (1 : Int32)), .val (.int c0), .val (.int c1), .val (.ref b466), .unset, .unset, .unset, .unset, .unset, .unset, .unset, .unset, .unset, .unset, .unset, .unset, .unset, .unset, .unset, .unset, .unset] [(.int (2 : Int32)), (.ref b478), (.ref b478)])) rfl (hb hby at_91) rfl (by decide) (cap := 2) (by decide) (by decide) (by decide) (by decide) (ad := "[C") (by decide)
    obtain ⟨b479, g479⟩ : ∃ z, z = h478.size := ⟨_, rfl⟩
    rw [← g479] at A479 AE479 st479
    have sz_b479 : h0.size ≤ b479 := Nat.le_trans KK478.1 (Nat.le_of_eq g479.symm)
    have KK479 : Keep h0 h479 [] := KK478.ext E479
    have H479 := CHv.ext E479 H478
    have R479 := CHr.trans R478 (CHr.ext E479 H478)
    have V479 : Arv Z h479 b479 k479 .char (2 : Int32) [(.int (0 : Int32)), (.int (0 : Int32))] (.int (0 : Int32)) := (Arv.new A479 (by decide)).pad (pad_rep [] (.int (0 : Int32)) 2)
    refine og st479 ?_
    refine og (fun _ k => XS.dup X479.here hx rfl (hb hby at_93) rfl rfl k) ?_
    refine og (fun _ k => XS.iconst X479.here hx rfl (hb hby at_94) k) ?_
    refine og (fun _ k => XS.iload X479.here hx rfl (hb hby at_95) rfl k) ?_
    obtain ⟨T480, h480, X480, e480, W480, Vq480, st480⟩ := castoreV X479 hx hZ e479 V479 (j := (0 : Int32)) ⟨by decide, by decide⟩ (by decide) (g := (mkF m 97 #[.val (.int a), .val (.int b), .val (.long v), .second, .val (.int d), .val (.int k0), .val (.int k1), .val (.int o), .val (.int (1 : Int32)), .val (.int c0), .val (.int c1), .val (.ref b466), .unset, .unset, .unset, .unset, .unset, .unset, .unset, .unset, .unset, .unset, .unset, .unset, .unset, .unset, .unset, .unset, .unset] [(.int c0), (.int (0 : Int32)), (.ref b479), (.ref b479), (.ref b478), (.ref b478)])) rfl rfl (hb hby at_97)
    have q481 := (Safe.ext E479 H478 (Safe.new (Nat.le_of_eq g479.symm)))
    have N480 := Fr.snoc X480 NN477 (Nat.le_trans Z0 sz_b479)
    have KK480 : Keep h0 h480 [] := KK479.wr W480 (Or.inr sz_b479)
    have H480 := CHv.wr W480 q481 H479
    have R480 := CHr.trans R479 (CHr.wr W480 q481 H479)
    have V480 : Arv Z h480 b479 k479 .char (2 : Int32) [(.int (nar .char c0)), (.int (0 : Int32))] (.int (0 : Int32)) := Vq480
    refine og st480 ?_
    refine og (fun _ k => XS.dup X480.here hx rfl (hb hby at_98) rfl rfl k) ?_
    refine og (fun _ k => XS.iconst X480.here hx rfl (hb hby at_99) k) ?_
    refine og (fun _ k => XS.iload X480.here hx rfl (hb hby at_100) rfl k) ?_
    obtain ⟨T482, h482, X482, e482, W482, Vq482, st482⟩ := castoreV X480 hx hZ e480 V480 (j := (1 : Int32)) ⟨by decide, by decide⟩ (show (1 : Int32).toNatClampNeg < 2 by decide) (g := (mkF m 102 #[.val (.int a), .val (.int b), .val (.long v), .second, .val (.int d), .val (.int k0), .val (.int k1), .val (.int o), .val (.int (1 : Int32)), .val (.int c0), .val (.int c1), .val (.ref b466), .unset, .unset, .unset, .unset, .unset, .unset, .unset, .unset, .unset, .unset, .unset, .unset, .unset, .unset, .unset, .unset, .unset] [(.int c1), (.int (1 : Int32)), (.ref b479), (.ref b479), (.ref b478), (.ref b478)])) rfl rfl (hb hby at_102)
    have N482 := Fr.snoc X482 N480 (Nat.le_trans Z0 sz_b479)
    have KK482 : Keep h0 h482 [] := KK480.wr W482 (Or.inr sz_b479)
    have H482 := CHv.wr W482 (Safe.wr W480 q481 H479 q481) H480
    have R482 := CHr.trans R480 (CHr.wr W482 (Safe.wr W480 q481 H479 q481) H480)
    have V482 : Arv Z h482 b479 k479 .char (2 : Int32) [(.int (nar .char c0)), (.int (nar .char c1))] (.int (0 : Int32)) := Vq482
    refine og st482 ?_
    have Vc483 : Arv Z h482 b479 k479 .char (Int32.ofNat [c0, c1].length) ([c0, c1].map Value.int) (.int (0 : Int32)) := by have q := V482; rw [own_narc hc0, own_narc hc1] at q; exact q
    have q484 := (((((q472.keep K477 (allS (Nat.le_trans Z0 sz_b466) all0)).ext E478).ext E479).wr W480 (Nat.le_trans Z0 sz_b479)).wr W482 (Nat.le_trans Z0 sz_b479))
    have ne485 : b478 ≠ b479 := (Nat.ne_of_lt (Nat.lt_of_lt_of_le F478_coder.lt (Nat.le_of_eq g479.symm)))
    have q486 := (((F478_coder.ext E479).other W480 (Or.inl ne485)).other W482 (Or.inl ne485))
    have q487 := (((F478_value.ext E479).other W480 (Or.inl ne485)).other W482 (Or.inl ne485))
    have q488 := (Safe.wr W482 (Safe.wr W480 q481 H479 q481) H480 (Safe.wr W480 q481 H479 (Safe.ext E479 H478 (Safe.ext E478 H477 (Safe.new (Nat.le_of_eq g478.symm))))))
    obtain ⟨v489, T489, L489, X489, hQ489, st489⟩ := icall X482 hx hZ rfl hown (own_g hw 4 rfl) (own_g hw 5 rfl) (own_g hw 2 rfl) (own_g hw 6 rfl) (by decide) (W := 1) (rm_new1 l Z a0 hw [] b478 b479 k479 [c0, c1] zc wf n0 h482 SS' q484 Vc483 (own_ok2 hc0 hc1) (show 2 < 2147483648 by decide) (show 2 ≤ 2 by decide) (((A478.ext E479).wr W480).wr W482) q486 q487 (Nat.le_trans Z0 sz_b478) (show ¬ Int32.ofNat 2 = 0 by decide) (Ne.symm ne485)) e482 (by decide) (by decide) (by decide) (by decide) (g := (mkF m 103 #[.val (.int a), .val (.int b), .val (.long v), .second, .val (.int d), .val (.int k0), .val (.int k1), .val (.int o), .val (.int (1 : Int32)), .val (.int c0), .val (.int c1), .val (.ref b466), .unset, .unset, .unset, .unset, .unset, .unset, .unset, .unset, .unset, .unset, .unset, .unset, .unset, .unset, .unset, .unset, .unset] [(.ref b479), (.ref b478), (.ref b478)])) rfl (by rw [hml]; rfl) (a := b478) (argsL := [(.ref b479)]) (rest := [(.ref b478)]) opd_40 rfl rfl rfl (by show 2 * 0 + _ ≤ _; exact Nat.le_of_eq rfl) (hb hby at_103)
    obtain ⟨rfl, N489, K489, r489, kr489, sr489, I489⟩ := hQ489
    have NN489 := Fr.app N482 N489
    have KK489 : Keep h0 T489.heap [] := KK482.trans K489 (allS (Or.inr sz_b478) all0)
    have H489 := CHv.keep K489 (sfS q488 sf0) H482
    have R489 := CHr.trans R482 (CHr.keep K489 (sfS q488 sf0) H482)
    have sz_r489 : h0.size ≤ r489 := Nat.le_trans KK482.1 sr489
    refine og st489 ?_
    obtain ⟨IE489, IC489, IF489, IV489⟩ := I489
    refine og (fun _ k => XS.astore X489.here hx rfl (hb hby at_106) rfl rfl (l' := #[.val (.int a), .val (.int b), .val (.long v), .second, .val (.int d), .val (.int k0), .val (.int k1), .val (.int o), .val (.int (1 : Int32)), .val (.int c0), .val (.int c1), .val (.ref b466), .val (.ref b478), .unset, .unset, .unset, .unset, .unset, .unset, .unset, .unset, .unset, .unset, .unset, .unset, .unset, .unset, .unset, .unset]) rfl k) ?_
    refine og (fun _ k => XS.iload X489.here hx rfl (hb hby at_108) rfl k) ?_
    refine og (fun _ k => XS.ifNo X489.here hx rfl (hb hby at_110) rfl ((if0 _ _).trans (feq (by decide : ¬ (1 : Int32) = 0)).1) k) ?_
    refine og (fun _ k => XS.aconstNull X489.here hx rfl (hb hby at_113) k) ?_
    refine og (fun _ k => XS.goto X489.here hx rfl (pc0 := 114) (pc' := 122) rfl (hb hby at_114) (by decide) (by decide) k) ?_
    refine og (fun _ k => XS.astore X489.here hx rfl (hb hby at_122) rfl rfl (l' := #[.val (.int a), .val (.int b), .val (.long v), .second, .val (.int d), .val (.int k0), .val (.int k1), .val (.int o), .val (.int (1 : Int32)), .val (.int c0), .val (.int c1), .val (.ref b466), .val (.ref b478), .val .null, .unset, .unset, .unset, .unset, .unset, .unset, .unset, .unset, .unset, .unset, .unset, .unset, .unset, .unset, .unset]) rfl k) ?_
    obtain ⟨T490, h490, X490, e490, E490, A490, D490, UN490, st490⟩ := newO X489 hx hZ hown (own_g hw 44 rfl) (own_g hw 45 rfl) (own_g hw 46 rfl) rfl (g := (mkF m 124 #[.val (.int a), .val (.int b), .val (.long v), .second, .val (.int d), .val (.int k0), .val (.int k1), .val (.int o), .val (.int (1 : Int32)), .val (.int c0), .val (.int c1), .val (.ref b466), .val (.ref b478), .val .null, .unset, .unset, .unset, .unset, .unset, .unset, .unset, .unset, .unset, .unset, .unset, .unset, .unset, .unset, .unset] [])) rfl (hb hby at_124) (by decide) (by decide)
    obtain ⟨b490, g490⟩ : ∃ z, z = T489.heap.size := ⟨_, rfl⟩
    rw [← g490] at A490 D490 UN490 st490
    have sz_b490 : h0.size ≤ b490 := Nat.le_trans KK489.1 (Nat.le_of_eq g490.symm)
    have KK490 : Keep h0 h490 [] := KK489.ext E490
    have H490 := CHv.ext E490 H489
    have R490 := CHr.trans R489 (CHr.ext E490 H489)
    have F490_leaseKey : Fld Z h490 b490 "com/example/drain_shards/drainshards/Lease" "leaseKey" "Ljava/lang/String;" .null := D490 (Or.inr (own_g hw 60 rfl)) (ty := (.object "java/lang/String")) (by decide)
    have F490_leaseOwner : Fld Z h490 b490 "com/example/drain_shards/drainshards/Lease" "leaseOwner" "Ljava/lang/String;" .null := D490 (Or.inr (own_g hw 62 rfl)) (ty := (.object "java/lang/String")) (by decide)
    have F490_leaseCounter : Fld Z h490 b490 "com/example/drain_shards/drainshards/Lease" "leaseCounter" "J" (.long (0 : Int64)) := D490 (Or.inr (own_g hw 64 rfl)) (ty := .long) (by decide)
    have F490_checkpoint : Fld Z h490 b490 "com/example/drain_shards/drainshards/Lease" "checkpoint" "Ljava/lang/String;" .null := D490 (Or.inr (own_g hw 67 rfl)) (ty := (.object "java/lang/String")) (by decide)
    refine og st490 ?_
    refine og (fun _ k => XS.dup X490.here hx rfl (hb hby at_127) rfl rfl k) ?_
    refine og (fun _ k => XS.aload X490.here hx rfl (hb hby at_128) rfl rfl k) ?_
    refine og (fun _ k => XS.aload X490.here hx rfl (hb hby at_130) rfl rfl k) ?_
    refine og (fun _ k => XS.lloadN X490.here hx rfl (hb hby at_132) rfl k) ?_
    refine og (fun _ k => XS.aload X490.here hx rfl (hb hby at_133) rfl rfl k) ?_
    have q491 := ((q484.keep K489 (allS (Nat.le_trans Z0 sz_b478) all0)).ext E490)
    have q492 := ((((((IE477.ext E478).ext E479).wr W480).wr W482).keep K489).ext E490)
    obtain ⟨v493, T493, L493, kk493, X493, hS493, hk493, hZ493, hown493, CR493, hQ493, st493⟩ := icallH X490 hx hZ rfl hown (own_hEL hw) hS0 (Nat.le_trans (Nat.le_trans (Nat.le_trans (Nat.le_trans (Nat.le_trans (Nat.le_trans (Nat.le_trans (Nat.le_trans (Nat.le_trans (Nat.le_trans (Nat.le_trans (Nat.zero_le _) E466.1) E467.1) (Nat.le_of_eq W468.size.symm)) (Nat.le_of_eq W470.size.symm)) K477.1) E478.1) E479.1) (Nat.le_of_eq W480.size.symm)) (Nat.le_of_eq W482.size.symm)) K489.1) E490.1) H490 (own_g hw 47 rfl) (own_g hw 48 rfl) (own_g hw 46 rfl) (own_g hw 49 rfl) (by decide) (W := 1) (rm_leN l Z a0 hw [] b490 b466 b466 b478 v zc wf n0 h490 SS' q491 A490 (Nat.le_trans Z0 sz_b490) q492 (IE489.ext E490) F490_leaseKey F490_leaseOwner F490_leaseCounter F490_checkpoint) e490 (by decide) (by decide) (by decide) (by decide) (g := (mkF m 135 #[.val (.int a), .val (.int b), .val (.long v), .second, .val (.int d), .val (.int k0), .val (.int k1), .val (.int o), .val (.int (1 : Int32)), .val (.int c0), .val (.int c1), .val (.ref b466), .val (.ref b478), .val .null, .unset, .unset, .unset, .unset, .unset, .unset, .unset, .unset, .unset, .unset, .unset, .unset, .unset, .unset, .unset] [(.ref b478), (.long v), .null, (.ref b466), (.ref b490), (.ref b490)])) rfl (by rw [hml]; rfl) (a := b490) (argsL := [(.ref b466), .null, (.long v), (.ref b478)]) (rest := [(.ref b490)]) opd_42 rfl rfl rfl (by show 2 * 0 + _ ≤ _; exact Nat.le_of_eq rfl) (hb hby at_135)
    obtain ⟨rfl, N493, K493, XE493, X0493, X1493, X2493, X3493⟩ := hQ493
    have NN493 := Fr.app NN489 N493
    have KK493 : Keep h0 T493.heap [] := KK490.trans K493 (allS (Or.inr sz_b490) all0)
    have H493 := CR493.1
    have R493 := CHr.trans R490 CR493
    refine og st493 ?_
    refine og (fun _ k => XS.astore X493.here hx rfl (hb hby at_138) rfl rfl (l' := #[.val (.int a), .val (.int b), .val (.long v), .second, .val (.int d), .val (.int k0), .val (.int k1), .val (.int o), .val (.int (1 : Int32)), .val (.int c0), .val (.int c1), .val (.ref b466), .val (.ref b478), .val .null, .val (.ref b490), .unset, .unset, .unset, .unset, .unset, .unset, .unset, .unset, .unset, .unset, .unset, .unset, .unset, .unset]) rfl k) ?_
    refine og (fun _ k => XS.aload X493.here hx rfl (hb hby at_140) rfl rfl k) ?_
    have q494 := (q491.keep K493 (allS (Nat.le_trans Z0 sz_b490) all0))
    have ne495 : b466 ≠ b479 := (Nat.ne_of_lt (Nat.lt_of_lt_of_le (IC477.ext E478).lt (Nat.le_of_eq g479.symm)))
    have ne496 : b466 ≠ b478 := (Nat.ne_of_lt (Nat.lt_of_lt_of_le IC477.lt (Nat.le_of_eq g478.symm)))
    have ne497 : b466 ≠ b490 := (Nat.ne_of_lt (Nat.lt_of_lt_of_le (((((IC477.ext E478).ext E479).other W480 (Or.inl ne495)).other W482 (Or.inl ne495)).keep K489 (ninS ne496 nin0)).lt (Nat.le_of_eq g490.symm)))
    have q498 := (((((((IC477.ext E478).ext E479).other W480 (Or.inl ne495)).other W482 (Or.inl ne495)).keep K489 (ninS ne496 nin0)).ext E490).keep K493 (ninS ne497 nin0))
    have q499 := (((((((IF477.ext E478).ext E479).other W480 (Or.inl ne495)).other W482 (Or.inl ne495)).keep K489 (ninS ne496 nin0)).ext E490).keep K493 (ninS ne497 nin0))
    have ne500 : r477 ≠ b479 := (Nat.ne_of_lt (Nat.lt_of_lt_of_le (IV477.ext E478).lt (Nat.le_of_eq g479.symm)))
    have ne501 : r477 ≠ b478 := (Nat.ne_of_lt (Nat.lt_of_lt_of_le IV477.lt (Nat.le_of_eq g478.symm)))
    have ne502 : r477 ≠ b490 := (Nat.ne_of_lt (Nat.lt_of_lt_of_le (((((IV477.ext E478).ext E479).other W480 ne500).other W482 ne500).keep K489 (ninS ne501 nin0)).lt (Nat.le_of_eq g490.symm)))
    have q503 := (((((((IV477.ext E478).ext E479).other W480 ne500).other W482 ne500).keep K489 (ninS ne501 nin0)).ext E490).keep K493 (ninS ne502 nin0))
    have ne504 : b478 ≠ b490 := (Nat.ne_of_lt (Nat.lt_of_lt_of_le IC489.lt (Nat.le_of_eq g490.symm)))
    have q505 := ((IC489.ext E490).keep K493 (ninS ne504 nin0))
    have q506 := ((IF489.ext E490).keep K493 (ninS ne504 nin0))
    have ne507 : r489 ≠ b490 := (Nat.ne_of_lt (Nat.lt_of_lt_of_le IV489.lt (Nat.le_of_eq g490.symm)))
    have q508 := ((IV489.ext E490).keep K493 (ninS ne507 nin0))
    obtain ⟨v509, T509, L509, kk509, X509, hS509, hk509, hZ509, hown509, CR509, hQ509, st509⟩ := vcallH X493 hx hZ493 hown493 (own_hEL hw) hS493 hk493 H493 (own_g hw 68 rfl) (own_g hw 69 rfl) (own_g hw 71 rfl) rfl (own_g hw 71 rfl) (own_g hw 70 rfl) (own_g hw 46 rfl) (own_g hw 72 rfl) (by decide) (W := 0) (rm_tsN l Z a0 hw [] b490 b466 r477 b466 r477 b478 r489 kr477 kr477 kr489 (own_b8 [k0, k1]) [] (own_b8 [c0, c1]) v n zc wf n0 d1 d2 kd1 kd2 T493.heap SS' q494 SI hm ⟨(q492.keep K493), q498, q499, q503⟩ ⟨((IE489.ext E490).keep K493), q505, q506, q508⟩ rfl rfl  X0493 X1493 X2493 X3493) rfl (by decide) (by decide) (by decide) (by decide) (g := (mkF m 142 #[.val (.int a), .val (.int b), .val (.long v), .second, .val (.int d), .val (.int k0), .val (.int k1), .val (.int o), .val (.int (1 : Int32)), .val (.int c0), .val (.int c1), .val (.ref b466), .val (.ref b478), .val .null, .val (.ref b490), .unset, .unset, .unset, .unset, .unset, .unset, .unset, .unset, .unset, .unset, .unset, .unset, .unset, .unset] [(.ref b490)])) rfl (by rw [hml]; rfl) XE493 (argsL := []) (rest := []) opd_34 rfl rfl rfl (by show 2 * 0 + _ ≤ _; exact Nat.le_of_eq rfl) (hb hby at_142)
    obtain ⟨m509, r509, kr509, rfl, sm509, N509, K509, I509⟩ := hQ509
    have NN509 := Fr.app NN493 N509
    have KK509 : Keep h0 T509.heap [] := KK493.trans K509 all0
    have H509 := CR509.1
    have R509 := CHr.trans R493 CR509
    have sz_m509 : h0.size ≤ m509 := Nat.le_trans KK493.1 sm509
    refine og st509 ?_
    refine og (fun _ k => XS.astore X509.here hx rfl (hb hby at_145) rfl rfl (l' := #[.val (.int a), .val (.int b), .val (.long v), .second, .val (.int d), .val (.int k0), .val (.int k1), .val (.int o), .val (.int (1 : Int32)), .val (.int c0), .val (.int c1), .val (.ref b466), .val (.ref b478), .val .null, .val (.ref b490), .val (.ref m509), .unset, .unset, .unset, .unset, .unset, .unset, .unset, .unset, .unset, .unset, .unset, .unset, .unset]) rfl k) ?_
    obtain ⟨hl, gA, gB, gS, gD⟩ := own_3 (A := (own_l66 ++ own_b8 [k0, k1] ++ own_l68 ++ own_nul ++ own_l70)) (B := (own_l75 ++ own_b8 [c0, c1] ++ own_l77)) (v := v) (n := n) (us := (own_l66 ++ own_b8 [k0, k1] ++ own_l68 ++ own_nul ++ own_l70 ++ own_num v n ++ own_l75 ++ own_b8 [c0, c1] ++ own_l77)) (by simp only [List.append_assoc])
    have hA : (own_l66 ++ own_b8 [k0, k1] ++ own_l68 ++ own_nul ++ own_l70).length = 30 := rfl
    rw [hA] at hl gA gB gS gD
    rw [← hmm] at hl gB gD
    exact K147 T509.vm _ T509 T509.heap _ (1 : Int32) .null b466 b478 b490 m509 r509 kr509 _ 4 (Or.inl ⟨rfl, rfl, fun i hi => (gA _ (by omega)).trans (by show (own_hdl k0 k1 ++ own_nul ++ own_l70).getD (16 + i) _ = _; rw [List.append_assoc, own_gd (xs := own_hdl k0 k1) (i := 16 + i) (j := i) rfl, own_gl hi])⟩) hl (fun i hi => (gA i (by omega)).trans (show (own_hdl k0 k1 ++ own_nul ++ own_l70).getD i _ = _ by rw [List.append_assoc]; exact own_hd hi)) (fun i hi => (gA _ (by omega)).trans (own_gd (by show _ = 20 + i; rfl))) gS gD gB (X509.more (by decide) (by decide)) rfl hZ509 hown509 hS509 hk509 H509 R509 NN509 (q494.keep K509 all0) I509
theorem comes_1 {Post : Tables → Env → Array Value → State → Outcome → State → Prop} (hpost : ∀ tb e args s v u, (limb_1_1.after args s (.returned v) u = true ∧ limb_1_2.after args s (.returned v) u = true ∧ True) → ReturnedEndW s (.returned v) u (Jvm.fieldLocs frame_1_writes args s ++ Jvm.arrayLocs frame_1_arrays args s ++ Jvm.staticLocs frame_1_statics s) 56 7744 → Post tb e args s (.returned v) u) :
    ArmFor flags0 classFile x code maxLocals ret World_1 tables_1 room_1 Calls_1 rest_1 Pre_1 Post := by
  intro l hfl _ _ p e ha hc hk s m args below hf hA hF happ hP
  obtain ⟨hcalls, hrest, hpre⟩ := hP
  obtain ⟨-, -, -, hnamed, -, -, -, hat⟩ := (Spec.applies_iff hf).mp happ
  obtain ⟨hg, hn⟩ := and_e (Cond.before_iff.mp (show (Jvm.Cond.and given_1 narrow_1).before args s = true from hpre))
  obtain ⟨g1, g2⟩ := and_e hg
  obtain ⟨g3, g4⟩ := and_e g2
  obtain ⟨g5, g6⟩ := and_e g4
  obtain ⟨g7, g8⟩ := and_e g6
  obtain ⟨w0, w1, w2, w3, rfl⟩ : ∃ w0 w1 w2 w3 : Value, args = #[w0, w1, w2, w3] := by
    have hs : args.size = 4 := by simpa [Cond.value, given_1] using g1
    obtain ⟨L⟩ := args
    match L, hs with
    | [w0, w1, w2, w3], _ => exact ⟨w0, w1, w2, w3, rfl⟩
  have hw := fun d (hd : d ∈ tables_1) => atoms_spec (ws := Jvm.Cond.code x code maxLocals ret :: tables_1) hat d (List.mem_cons_of_mem _ hd)
  obtain ⟨i0, ei0⟩ := is_v g3
  obtain rfl : w0 = (.int i0) := Option.some.inj ei0
  obtain ⟨i1, ei1⟩ := is_v g5
  obtain rfl : w1 = (.int i1) := Option.some.inj ei1
  obtain ⟨i2, ei2⟩ := isL_v g7
  obtain rfl : w2 = (.long i2) := Option.some.inj ei2
  obtain ⟨i3, ei3⟩ := is_v g8
  obtain rfl : w3 = (.int i3) := Option.some.inj ei3
  obtain ⟨hsets, hown0⟩ := atoms_of _ (rest_1_c_eq ▸ (show rest_1_c.before _ s = true from hrest))
  have n3 := not_v (Cond.before_iff.mp (hsets _ (List.mem_of_getElem? (i := 2) rfl)))
  obtain ⟨zc, e6⟩ := is_v (Cond.before_iff.mp (hsets _ (List.mem_of_getElem? (i := 1) rfl)))
  have S8 : Sta s s.heap "java/lang/String" "COMPACT_STRINGS" "Z" (.int zc) := Sta.start e6 (Or.inl (hsets _ (List.mem_of_getElem? (i := 0) rfl)))
  obtain ⟨wf, e10, r11⟩ := isR_v (Cond.before_iff.mp (hsets _ (List.mem_of_getElem? (i := 8) rfl)))
  have S12 : Sta s s.heap "jdk/internal/util/Preconditions" "SIOOBE_FORMATTER" "Ljava/util/function/BiFunction;" wf := Sta.start e10 (Or.inl (hsets _ (List.mem_of_getElem? (i := 7) rfl)))
  have c13 : ¬ (zc = (0 : Int32)) := gotF (Cond.eq_ints e6 (Term.int_eval (0))) n3
  have SS : own_SS s zc wf := ⟨c13, S8, r11, S12⟩
  have H0 : CHv s own_EL s.vm s.heap := CHv.start (own_hEL hw) (fun p hp => hcalls.1 p hp) (hsets _ (List.mem_of_getElem? (i := 2) rfl)) (own_g hw 19 rfl) (own_g hw 1 rfl)
  obtain ⟨d1, kd1, ed1, V21⟩ := own_tblS (k := 100) (val := fun i => (48 : Int32) + i.toInt32 % 10) (by decide) (hsets _ (List.mem_of_getElem? (i := 12) rfl)) (hsets _ (List.mem_of_getElem? (i := 13) rfl)) (hsets _ (List.mem_of_getElem? (i := 14) rfl)) (own_g hw 19 rfl) (fun i _ => rfl) (by decide +kernel)
  have S31 : Sta s s.heap "java/lang/Integer" "DigitOnes" "[B" (.ref d1) := Sta.start ed1 (Or.inl (hsets _ (List.mem_of_getElem? (i := 11) rfl)))
  rw [own_oneE] at V21
  obtain ⟨d2, kd2, ed2, V22⟩ := own_tblS (k := 100) (val := fun i => (48 : Int32) + i.toInt32 / 10) (by decide) (hsets _ (List.mem_of_getElem? (i := 17) rfl)) (hsets _ (List.mem_of_getElem? (i := 18) rfl)) (hsets _ (List.mem_of_getElem? (i := 19) rfl)) (own_g hw 19 rfl) (fun i _ => rfl) (by decide +kernel)
  have S32 : Sta s s.heap "java/lang/Integer" "DigitTens" "[B" (.ref d2) := Sta.start ed2 (Or.inl (hsets _ (List.mem_of_getElem? (i := 16) rfl)))
  rw [own_tenE] at V22
  have SI : own_SI s d1 d2 kd1 kd2 := ⟨S31, V21, S32, V22⟩
  obtain ⟨n, o, h1, h2, h3, _, L, rfl, ⟨rfl, N⟩, hC, hq⟩ := rm_law l s _ hw tables_1 i0 i1 i2 i3 zc wf s.heap.size d1 d2 kd1 kd2 s.heap SS (Old.start s) SI p e ha hc hk s m _ below hf ((Spec.applies_iff_loose hf).mp happ).1 ⟨rfl, State.Warmed39.refl s, rfl, H0⟩ trivial
  refine ⟨n, _, h1, h2, h3, hpost _ _ _ _ _ _ ⟨Cond.after_iff.mpr rfl, Cond.after_iff.mpr (eq_i res_at (Term.int_eval (1)) rfl), trivial⟩ ⟨hq.1, hq.2.1, hq.2.2.1, (hq.2.2.2.sift fun y hy => Or.inr (N y hy)).mono (by decide) (by decide)⟩⟩
theorem main_1_1 : Claimed_1_1 := comes_1 fun _ _ _ _ _ _ h hF => ⟨h.1, hF⟩
theorem main_1_2 : Claimed_1_2 := comes_1 fun _ _ _ _ _ _ h hF => ⟨h.2.1, hF⟩
end Jvm.Pilot.@@N@@
namespace Jvm.Pilot.@@N@@
open Jvm Jvm.ClassFile Sem Op Lib Jvm.Free Jvm.Stand Jvm.Pilot.@@N@@.Jvm.D
/-! MADE BY PROGRAM (witnessworld.py) out of the Statement's table words and the real class files: 30 classes; the members and pool entries that the words name. The judged class is class 1, her method 5. -/
namespace start1
open Jvm.ClassFile
def u (s : String) : CpInfo := .utf8 (stringToUtf16 s)
/-- a pool by its gaps: so many unusable entries, then the entry; so many at the end -/
def gap : Nat → List CpInfo → List CpInfo
  | 0, r => r
  | n + 1, r => .unusable :: gap n r
def poolList (es : List (Nat × CpInfo)) (last : Nat) : List CpInfo := es.foldr (fun e r => gap e.1 (e.2 :: r)) (gap last [])
def pool (es : List (Nat × CpInfo)) (last : Nat) : Array CpInfo := ⟨poolList es last⟩
def fileOf (pool : Array CpInfo) (this : Nat) (attrs : Array Attribute := #[]) (ms : Array MethodInfo := #[]) (fl : Nat := 33) (sup : Nat := 0) (ifs : Array Nat := #[]) (fds : Array FieldInfo := #[]) : ClassFile where
  minorVersion := 0
  majorVersion := 65
  constantPool := pool
  accessFlags := fl
  thisClass := this
  superClass := sup
  interfaces := ifs
  fields := fds
  methods := ms
  attributes := attrs
def plain (name : String) (sup : Option ClassId) : Class where
  name := name
  kind := .ordinary
  loader := none
  accessFlags := 33
  super := sup
  interfaces := #[]
  cf := none
  fields := #[]
  methods := #[]
  instanceTypes := #[]
  staticTypes := #[]
  resolved := #[]
  callSites := []
  init := .initialized
  statics := none
  mirror := none

def pool0 : Array CpInfo := pool [(5, u "<init>"), (0, u "()V"), (1, .class_ 10), (1, u "java/lang/Object")] 113

def k0c0 : Code := ⟨0, 1, object_method_1_code, #[], #[]⟩
def k0m0 : Method := ⟨"<init>", "()V", ⟨[], none⟩, 1, some k0c0⟩
/-- java/lang/Object -/
def k0 : Class := { plain "java/lang/Object" none with
  accessFlags := 33
  interfaces := #[]
  cf := some (fileOf pool0 8 #[] #[⟨1, 5, 6, #[]⟩] 33 0 #[] #[])
  fields := #[]
  methods := #[k0m0]
  instanceTypes := #[]
  staticTypes := #[]
  resolved := Array.replicate 124 none
  statics := none }

def pool1 : Array CpInfo := pool [(2, .class_ 4), (1, u "java/lang/Object"), (0, u "<init>"), (0, u "()V"), (0, .methodref 8 9), (0, .class_ 10), (0, .nameAndType 11 12), (0, u "java/lang/String"), (0, u "length"), (0, u "()I"), (0, .methodref 8 14), (0, .nameAndType 15 16), (0, u "charAt"), (0, u "(I)C"), (0, .long 10), (1, .methodref 20 21), (0, .class_ 22), (0, .nameAndType 23 24), (0, u "com/example/drain_shards/drainshards/LeaseToStringPinLaw"), (0, u "nz"), (0, u "(JJ)I"), (0, .long 100), (1, .long 1000), (1, .long 10000), (1, .long 100000), (1, .long 1000000), (1, .long 10000000), (1, .long 100000000), (1, .long 1000000000), (1, .long 10000000000), (1, .long 100000000000), (1, .long 1000000000000), (1, .long 10000000000000), (1, .long 100000000000000), (1, .long 1000000000000000), (1, .long 10000000000000000), (1, .long 100000000000000000), (1, .long 1000000000000000000), (1, .methodref 60 61), (0, .class_ 62), (0, .nameAndType 63 64), (0, u "java/lang/Math"), (0, u "abs"), (0, u "(J)J"), (0, .methodref 20 66), (0, .nameAndType 67 68), (0, u "at"), (0, u "(Ljava/lang/String;IC)Z"), (0, .methodref 8 70), (0, .nameAndType 5 71), (0, u "([C)V"), (0, .methodref 8 73), (0, .nameAndType 74 75), (0, u "valueOf"), (0, u "(C)Ljava/lang/String;"), (0, .class_ 77), (0, u "com/example/drain_shards/drainshards/Lease"), (0, .methodref 76 79), (0, .nameAndType 5 80), (0, u "(Ljava/lang/String;Ljava/lang/String;JLjava/lang/String;)V"), (0, .methodref 76 82), (0, .nameAndType 83 84), (0, u "toString"), (0, u "()Ljava/lang/String;"), (0, .methodref 20 86), (0, .nameAndType 87 88), (0, u "digits"), (0, u "(J)I"), (0, .methodref 20 90), (0, .nameAndType 91 92), (0, u "dig"), (0, u "(Ljava/lang/String;IJJII)Z"), (3, u "law"), (0, u "(IIJI)Z")] 2

def k1m0 : Method := ⟨"<init>", "()V", ⟨[], none⟩, 1, none⟩
def k1c1 : Code := ⟨2, 3, method_2_code, #[], #[]⟩
def k1m1 : Method := ⟨"at", "(Ljava/lang/String;IC)Z", ⟨[(.object "java/lang/String"), .int, .char], some .boolean⟩, 10, some k1c1⟩
def k1c2 : Code := ⟨4, 4, method_3_code, #[], #[]⟩
def k1m2 : Method := ⟨"nz", "(JJ)I", ⟨[.long, .long], some .int⟩, 10, some k1c2⟩
def k1c3 : Code := ⟨5, 2, method_4_code, #[], #[]⟩
def k1m3 : Method := ⟨"digits", "(J)I", ⟨[.long], some .int⟩, 10, some k1c3⟩
def k1c4 : Code := ⟨7, 8, method_5_code, #[], #[]⟩
def k1m4 : Method := ⟨"dig", "(Ljava/lang/String;IJJII)Z", ⟨[(.object "java/lang/String"), .int, .long, .long, .int, .int], some .boolean⟩, 10, some k1c4⟩
def k1c5 : Code := ⟨8, 29, code, #[], #[]⟩
def k1m5 : Method := ⟨"law", "(IIJI)Z", ⟨[.int, .int, .long, .int], some .boolean⟩, 9, some k1c5⟩
/-- com/example/drain_shards/drainshards/LeaseToStringPinLaw -/
def k1 : Class := { plain "com/example/drain_shards/drainshards/LeaseToStringPinLaw" (some 0) with
  accessFlags := 49
  interfaces := #[]
  cf := some (fileOf pool1 20 #[] #[⟨1, 5, 6, #[]⟩, ⟨10, 67, 68, #[]⟩, ⟨10, 23, 24, #[]⟩, ⟨10, 87, 88, #[]⟩, ⟨10, 91, 92, #[]⟩, ⟨9, 96, 97, #[]⟩] 49 2 #[] #[])
  fields := #[]
  methods := #[k1m0, k1m1, k1m2, k1m3, k1m4, k1m5]
  instanceTypes := #[]
  staticTypes := #[]
  resolved := Array.replicate 100 none
  statics := none }

def pool2 : Array CpInfo := pool [(1, .class_ 2), (0, u "java/io/Serializable"), (0, .class_ 4), (0, u "java/lang/Object")] 2

/-- java/io/Serializable -/
def k2 : Class := { plain "java/io/Serializable" (some 0) with
  accessFlags := 1537
  interfaces := #[]
  cf := some (fileOf pool2 1 #[] #[] 1537 3 #[] #[])
  fields := #[]
  methods := #[]
  instanceTypes := #[]
  staticTypes := #[]
  resolved := Array.replicate 7 none
  statics := none }

def pool3 : Array CpInfo := pool [(1, .class_ 2), (0, u "java/lang/Comparable"), (0, .class_ 4), (0, u "java/lang/Object")] 7

/-- java/lang/Comparable -/
def k3 : Class := { plain "java/lang/Comparable" (some 0) with
  accessFlags := 1537
  interfaces := #[]
  cf := some (fileOf pool3 1 #[] #[] 1537 3 #[] #[])
  fields := #[]
  methods := #[]
  instanceTypes := #[]
  staticTypes := #[]
  resolved := Array.replicate 12 none
  statics := none }

def pool4 : Array CpInfo := pool [(2, .class_ 4), (1, u "java/lang/CharSequence"), (42, .class_ 48), (0, u "java/lang/CharSequence$1CodePointIterator"), (10, .class_ 60), (0, u "java/lang/CharSequence$1CharIterator"), (5, .class_ 67), (0, u "java/lang/Object")] 63

/-- java/lang/CharSequence -/
def k4 : Class := { plain "java/lang/CharSequence" (some 0) with
  accessFlags := 1537
  interfaces := #[]
  cf := some (fileOf pool4 2 #[.nestMembers #[47, 59]] #[] 1537 66 #[] #[])
  fields := #[]
  methods := #[]
  instanceTypes := #[]
  staticTypes := #[]
  resolved := Array.replicate 131 none
  statics := none }

def pool5 : Array CpInfo := pool [(1, .class_ 2), (0, u "java/lang/constant/Constable"), (0, .class_ 4), (0, u "java/lang/Object")] 6

/-- java/lang/constant/Constable -/
def k5 : Class := { plain "java/lang/constant/Constable" (some 0) with
  accessFlags := 1537
  interfaces := #[]
  cf := some (fileOf pool5 1 #[] #[] 1537 3 #[] #[])
  fields := #[]
  methods := #[]
  instanceTypes := #[]
  staticTypes := #[]
  resolved := Array.replicate 11 none
  statics := none }

def pool6 : Array CpInfo := pool [(1, .class_ 2), (0, u "java/lang/constant/ConstantDesc"), (0, .class_ 4), (0, u "java/lang/Object")] 32

/-- java/lang/constant/ConstantDesc -/
def k6 : Class := { plain "java/lang/constant/ConstantDesc" (some 0) with
  accessFlags := 1537
  interfaces := #[]
  cf := some (fileOf pool6 1 #[] #[] 1537 3 #[] #[])
  fields := #[]
  methods := #[]
  instanceTypes := #[]
  staticTypes := #[]
  resolved := Array.replicate 37 none
  statics := none }

def pool7 : Array CpInfo := pool [(1, .methodref 2 3), (0, .class_ 4), (0, .nameAndType 5 6), (0, u "java/lang/Object"), (0, u "<init>"), (0, u "()V"), (2, .fieldref 10 11), (0, .class_ 12), (0, .nameAndType 13 14), (0, u "java/lang/String"), (0, u "value"), (0, u "[B"), (0, .fieldref 10 16), (0, .nameAndType 17 18), (0, u "coder"), (0, u "B"), (2, u "hash"), (0, u "I"), (2, u "hashIsZero"), (0, u "Z"), (0, .methodref 10 28), (0, .nameAndType 5 29), (0, u "([CIILjava/lang/Void;)V"), (8, .fieldref 10 39), (0, .nameAndType 40 26), (0, u "COMPACT_STRINGS"), (1, .class_ 44), (1, u "java/lang/StringUTF16"), (0, u "compress"), (1, .methodref 42 48), (0, .nameAndType 49 50), (0, u "coderFromArrayLen"), (0, u "([BI)B"), (2, u "toBytes"), (0, .methodref 55 56), (0, .class_ 57), (0, .nameAndType 58 59), (0, u "java/util/Arrays"), (0, u "copyOfRange"), (0, u "([BII)[B"), (47, .class_ 109), (1, u "java/lang/StringLatin1"), (32, u "()Z"), (34, .methodref 42 178), (0, .nameAndType 45 179), (0, u "([CII)[B"), (13, .class_ 195), (1, u "java/lang/System"), (13, .methodref 10 210), (0, .nameAndType 5 211), (0, u "([BB)V"), (0, .methodref 193 213), (0, .nameAndType 214 215), (0, u "arraycopy"), (0, u "(Ljava/lang/Object;ILjava/lang/Object;II)V"), (118, u "()I"), (0, .methodref 10 336), (0, .nameAndType 17 337), (0, u "()B"), (2, u "()[B"), (22, u "([BI)C"), (5, u "(C)Z"), (21, u "(II)V"), (35, u "(I)C"), (61, .methodref 10 490), (0, .nameAndType 5 491), (0, u "(Ljava/lang/AbstractStringBuilder;Ljava/lang/Void;)V"), (0, .methodref 10 493), (0, .nameAndType 494 142), (0, u "isLatin1"), (0, .methodref 107 496), (0, .nameAndType 497 363), (0, u "charAt"), (3, u "checkIndex"), (4, .nameAndType 507 334), (0, u "length"), (24, u "getBytes"), (16, .methodref 550 506), (0, .class_ 551), (0, u "java/lang/AbstractStringBuilder"), (0, .methodref 550 553), (0, .nameAndType 554 340), (0, u "getValue"), (20, .class_ 576), (0, u "java/lang/CharSequence"), (22, u "CASE_INSENSITIVE_ORDER"), (0, u "Ljava/util/Comparator;"), (181, u "valueOf"), (0, u "(C)Ljava/lang/String;"), (37, u "([BIB)V"), (188, u "([C)V"), (4, .methodref 107 1016), (0, .nameAndType 1017 369), (0, u "canEncode"), (0, .methodref 107 1019), (0, .nameAndType 53 1020), (0, u "(C)[B"), (26, .methodref 550 493), (5, .fieldref 1054 1055), (0, .class_ 1056), (0, .nameAndType 1057 1058), (0, u "jdk/internal/util/Preconditions"), (0, u "SIOOBE_FORMATTER"), (0, u "Ljava/util/function/BiFunction;"), (0, .methodref 1054 1060), (0, .nameAndType 501 1061), (0, u "(IILjava/util/function/BiFunction;)I"), (39, u "serialPersistentFields"), (0, u "[Ljava/io/ObjectStreamField;"), (0, .class_ 1104), (0, u "java/lang/String$CaseInsensitiveComparator"), (1, .class_ 1107), (0, u "java/io/Serializable"), (0, .class_ 1109), (0, u "java/lang/Comparable"), (0, .class_ 1111), (0, u "java/lang/constant/Constable"), (0, .class_ 1113), (0, u "java/lang/constant/ConstantDesc"), (2, u "serialVersionUID"), (0, u "J"), (3, u "REPL"), (0, u "C"), (2, u "LATIN1"), (1, u "UTF16"), (105, u "(Ljava/lang/StringBuilder;)V")] 217

def k7m0 : Method := ⟨"<init>", "()V", ⟨[], none⟩, 1, none⟩
def k7c1 : Code := ⟨5, 2, jdk_42_method_3_code, #[], #[]⟩
def k7m1 : Method := ⟨"<init>", "([C)V", ⟨[(.array .char)], none⟩, 1, some k7c1⟩
def k7c2 : Code := ⟨3, 2, jdk_42_method_53_code, #[], #[]⟩
def k7m2 : Method := ⟨"<init>", "(Ljava/lang/StringBuilder;)V", ⟨[(.object "java/lang/StringBuilder")], none⟩, 1, some k7c2⟩
def k7c3 : Code := ⟨2, 1, jdk_42_method_54_code, #[], #[]⟩
def k7m3 : Method := ⟨"length", "()I", ⟨[], some .int⟩, 1, some k7c3⟩
def k7c4 : Code := ⟨2, 2, jdk_42_method_56_code, #[], #[]⟩
def k7m4 : Method := ⟨"charAt", "(I)C", ⟨[.int], some .char⟩, 1, some k7c4⟩
def k7c5 : Code := ⟨4, 1, jdk_42_method_139_code, #[], #[]⟩
def k7m5 : Method := ⟨"valueOf", "(C)Ljava/lang/String;", ⟨[.char], some (.object "java/lang/String")⟩, 9, some k7c5⟩
def k7c6 : Code := ⟨5, 4, jdk_42_method_147_code, #[], #[]⟩
def k7m6 : Method := ⟨"getBytes", "([BIB)V", ⟨[(.array .byte), .int, .byte], none⟩, 0, some k7c6⟩
def k7c7 : Code := ⟨4, 6, jdk_42_method_149_code, #[], #[]⟩
def k7m7 : Method := ⟨"<init>", "([CIILjava/lang/Void;)V", ⟨[(.array .char), .int, .int, (.object "java/lang/Void")], none⟩, 2, some k7c7⟩
def k7c8 : Code := ⟨5, 5, jdk_42_method_150_code, #[], #[]⟩
def k7m8 : Method := ⟨"<init>", "(Ljava/lang/AbstractStringBuilder;Ljava/lang/Void;)V", ⟨[(.object "java/lang/AbstractStringBuilder"), (.object "java/lang/Void")], none⟩, 0, some k7c8⟩
def k7c9 : Code := ⟨2, 3, jdk_42_method_151_code, #[], #[]⟩
def k7m9 : Method := ⟨"<init>", "([BB)V", ⟨[(.array .byte), .byte], none⟩, 0, some k7c9⟩
def k7c10 : Code := ⟨1, 1, jdk_42_method_152_code, #[], #[]⟩
def k7m10 : Method := ⟨"coder", "()B", ⟨[], some .byte⟩, 0, some k7c10⟩
def k7c11 : Code := ⟨1, 1, jdk_42_method_154_code, #[], #[]⟩
def k7m11 : Method := ⟨"isLatin1", "()Z", ⟨[], some .boolean⟩, 0, some k7c11⟩
def k7c12 : Code := ⟨3, 2, jdk_42_method_155_code, #[], #[]⟩
def k7m12 : Method := ⟨"checkIndex", "(II)V", ⟨[.int, .int], none⟩, 8, some k7c12⟩
/-- java/lang/String -/
def k7 : Class := { plain "java/lang/String" (some 0) with
  accessFlags := 49
  interfaces := #[2, 3, 4, 5, 6]
  cf := some (fileOf pool7 10 #[.nestMembers #[1103]] #[⟨1, 5, 6, #[]⟩, ⟨1, 5, 1010, #[]⟩, ⟨1, 5, 1233, #[]⟩, ⟨1, 507, 334, #[]⟩, ⟨1, 497, 427, #[]⟩, ⟨9, 782, 783, #[]⟩, ⟨0, 532, 821, #[]⟩, ⟨2, 5, 29, #[]⟩, ⟨0, 5, 491, #[]⟩, ⟨0, 5, 211, #[]⟩, ⟨0, 17, 337, #[]⟩, ⟨0, 494, 142, #[]⟩, ⟨8, 501, 391, #[]⟩] 49 2 #[1106, 1108, 575, 1110, 1112] #[⟨18, 13, 14, #[]⟩, ⟨18, 17, 18, #[]⟩, ⟨2, 21, 22, #[]⟩, ⟨2, 25, 26, #[]⟩, ⟨26, 1116, 1117, #[]⟩, ⟨24, 40, 26, #[]⟩, ⟨26, 1101, 1102, #[]⟩, ⟨26, 1121, 1122, #[]⟩, ⟨25, 599, 600, #[]⟩, ⟨24, 1125, 18, #[]⟩, ⟨24, 1127, 18, #[]⟩])
  fields := #[⟨"value", (.array .byte), 18, 0, 0⟩, ⟨"coder", .byte, 18, 1, 0⟩, ⟨"hash", .int, 2, 2, 0⟩, ⟨"hashIsZero", .boolean, 2, 3, 0⟩, ⟨"serialVersionUID", .long, 26, 0, 0⟩, ⟨"COMPACT_STRINGS", .boolean, 24, 1, 0⟩, ⟨"serialPersistentFields", (.array (.object "java/io/ObjectStreamField")), 26, 2, 0⟩, ⟨"REPL", .char, 26, 3, 0⟩, ⟨"CASE_INSENSITIVE_ORDER", (.object "java/util/Comparator"), 25, 4, 0⟩, ⟨"LATIN1", .byte, 24, 5, 0⟩, ⟨"UTF16", .byte, 24, 6, 0⟩]
  methods := #[k7m0, k7m1, k7m2, k7m3, k7m4, k7m5, k7m6, k7m7, k7m8, k7m9, k7m10, k7m11, k7m12]
  instanceTypes := #[(.array .byte), .byte, .int, .boolean]
  staticTypes := #[.long, .boolean, (.array (.object "java/io/ObjectStreamField")), .char, (.object "java/util/Comparator"), .byte, .byte]
  resolved := Array.replicate 1451 none
  statics := some 0 }

def pool8 : Array CpInfo := pool [(6, .class_ 8), (1, u "java/lang/Object"), (0, u "<init>"), (0, u "()V"), (1, .class_ 14), (1, u "java/lang/StringUTF16"), (31, u "$assertionsDisabled"), (0, u "Z"), (13, u "HI_BYTE_SHIFT"), (0, u "I"), (2, u "LO_BYTE_SHIFT"), (49, .methodref 12 116), (0, .nameAndType 117 118), (0, u "compress"), (0, u "([CI[BII)I"), (3, u "([CII)[B"), (138, u "coderFromArrayLen"), (0, u "([BI)B"), (106, .class_ 371), (1, u "java/lang/StringUTF16$LinesSpliterator"), (58, u "MAX_LENGTH"), (196, .class_ 628), (0, u "java/lang/StringUTF16$CodePointsSpliterator"), (0, .class_ 630), (0, u "java/lang/StringUTF16$CharsSpliterator")] 4

def k8m0 : Method := ⟨"<init>", "()V", ⟨[], none⟩, 0, none⟩
def k8c1 : Code := ⟨2, 2, jdk_52_method_15_code, #[], #[]⟩
def k8m1 : Method := ⟨"coderFromArrayLen", "([BI)B", ⟨[(.array .byte), .int], some .byte⟩, 8, some k8c1⟩
def k8c2 : Code := ⟨5, 6, jdk_52_method_16_code, #[], #[]⟩
def k8m2 : Method := ⟨"compress", "([CII)[B", ⟨[(.array .char), .int, .int], some (.array .byte)⟩, 9, some k8c2⟩
def k8c3 : Code := ⟨3, 7, jdk_52_method_21_code, #[], #[]⟩
def k8m3 : Method := ⟨"compress", "([CI[BII)I", ⟨[(.array .char), .int, (.array .byte), .int, .int], some .int⟩, 9, some k8c3⟩
/-- java/lang/StringUTF16 -/
def k8 : Class := { plain "java/lang/StringUTF16" (some 0) with
  accessFlags := 48
  interfaces := #[]
  cf := some (fileOf pool8 12 #[.nestMembers #[627, 629, 369]] #[⟨0, 9, 10, #[]⟩, ⟨8, 261, 262, #[]⟩, ⟨9, 117, 122, #[]⟩, ⟨9, 117, 118, #[]⟩] 48 6 #[] #[⟨26, 61, 62, #[]⟩, ⟨26, 65, 62, #[]⟩, ⟨24, 430, 62, #[]⟩, ⟨4120, 46, 47, #[]⟩])
  fields := #[⟨"HI_BYTE_SHIFT", .int, 26, 0, 0⟩, ⟨"LO_BYTE_SHIFT", .int, 26, 1, 0⟩, ⟨"MAX_LENGTH", .int, 24, 2, 0⟩, ⟨"$assertionsDisabled", .boolean, 4120, 3, 0⟩]
  methods := #[k8m0, k8m1, k8m2, k8m3]
  instanceTypes := #[]
  staticTypes := #[.int, .int, .int, .boolean]
  resolved := Array.replicate 635 none
  statics := none }

def pool9 : Array CpInfo := pool [(1, .class_ 2), (0, u "java/lang/String"), (1, .class_ 6), (1, u "java/lang/Object"), (0, u "<init>"), (0, u "()V"), (0, .methodref 1 10), (0, .nameAndType 11 12), (0, u "checkIndex"), (0, u "(II)V"), (1, .class_ 16), (1, u "java/lang/StringLatin1"), (36, u "([BI)C"), (36, u "canEncode"), (14, u "(C)Z"), (15, u "$assertionsDisabled"), (0, u "Z"), (98, .class_ 223), (1, u "java/lang/StringLatin1$LinesSpliterator"), (28, u "charAt"), (127, u "toBytes"), (1, u "(C)[B"), (7, .class_ 391), (0, u "java/lang/StringLatin1$CharsSpliterator")] 3

def k9m0 : Method := ⟨"<init>", "()V", ⟨[], none⟩, 0, none⟩
def k9c1 : Code := ⟨2, 2, jdk_43_method_2_code, #[], #[]⟩
def k9m1 : Method := ⟨"charAt", "([BI)C", ⟨[(.array .byte), .int], some .char⟩, 9, some k9c1⟩
def k9c2 : Code := ⟨2, 1, jdk_43_method_3_code, #[], #[]⟩
def k9m2 : Method := ⟨"canEncode", "(C)Z", ⟨[.char], some .boolean⟩, 9, some k9c2⟩
def k9c3 : Code := ⟨4, 1, jdk_43_method_46_code, #[], #[]⟩
def k9m3 : Method := ⟨"toBytes", "(C)[B", ⟨[.char], some (.array .byte)⟩, 9, some k9c3⟩
/-- java/lang/StringLatin1 -/
def k9 : Class := { plain "java/lang/StringLatin1" (some 0) with
  accessFlags := 48
  interfaces := #[]
  cf := some (fileOf pool9 14 #[.nestMembers #[390, 221]] #[⟨0, 7, 8, #[]⟩, ⟨9, 252, 53, #[]⟩, ⟨9, 90, 105, #[]⟩, ⟨9, 380, 382, #[]⟩] 48 4 #[] #[⟨4120, 121, 122, #[]⟩])
  fields := #[⟨"$assertionsDisabled", .boolean, 4120, 0, 0⟩]
  methods := #[k9m0, k9m1, k9m2, k9m3]
  instanceTypes := #[]
  staticTypes := #[.boolean]
  resolved := Array.replicate 395 none
  statics := none }

def pool10 : Array CpInfo := pool [(1, .methodref 2 3), (0, .class_ 4), (0, .nameAndType 5 6), (0, u "java/lang/Object"), (0, u "<init>"), (0, u "()V"), (0, .string 8), (0, u "leaseKey"), (0, .methodref 10 11), (0, .class_ 12), (0, .nameAndType 13 14), (0, u "java/util/Objects"), (0, u "requireNonNull"), (0, u "(Ljava/lang/Object;Ljava/lang/String;)Ljava/lang/Object;"), (0, .class_ 16), (0, u "java/lang/String"), (0, .fieldref 18 19), (0, .class_ 20), (0, .nameAndType 8 21), (0, u "com/example/drain_shards/drainshards/Lease"), (0, u "Ljava/lang/String;"), (0, .fieldref 18 23), (0, .nameAndType 24 21), (0, u "leaseOwner"), (0, .fieldref 18 26), (0, .nameAndType 27 28), (0, u "leaseCounter"), (0, u "J"), (0, .string 30), (0, u "checkpoint"), (0, .fieldref 18 32), (0, .nameAndType 30 21), (1, u "TRIM_HORIZON"), (13, .class_ 49), (0, u "java/lang/StringBuilder"), (0, .methodref 48 3), (2, .methodref 48 54), (0, .nameAndType 55 56), (0, u "append"), (0, u "(Ljava/lang/String;)Ljava/lang/StringBuilder;"), (2, .methodref 48 60), (0, .nameAndType 61 62), (0, u "toString"), (0, u "()Ljava/lang/String;"), (3, .string 67), (0, u "lease "), (0, .string 69), (0, u " (owner "), (0, .string 71), (0, u ", counter "), (0, .methodref 48 73), (0, .nameAndType 55 74), (0, u "(J)Ljava/lang/StringBuilder;"), (0, .string 76), (0, u ", checkpoint "), (0, .string 78), (0, u ")"), (1, u "SHARD_END"), (1, u "(Ljava/lang/String;Ljava/lang/String;JLjava/lang/String;)V")] 12

def k10c0 : Code := ⟨3, 6, prog_7_method_1_code, #[], #[]⟩
def k10m0 : Method := ⟨"<init>", "(Ljava/lang/String;Ljava/lang/String;JLjava/lang/String;)V", ⟨[(.object "java/lang/String"), (.object "java/lang/String"), .long, (.object "java/lang/String")], none⟩, 1, some k10c0⟩
def k10c1 : Code := ⟨3, 1, prog_7_method_7_code, #[], #[]⟩
def k10m1 : Method := ⟨"toString", "()Ljava/lang/String;", ⟨[], some (.object "java/lang/String")⟩, 1, some k10c1⟩
/-- com/example/drain_shards/drainshards/Lease -/
def k10 : Class := { plain "com/example/drain_shards/drainshards/Lease" (some 0) with
  accessFlags := 49
  interfaces := #[]
  cf := some (fileOf pool10 18 #[] #[⟨1, 5, 82, #[]⟩, ⟨1, 61, 62, #[]⟩] 49 2 #[] #[⟨25, 34, 21, #[]⟩, ⟨25, 80, 21, #[]⟩, ⟨18, 8, 21, #[]⟩, ⟨18, 24, 21, #[]⟩, ⟨18, 27, 28, #[]⟩, ⟨18, 30, 21, #[]⟩])
  fields := #[⟨"TRIM_HORIZON", (.object "java/lang/String"), 25, 0, 0⟩, ⟨"SHARD_END", (.object "java/lang/String"), 25, 1, 0⟩, ⟨"leaseKey", (.object "java/lang/String"), 18, 0, 0⟩, ⟨"leaseOwner", (.object "java/lang/String"), 18, 1, 0⟩, ⟨"leaseCounter", .long, 18, 2, 0⟩, ⟨"checkpoint", (.object "java/lang/String"), 18, 3, 0⟩]
  methods := #[k10m0, k10m1]
  instanceTypes := #[(.object "java/lang/String"), (.object "java/lang/String"), .long, (.object "java/lang/String")]
  staticTypes := #[(.object "java/lang/String"), (.object "java/lang/String")]
  resolved := Array.replicate 95 none
  statics := none }

def pool11 : Array CpInfo := pool [(2, .class_ 4), (1, u "java/lang/Object"), (0, u "<init>"), (0, u "()V"), (35, .class_ 44), (1, u "java/util/Objects"), (0, u "requireNonNull"), (48, u "(Ljava/lang/Object;Ljava/lang/String;)Ljava/lang/Object;")] 89

def k11m0 : Method := ⟨"<init>", "()V", ⟨[], none⟩, 2, none⟩
def k11c1 : Code := ⟨3, 2, jdk_31_method_11_code, #[], #[]⟩
def k11m1 : Method := ⟨"requireNonNull", "(Ljava/lang/Object;Ljava/lang/String;)Ljava/lang/Object;", ⟨[(.object "java/lang/Object"), (.object "java/lang/String")], some (.object "java/lang/Object")⟩, 9, some k11c1⟩
/-- java/util/Objects -/
def k11 : Class := { plain "java/util/Objects" (some 0) with
  accessFlags := 49
  interfaces := #[]
  cf := some (fileOf pool11 42 #[] #[⟨2, 5, 6, #[]⟩, ⟨9, 45, 94, #[]⟩] 49 2 #[] #[])
  fields := #[]
  methods := #[k11m0, k11m1]
  instanceTypes := #[]
  staticTypes := #[]
  resolved := Array.replicate 184 none
  statics := none }

def pool12 : Array CpInfo := pool [(1, .class_ 2), (0, u "java/lang/Appendable"), (0, .class_ 4), (0, u "java/lang/Object")] 9

/-- java/lang/Appendable -/
def k12 : Class := { plain "java/lang/Appendable" (some 0) with
  accessFlags := 1537
  interfaces := #[]
  cf := some (fileOf pool12 1 #[] #[] 1537 3 #[] #[])
  fields := #[]
  methods := #[]
  instanceTypes := #[]
  staticTypes := #[]
  resolved := Array.replicate 14 none
  statics := none }

def pool13 : Array CpInfo := pool [(1, .class_ 2), (0, u "java/lang/String"), (0, .methodref 4 5), (0, .class_ 6), (0, .nameAndType 7 8), (0, u "java/lang/Object"), (0, u "<init>"), (0, u "()V"), (1, .class_ 12), (1, u "java/lang/AbstractStringBuilder"), (0, u "EMPTYVALUE"), (0, u "[B"), (0, .fieldref 10 16), (0, .nameAndType 17 14), (0, u "value"), (0, .fieldref 1 19), (0, .nameAndType 20 21), (0, u "COMPACT_STRINGS"), (0, u "Z"), (0, .fieldref 10 23), (0, .nameAndType 24 25), (0, u "coder"), (0, u "B"), (6, .methodref 1 33), (0, .nameAndType 34 35), (0, u "length"), (0, u "()I"), (3, .integer 2147483647), (0, .methodref 1 41), (0, .nameAndType 24 42), (0, u "()B"), (2, u "append"), (0, u "(Ljava/lang/String;)Ljava/lang/AbstractStringBuilder;"), (1, .class_ 49), (0, u "java/lang/CharSequence"), (19, u "(Ljava/lang/String;)V"), (5, u "maybeLatin1"), (3, .fieldref 10 80), (0, .nameAndType 81 82), (0, u "count"), (0, u "I"), (0, .methodref 10 84), (0, .nameAndType 85 86), (0, u "isLatin1"), (0, u "()Z"), (13, .methodref 10 101), (0, .nameAndType 102 103), (0, u "ensureCapacityInternal"), (0, u "(I)V"), (0, .methodref 10 105), (0, .nameAndType 106 107), (0, u "newCapacity"), (0, u "(I)I"), (0, .methodref 109 110), (0, .class_ 111), (0, .nameAndType 112 113), (0, u "java/util/Arrays"), (0, u "copyOf"), (0, u "([BI)[B"), (0, .methodref 115 116), (0, .class_ 117), (0, .nameAndType 118 119), (0, u "jdk/internal/util/ArraysSupport"), (0, u "newLength"), (0, u "(III)I"), (68, u "getChars"), (15, .methodref 10 205), (0, .nameAndType 206 207), (0, u "appendNull"), (0, u "()Ljava/lang/AbstractStringBuilder;"), (0, .methodref 10 209), (0, .nameAndType 210 211), (0, u "putStringAt"), (0, u "(ILjava/lang/String;)V"), (5, u "inflateIfNeededFor"), (2, .nameAndType 221 222), (0, u "getBytes"), (0, u "([BIB)V"), (24, u "stringSize"), (6, .methodref 255 256), (0, .class_ 257), (0, .nameAndType 247 258), (0, u "java/lang/Long"), (0, u "(J)I"), (0, .methodref 255 260), (0, .nameAndType 188 261), (0, u "(JI[B)I"), (135, .methodref 10 398), (0, .nameAndType 217 69), (0, .methodref 1 220), (3, u "()[B"), (40, .class_ 445), (0, u "java/lang/Appendable"), (67, u "(J)Ljava/lang/AbstractStringBuilder;"), (38, u "getValue")] 56

def k13m0 : Method := ⟨"<init>", "()V", ⟨[], none⟩, 0, none⟩
def k13c1 : Code := ⟨2, 2, jdk_68_method_2_code, #[], #[]⟩
def k13m1 : Method := ⟨"<init>", "(I)V", ⟨[.int], none⟩, 0, some k13c1⟩
def k13c2 : Code := ⟨1, 1, jdk_68_method_6_code, #[], #[]⟩
def k13m2 : Method := ⟨"length", "()I", ⟨[], some .int⟩, 1, some k13c2⟩
def k13c3 : Code := ⟨4, 3, jdk_68_method_9_code, #[], #[]⟩
def k13m3 : Method := ⟨"ensureCapacityInternal", "(I)V", ⟨[.int], none⟩, 2, some k13c3⟩
def k13c4 : Code := ⟨5, 6, jdk_68_method_10_code, #[], #[]⟩
def k13m4 : Method := ⟨"newCapacity", "(I)I", ⟨[.int], some .int⟩, 2, some k13c4⟩
def k13c5 : Code := ⟨3, 3, jdk_68_method_22_code, #[], #[]⟩
def k13m5 : Method := ⟨"append", "(Ljava/lang/String;)Ljava/lang/AbstractStringBuilder;", ⟨[(.object "java/lang/String")], some (.object "java/lang/AbstractStringBuilder")⟩, 1, some k13c5⟩
def k13c6 : Code := ⟨6, 3, jdk_68_method_26_code, #[], #[]⟩
def k13m6 : Method := ⟨"appendNull", "()Ljava/lang/AbstractStringBuilder;", ⟨[], some (.object "java/lang/AbstractStringBuilder")⟩, 2, some k13c6⟩
def k13c7 : Code := ⟨5, 5, jdk_68_method_33_code, #[], #[]⟩
def k13m7 : Method := ⟨"append", "(J)Ljava/lang/AbstractStringBuilder;", ⟨[.long], some (.object "java/lang/AbstractStringBuilder")⟩, 1, some k13c7⟩
def k13c8 : Code := ⟨1, 1, jdk_68_method_64_code, #[], #[]⟩
def k13m8 : Method := ⟨"getValue", "()[B", ⟨[], some (.array .byte)⟩, 16, some k13c8⟩
def k13c9 : Code := ⟨1, 1, jdk_68_method_68_code, #[], #[]⟩
def k13m9 : Method := ⟨"isLatin1", "()Z", ⟨[], some .boolean⟩, 16, some k13c9⟩
def k13c10 : Code := ⟨2, 2, jdk_68_method_71_code, #[], #[]⟩
def k13m10 : Method := ⟨"inflateIfNeededFor", "(Ljava/lang/String;)V", ⟨[(.object "java/lang/String")], none⟩, 2, some k13c10⟩
def k13c11 : Code := ⟨4, 3, jdk_68_method_73_code, #[], #[]⟩
def k13m11 : Method := ⟨"putStringAt", "(ILjava/lang/String;)V", ⟨[.int, (.object "java/lang/String")], none⟩, 2, some k13c11⟩
/-- java/lang/AbstractStringBuilder -/
def k13 : Class := { plain "java/lang/AbstractStringBuilder" (some 0) with
  accessFlags := 1056
  interfaces := #[12, 4]
  cf := some (fileOf pool13 10 #[] #[⟨0, 7, 8, #[]⟩, ⟨0, 7, 103, #[]⟩, ⟨1, 34, 35, #[]⟩, ⟨2, 102, 103, #[]⟩, ⟨2, 106, 107, #[]⟩, ⟨1, 45, 46, #[]⟩, ⟨2, 206, 207, #[]⟩, ⟨1, 45, 513, #[]⟩, ⟨16, 552, 403, #[]⟩, ⟨16, 85, 86, #[]⟩, ⟨2, 217, 69, #[]⟩, ⟨2, 210, 211, #[]⟩] 1056 4 #[444, 48] #[⟨0, 17, 14, #[]⟩, ⟨0, 24, 25, #[]⟩, ⟨0, 75, 21, #[]⟩, ⟨0, 81, 82, #[]⟩, ⟨26, 13, 14, #[]⟩])
  fields := #[⟨"value", (.array .byte), 0, 0, 0⟩, ⟨"coder", .byte, 0, 1, 0⟩, ⟨"maybeLatin1", .boolean, 0, 2, 0⟩, ⟨"count", .int, 0, 3, 0⟩, ⟨"EMPTYVALUE", (.array .byte), 26, 0, 0⟩]
  methods := #[k13m0, k13m1, k13m2, k13m3, k13m4, k13m5, k13m6, k13m7, k13m8, k13m9, k13m10, k13m11]
  instanceTypes := #[(.array .byte), .byte, .boolean, .int]
  staticTypes := #[(.array .byte)]
  resolved := Array.replicate 609 none
  statics := none }

def pool14 : Array CpInfo := pool [(1, .methodref 2 3), (0, .class_ 4), (0, .nameAndType 5 6), (0, u "java/lang/AbstractStringBuilder"), (0, u "<init>"), (0, u "(I)V"), (11, .class_ 20), (1, u "java/lang/String"), (3, .class_ 26), (1, u "java/lang/StringBuilder"), (0, u "append"), (0, u "(Ljava/lang/String;)Ljava/lang/StringBuilder;"), (0, .methodref 2 30), (0, .nameAndType 27 31), (0, u "(Ljava/lang/String;)Ljava/lang/AbstractStringBuilder;"), (24, .methodref 2 57), (0, .nameAndType 27 58), (0, u "(J)Ljava/lang/AbstractStringBuilder;"), (78, .methodref 18 138), (0, .nameAndType 5 139), (0, u "(Ljava/lang/StringBuilder;)V"), (5, u "()V"), (10, u "()I"), (124, u "(J)Ljava/lang/StringBuilder;"), (61, .methodref 2 344), (0, .nameAndType 345 156), (0, u "length"), (3, .class_ 350), (0, u "java/lang/Appendable"), (0, .class_ 352), (0, u "java/io/Serializable"), (0, .class_ 354), (0, u "java/lang/Comparable"), (0, .class_ 356), (0, u "java/lang/CharSequence"), (0, u "serialVersionUID"), (0, u "J"), (40, u "toString"), (0, u "()Ljava/lang/String;")] 21

def k14c0 : Code := ⟨2, 1, jdk_67_method_1_code, #[], #[]⟩
def k14m0 : Method := ⟨"<init>", "()V", ⟨[], none⟩, 1, some k14c0⟩
def k14c1 : Code := ⟨2, 2, jdk_67_method_7_code, #[], #[]⟩
def k14m1 : Method := ⟨"append", "(Ljava/lang/String;)Ljava/lang/StringBuilder;", ⟨[(.object "java/lang/String")], some (.object "java/lang/StringBuilder")⟩, 1, some k14c1⟩
def k14c2 : Code := ⟨3, 3, jdk_67_method_16_code, #[], #[]⟩
def k14m2 : Method := ⟨"append", "(J)Ljava/lang/StringBuilder;", ⟨[.long], some (.object "java/lang/StringBuilder")⟩, 1, some k14c2⟩
def k14c3 : Code := ⟨3, 1, jdk_67_method_42_code, #[], #[]⟩
def k14m3 : Method := ⟨"toString", "()Ljava/lang/String;", ⟨[], some (.object "java/lang/String")⟩, 1, some k14c3⟩
def k14c4 : Code := ⟨1, 1, jdk_67_method_93_code, #[], #[]⟩
def k14m4 : Method := ⟨"length", "()I", ⟨[], some .int⟩, 4161, some k14c4⟩
/-- java/lang/StringBuilder -/
def k14 : Class := { plain "java/lang/StringBuilder" (some 13) with
  accessFlags := 49
  interfaces := #[12, 2, 3, 4]
  cf := some (fileOf pool14 24 #[] #[⟨1, 5, 145, #[]⟩, ⟨1, 27, 28, #[]⟩, ⟨1, 27, 281, #[]⟩, ⟨1, 399, 400, #[]⟩, ⟨4161, 345, 156, #[]⟩] 49 2 #[349, 351, 353, 355] #[⟨24, 357, 358, #[]⟩])
  fields := #[⟨"serialVersionUID", .long, 24, 0, 0⟩]
  methods := #[k14m0, k14m1, k14m2, k14m3, k14m4]
  instanceTypes := #[(.array .byte), .byte, .boolean, .int]
  staticTypes := #[.long]
  resolved := Array.replicate 422 none
  statics := none }

def pool15 : Array CpInfo := pool [(2, .class_ 4), (1, u "java/lang/Object"), (0, u "<init>"), (0, u "()V"), (1, .class_ 10), (1, u "java/lang/System"), (0, u "allowSecurityManager"), (0, u "I"), (16, u "cons"), (0, u "Ljava/io/Console;"), (77, .class_ 110), (1, u "java/lang/System$CallersHolder"), (43, u "initialErrStream"), (0, u "Ljava/io/PrintStream;"), (19, u "security"), (0, u "Ljava/lang/SecurityManager;"), (31, .class_ 209), (0, u "java/lang/System$1"), (7, u "props"), (0, u "Ljava/util/Properties;"), (2, u "lineSeparator"), (0, u "Ljava/lang/String;"), (96, .class_ 321), (1, u "java/lang/System$LoggerFinder"), (5, .class_ 328), (0, u "java/lang/System$Logger"), (67, u "err"), (2, u "out"), (91, u "notSupportedJnuEncoding"), (15, u "in"), (17, u "initialIn"), (0, u "Ljava/io/InputStream;"), (35, u "bootLayer"), (0, u "Ljava/lang/ModuleLayer;"), (99, .class_ 664), (0, u "java/lang/System$2"), (9, u "NEVER"), (2, u "MAYBE"), (49, u "arraycopy"), (0, u "(Ljava/lang/Object;ILjava/lang/Object;II)V"), (72, .class_ 802), (0, u "java/lang/System$Logger$Level")] 31

def k15m0 : Method := ⟨"<init>", "()V", ⟨[], none⟩, 2, none⟩
def k15m1 : Method := ⟨"arraycopy", "(Ljava/lang/Object;ILjava/lang/Object;II)V", ⟨[(.object "java/lang/Object"), .int, (.object "java/lang/Object"), .int, .int], none⟩, 265, none⟩
/-- java/lang/System -/
def k15 : Class := { plain "java/lang/System" (some 0) with
  accessFlags := 49
  interfaces := #[]
  cf := some (fileOf pool15 8 #[.nestMembers #[319, 327, 801, 108, 663, 208]] #[⟨2, 5, 6, #[]⟩, ⟨265, 727, 728, #[]⟩] 49 2 #[] #[⟨25, 507, 526, #[]⟩, ⟨25, 399, 155, #[]⟩, ⟨25, 396, 155, #[]⟩, ⟨10, 525, 526, #[]⟩, ⟨26, 674, 12, #[]⟩, ⟨26, 677, 12, #[]⟩, ⟨10, 11, 12, #[]⟩, ⟨74, 175, 176, #[]⟩, ⟨10, 491, 222, #[]⟩, ⟨74, 29, 30, #[]⟩, ⟨74, 154, 155, #[]⟩, ⟨10, 217, 218, #[]⟩, ⟨10, 221, 222, #[]⟩, ⟨8, 562, 563, #[]⟩])
  fields := #[⟨"in", (.object "java/io/InputStream"), 25, 0, 0⟩, ⟨"out", (.object "java/io/PrintStream"), 25, 1, 0⟩, ⟨"err", (.object "java/io/PrintStream"), 25, 2, 0⟩, ⟨"initialIn", (.object "java/io/InputStream"), 10, 3, 0⟩, ⟨"NEVER", .int, 26, 4, 0⟩, ⟨"MAYBE", .int, 26, 5, 0⟩, ⟨"allowSecurityManager", .int, 10, 6, 0⟩, ⟨"security", (.object "java/lang/SecurityManager"), 74, 7, 0⟩, ⟨"notSupportedJnuEncoding", (.object "java/lang/String"), 10, 8, 0⟩, ⟨"cons", (.object "java/io/Console"), 74, 9, 0⟩, ⟨"initialErrStream", (.object "java/io/PrintStream"), 74, 10, 0⟩, ⟨"props", (.object "java/util/Properties"), 10, 11, 0⟩, ⟨"lineSeparator", (.object "java/lang/String"), 10, 12, 0⟩, ⟨"bootLayer", (.object "java/lang/ModuleLayer"), 8, 13, 0⟩]
  methods := #[k15m0, k15m1]
  instanceTypes := #[]
  staticTypes := #[(.object "java/io/InputStream"), (.object "java/io/PrintStream"), (.object "java/io/PrintStream"), (.object "java/io/InputStream"), .int, .int, .int, (.object "java/lang/SecurityManager"), (.object "java/lang/String"), (.object "java/io/Console"), (.object "java/io/PrintStream"), (.object "java/util/Properties"), (.object "java/lang/String"), (.object "java/lang/ModuleLayer")]
  resolved := Array.replicate 834 none
  statics := none }

def pool16 : Array CpInfo := pool [(9, u "<init>"), (6, .class_ 18), (1, u "java/lang/Object"), (0, u "()V"), (1, .class_ 23), (1, u "jdk/internal/util/ArraysSupport"), (0, u "LOG2_ARRAY_LONG_INDEX_SCALE"), (0, u "I"), (2, u "U"), (0, u "Ljdk/internal/misc/Unsafe;"), (8, u "BIG_ENDIAN"), (0, u "Z"), (8, u "LOG2_BYTE_BIT_SIZE"), (4, u "LOG2_ARRAY_INT_INDEX_SCALE"), (54, u "JLA"), (0, u "Ljdk/internal/access/JavaLangAccess;"), (11, u "LOG2_ARRAY_BOOLEAN_INDEX_SCALE"), (9, u "LOG2_ARRAY_BYTE_INDEX_SCALE"), (5, u "LOG2_ARRAY_CHAR_INDEX_SCALE"), (5, u "LOG2_ARRAY_SHORT_INDEX_SCALE"), (18, u "LOG2_ARRAY_FLOAT_INDEX_SCALE"), (24, u "LOG2_ARRAY_DOUBLE_INDEX_SCALE"), (6, .methodref 195 196), (0, .class_ 197), (0, .nameAndType 198 199), (0, u "java/lang/Math"), (0, u "max"), (0, u "(II)I"), (0, .integer 2147483639), (76, u "T_BOOLEAN"), (2, u "T_CHAR"), (1, u "T_FLOAT"), (1, u "T_DOUBLE"), (1, u "T_BYTE"), (1, u "T_SHORT"), (1, u "T_INT"), (1, u "T_LONG"), (1, u "SOFT_MAX_ARRAY_LENGTH"), (56, u "newLength"), (0, u "(III)I")] 25

def k16m0 : Method := ⟨"<init>", "()V", ⟨[], none⟩, 2, none⟩
def k16c1 : Code := ⟨3, 4, jdk_48_method_27_code, #[], #[]⟩
def k16m1 : Method := ⟨"newLength", "(III)I", ⟨[.int, .int, .int], some .int⟩, 9, some k16c1⟩
/-- jdk/internal/util/ArraysSupport -/
def k16 : Class := { plain "jdk/internal/util/ArraysSupport" (some 0) with
  accessFlags := 33
  interfaces := #[]
  cf := some (fileOf pool16 21 #[] #[⟨2, 9, 19, #[]⟩, ⟨9, 351, 352, #[]⟩] 33 16 #[] #[⟨24, 28, 29, #[]⟩, ⟨26, 38, 39, #[]⟩, ⟨25, 121, 25, #[]⟩, ⟨25, 131, 25, #[]⟩, ⟨25, 137, 25, #[]⟩, ⟨25, 143, 25, #[]⟩, ⟨25, 53, 25, #[]⟩, ⟨25, 24, 25, #[]⟩, ⟨25, 162, 25, #[]⟩, ⟨25, 187, 25, #[]⟩, ⟨26, 48, 25, #[]⟩, ⟨25, 277, 25, #[]⟩, ⟨25, 280, 25, #[]⟩, ⟨25, 282, 25, #[]⟩, ⟨25, 284, 25, #[]⟩, ⟨25, 286, 25, #[]⟩, ⟨25, 288, 25, #[]⟩, ⟨25, 290, 25, #[]⟩, ⟨25, 292, 25, #[]⟩, ⟨26, 108, 109, #[]⟩, ⟨25, 294, 25, #[]⟩])
  fields := #[⟨"U", (.object "jdk/internal/misc/Unsafe"), 24, 0, 0⟩, ⟨"BIG_ENDIAN", .boolean, 26, 1, 0⟩, ⟨"LOG2_ARRAY_BOOLEAN_INDEX_SCALE", .int, 25, 2, 0⟩, ⟨"LOG2_ARRAY_BYTE_INDEX_SCALE", .int, 25, 3, 0⟩, ⟨"LOG2_ARRAY_CHAR_INDEX_SCALE", .int, 25, 4, 0⟩, ⟨"LOG2_ARRAY_SHORT_INDEX_SCALE", .int, 25, 5, 0⟩, ⟨"LOG2_ARRAY_INT_INDEX_SCALE", .int, 25, 6, 0⟩, ⟨"LOG2_ARRAY_LONG_INDEX_SCALE", .int, 25, 7, 0⟩, ⟨"LOG2_ARRAY_FLOAT_INDEX_SCALE", .int, 25, 8, 0⟩, ⟨"LOG2_ARRAY_DOUBLE_INDEX_SCALE", .int, 25, 9, 0⟩, ⟨"LOG2_BYTE_BIT_SIZE", .int, 26, 10, 0⟩, ⟨"T_BOOLEAN", .int, 25, 11, 0⟩, ⟨"T_CHAR", .int, 25, 12, 0⟩, ⟨"T_FLOAT", .int, 25, 13, 0⟩, ⟨"T_DOUBLE", .int, 25, 14, 0⟩, ⟨"T_BYTE", .int, 25, 15, 0⟩, ⟨"T_SHORT", .int, 25, 16, 0⟩, ⟨"T_INT", .int, 25, 17, 0⟩, ⟨"T_LONG", .int, 25, 18, 0⟩, ⟨"JLA", (.object "jdk/internal/access/JavaLangAccess"), 26, 19, 0⟩, ⟨"SOFT_MAX_ARRAY_LENGTH", .int, 25, 20, 0⟩]
  methods := #[k16m0, k16m1]
  instanceTypes := #[]
  staticTypes := #[(.object "jdk/internal/misc/Unsafe"), .boolean, .int, .int, .int, .int, .int, .int, .int, .int, .int, .int, .int, .int, .int, .int, .int, .int, .int, (.object "jdk/internal/access/JavaLangAccess"), .int]
  resolved := Array.replicate 378 none
  statics := none }

def pool17 : Array CpInfo := pool [(1, .class_ 2), (0, u "java/lang/Math"), (1, .class_ 6), (1, u "java/lang/Object"), (0, u "<init>"), (0, u "()V"), (89, .class_ 100), (1, u "java/lang/Math$RandomNumberGeneratorHolder"), (23, u "abs"), (0, u "(J)J"), (46, u "negativeZeroFloatBits"), (0, u "J"), (2, u "negativeZeroDoubleBits"), (21, u "max"), (2, u "min"), (43, u "$assertionsDisabled"), (0, u "Z"), (88, u "(II)I"), (2, u "twoToTheDoubleScaleDown"), (0, u "D"), (4, u "twoToTheDoubleScaleUp"), (9, u "E"), (3, u "PI"), (2, u "TAU"), (2, u "DEGREES_TO_RADIANS"), (0, u "RADIANS_TO_DEGREES")] 94

def k17m0 : Method := ⟨"<init>", "()V", ⟨[], none⟩, 2, none⟩
def k17c1 : Code := ⟨4, 2, jdk_29_method_61_code, #[], #[]⟩
def k17m1 : Method := ⟨"abs", "(J)J", ⟨[.long], some .long⟩, 9, some k17c1⟩
def k17c2 : Code := ⟨2, 2, jdk_29_method_65_code, #[], #[]⟩
def k17m2 : Method := ⟨"max", "(II)I", ⟨[.int, .int], some .int⟩, 9, some k17c2⟩
def k17c3 : Code := ⟨2, 2, jdk_29_method_69_code, #[], #[]⟩
def k17m3 : Method := ⟨"min", "(II)I", ⟨[.int, .int], some .int⟩, 9, some k17c3⟩
/-- java/lang/Math -/
def k17 : Class := { plain "java/lang/Math" (some 0) with
  accessFlags := 49
  interfaces := #[]
  cf := some (fileOf pool17 1 #[.nestMembers #[98]] #[⟨2, 7, 8, #[]⟩, ⟨9, 124, 125, #[]⟩, ⟨9, 198, 335, #[]⟩, ⟨9, 201, 335, #[]⟩] 49 4 #[] #[⟨25, 354, 339, #[]⟩, ⟨25, 358, 339, #[]⟩, ⟨25, 361, 339, #[]⟩, ⟨26, 364, 339, #[]⟩, ⟨26, 365, 339, #[]⟩, ⟨26, 172, 173, #[]⟩, ⟨26, 176, 173, #[]⟩, ⟨8, 344, 339, #[]⟩, ⟨8, 338, 339, #[]⟩, ⟨4120, 245, 246, #[]⟩])
  fields := #[⟨"E", .double, 25, 0, 0⟩, ⟨"PI", .double, 25, 1, 0⟩, ⟨"TAU", .double, 25, 2, 0⟩, ⟨"DEGREES_TO_RADIANS", .double, 26, 3, 0⟩, ⟨"RADIANS_TO_DEGREES", .double, 26, 4, 0⟩, ⟨"negativeZeroFloatBits", .long, 26, 5, 0⟩, ⟨"negativeZeroDoubleBits", .long, 26, 6, 0⟩, ⟨"twoToTheDoubleScaleUp", .double, 8, 7, 0⟩, ⟨"twoToTheDoubleScaleDown", .double, 8, 8, 0⟩, ⟨"$assertionsDisabled", .boolean, 4120, 9, 0⟩]
  methods := #[k17m0, k17m1, k17m2, k17m3]
  instanceTypes := #[]
  staticTypes := #[.double, .double, .double, .double, .double, .long, .long, .double, .double, .boolean]
  resolved := Array.replicate 460 none
  statics := none }

def pool18 : Array CpInfo := pool [(2, .class_ 4), (1, u "java/lang/Object"), (0, u "<init>"), (0, u "()V"), (7, .class_ 16), (1, u "java/util/Arrays"), (57, .class_ 76), (1, u "java/util/Arrays$NaturalOrder"), (36, .class_ 115), (1, u "java/util/Arrays$LegacyMergeSort"), (1, u "Z"), (21, u "copyOfRange"), (10, .methodref 151 152), (0, .class_ 153), (0, .nameAndType 154 155), (0, u "java/lang/System"), (0, u "arraycopy"), (0, u "(Ljava/lang/Object;ILjava/lang/Object;II)V"), (146, u "copyOf"), (1, .methodref 305 306), (0, .class_ 307), (0, .nameAndType 308 309), (0, u "java/lang/Math"), (0, u "min"), (0, u "(II)I"), (29, .methodref 14 340), (0, .nameAndType 341 342), (0, u "copyOfRangeByte"), (0, u "([BII)[B"), (0, .methodref 14 344), (0, .nameAndType 345 346), (0, u "checkLength"), (0, u "(II)V"), (28, .class_ 376), (0, u "java/util/Arrays$ArrayList"), (68, u "$assertionsDisabled"), (269, u "MIN_ARRAY_SORT_GRAN"), (0, u "I"), (2, u "INSERTIONSORT_THRESHOLD"), (149, u "([BI)[B"), (105, .class_ 976), (0, u "java/util/Arrays$ArrayItr")] 52

def k18m0 : Method := ⟨"<init>", "()V", ⟨[], none⟩, 2, none⟩
def k18c1 : Code := ⟨6, 3, jdk_65_method_121_code, #[], #[]⟩
def k18m1 : Method := ⟨"copyOf", "([BI)[B", ⟨[(.array .byte), .int], some (.array .byte)⟩, 9, some k18c1⟩
def k18c2 : Code := ⟨4, 2, jdk_65_method_131_code, #[], #[]⟩
def k18m2 : Method := ⟨"checkLength", "(II)V", ⟨[.int, .int], none⟩, 10, some k18c2⟩
def k18c3 : Code := ⟨3, 3, jdk_65_method_132_code, #[], #[]⟩
def k18m3 : Method := ⟨"copyOfRange", "([BII)[B", ⟨[(.array .byte), .int, .int], some (.array .byte)⟩, 9, some k18c3⟩
def k18c4 : Code := ⟨6, 5, jdk_65_method_133_code, #[], #[]⟩
def k18m4 : Method := ⟨"copyOfRangeByte", "([BII)[B", ⟨[(.array .byte), .int, .int], some (.array .byte)⟩, 10, some k18c4⟩
/-- java/util/Arrays -/
def k18 : Class := { plain "java/util/Arrays" (some 0) with
  accessFlags := 49
  interfaces := #[]
  cf := some (fileOf pool18 14 #[.nestMembers #[975, 375, 113, 74]] #[⟨2, 5, 6, #[]⟩, ⟨9, 302, 869, #[]⟩, ⟨10, 345, 346, #[]⟩, ⟨9, 139, 342, #[]⟩, ⟨10, 341, 342, #[]⟩] 49 2 #[] #[⟨26, 715, 716, #[]⟩, ⟨26, 719, 716, #[]⟩, ⟨4120, 445, 117, #[]⟩])
  fields := #[⟨"MIN_ARRAY_SORT_GRAN", .int, 26, 0, 0⟩, ⟨"INSERTIONSORT_THRESHOLD", .int, 26, 1, 0⟩, ⟨"$assertionsDisabled", .boolean, 4120, 2, 0⟩]
  methods := #[k18m0, k18m1, k18m2, k18m3, k18m4]
  instanceTypes := #[]
  staticTypes := #[.int, .int, .boolean]
  resolved := Array.replicate 1029 none
  statics := none }

def pool19 : Array CpInfo := pool [(2, .class_ 4), (1, u "java/lang/Object"), (0, u "<init>"), (0, u "()V"), (1, .class_ 10), (1, u "java/lang/Number"), (2, .class_ 14), (0, u "java/io/Serializable"), (0, u "serialVersionUID"), (0, u "J")] 20

def k19m0 : Method := ⟨"<init>", "()V", ⟨[], none⟩, 1, none⟩
/-- java/lang/Number -/
def k19 : Class := { plain "java/lang/Number" (some 0) with
  accessFlags := 1057
  interfaces := #[2]
  cf := some (fileOf pool19 8 #[] #[⟨1, 5, 6, #[]⟩] 1057 2 #[13] #[⟨26, 15, 16, #[]⟩])
  fields := #[⟨"serialVersionUID", .long, 26, 0, 0⟩]
  methods := #[k19m0]
  instanceTypes := #[]
  staticTypes := #[.long]
  resolved := Array.replicate 37 none
  statics := none }

def pool20 : Array CpInfo := pool [(1, .class_ 2), (0, u "java/lang/Long"), (15, .class_ 20), (1, u "java/lang/Integer"), (32, .long 10), (47, u "(J)I"), (18, u "stringSize"), (2, u "getChars"), (0, u "(JI[B)I"), (4, .long 18446744071562067968), (1, .long 100), (1, .fieldref 18 134), (0, .nameAndType 135 136), (0, u "DigitOnes"), (0, u "[B"), (0, .fieldref 18 138), (0, .nameAndType 139 136), (0, u "DigitTens"), (0, .long 18446744073709551606), (94, .class_ 237), (1, u "java/lang/Long$LongCache"), (33, .class_ 272), (0, u "java/lang/Number"), (2, u "value"), (0, u "J"), (84, u "TYPE"), (0, u "Ljava/lang/Class;"), (0, .class_ 364), (0, u "java/lang/Comparable"), (0, .class_ 366), (0, u "java/lang/constant/Constable"), (0, .class_ 368), (0, u "java/lang/constant/ConstantDesc"), (0, u "MIN_VALUE"), (1, u "MAX_VALUE"), (4, u "SIZE"), (0, u "I"), (1, u "BYTES"), (1, u "serialVersionUID")] 142

def k20c0 : Code := ⟨4, 11, jdk_35_method_14_code, #[], #[]⟩
def k20m0 : Method := ⟨"getChars", "(JI[B)I", ⟨[.long, .int, (.array .byte)], some .int⟩, 8, some k20c0⟩
def k20c1 : Code := ⟨4, 6, jdk_35_method_15_code, #[], #[]⟩
def k20m1 : Method := ⟨"stringSize", "(J)I", ⟨[.long], some .int⟩, 8, some k20c1⟩
/-- java/lang/Long -/
def k20 : Class := { plain "java/lang/Long" (some 19) with
  accessFlags := 49
  interfaces := #[3, 5, 6]
  cf := some (fileOf pool20 1 #[.nestMembers #[235]] #[⟨8, 123, 124, #[]⟩, ⟨8, 120, 101, #[]⟩] 49 271 #[363, 365, 367] #[⟨25, 369, 276, #[]⟩, ⟨25, 371, 276, #[]⟩, ⟨25, 361, 362, #[]⟩, ⟨18, 275, 276, #[]⟩, ⟨25, 376, 377, #[]⟩, ⟨25, 379, 377, #[]⟩, ⟨26, 381, 276, #[]⟩])
  fields := #[⟨"MIN_VALUE", .long, 25, 0, 0⟩, ⟨"MAX_VALUE", .long, 25, 1, 0⟩, ⟨"TYPE", (.object "java/lang/Class"), 25, 2, 0⟩, ⟨"value", .long, 18, 0, 0⟩, ⟨"SIZE", .int, 25, 3, 0⟩, ⟨"BYTES", .int, 25, 4, 0⟩, ⟨"serialVersionUID", .long, 26, 5, 0⟩]
  methods := #[k20m0, k20m1]
  instanceTypes := #[.long]
  staticTypes := #[.long, .long, (.object "java/lang/Class"), .int, .int, .long]
  resolved := Array.replicate 524 none
  statics := none }

def pool21 : Array CpInfo := pool [(1, .class_ 2), (0, u "java/lang/Integer"), (16, u "digits"), (0, u "[C"), (64, u "DigitOnes"), (0, u "[B"), (2, u "DigitTens"), (99, .class_ 190), (0, u "java/lang/Integer$IntegerCache"), (3, u "I"), (8, .class_ 204), (0, u "java/lang/Number"), (2, u "value"), (94, u "TYPE"), (0, u "Ljava/lang/Class;"), (0, .class_ 305), (0, u "java/lang/Comparable"), (0, .class_ 307), (0, u "java/lang/constant/Constable"), (0, .class_ 309), (0, u "java/lang/constant/ConstantDesc"), (0, u "MIN_VALUE"), (1, u "MAX_VALUE"), (3, u "SIZE"), (1, u "BYTES"), (1, u "serialVersionUID"), (0, u "J")] 131

/-- java/lang/Integer -/
def k21 : Class := { plain "java/lang/Integer" (some 19) with
  accessFlags := 49
  interfaces := #[3, 5, 6]
  cf := some (fileOf pool21 1 #[.nestMembers #[189]] #[] 49 203 #[304, 306, 308] #[⟨25, 310, 194, #[]⟩, ⟨25, 312, 194, #[]⟩, ⟨25, 302, 303, #[]⟩, ⟨24, 19, 20, #[]⟩, ⟨24, 89, 86, #[]⟩, ⟨24, 85, 86, #[]⟩, ⟨18, 207, 194, #[]⟩, ⟨25, 316, 194, #[]⟩, ⟨25, 318, 194, #[]⟩, ⟨26, 320, 321, #[]⟩])
  fields := #[⟨"MIN_VALUE", .int, 25, 0, 0⟩, ⟨"MAX_VALUE", .int, 25, 1, 0⟩, ⟨"TYPE", (.object "java/lang/Class"), 25, 2, 0⟩, ⟨"digits", (.array .char), 24, 3, 0⟩, ⟨"DigitTens", (.array .byte), 24, 4, 0⟩, ⟨"DigitOnes", (.array .byte), 24, 5, 0⟩, ⟨"value", .int, 18, 0, 0⟩, ⟨"SIZE", .int, 25, 6, 0⟩, ⟨"BYTES", .int, 25, 7, 0⟩, ⟨"serialVersionUID", .long, 26, 8, 0⟩]
  methods := #[]
  instanceTypes := #[.int]
  staticTypes := #[.int, .int, (.object "java/lang/Class"), (.array .char), (.array .byte), (.array .byte), .int, .int, .long]
  resolved := Array.replicate 453 none
  statics := some 1 }

def pool22 : Array CpInfo := pool [(2, .class_ 4), (1, u "java/lang/Object"), (0, u "<init>"), (0, u "()V"), (17, .class_ 26), (1, u "jdk/internal/util/Preconditions"), (6, u "checkIndex"), (21, .class_ 56), (0, u "jdk/internal/util/Preconditions$4"), (57, .class_ 115), (0, u "jdk/internal/util/Preconditions$1"), (7, u "SIOOBE_FORMATTER"), (0, u "Ljava/util/function/BiFunction;"), (0, .class_ 126), (0, u "jdk/internal/util/Preconditions$2"), (3, u "AIOOBE_FORMATTER"), (0, .class_ 132), (0, u "jdk/internal/util/Preconditions$3"), (3, u "IOOBE_FORMATTER"), (41, u "(IILjava/util/function/BiFunction;)I")] 15

def k22m0 : Method := ⟨"<init>", "()V", ⟨[], none⟩, 1, none⟩
def k22c1 : Code := ⟨3, 3, jdk_41_method_11_code, #[], #[]⟩
def k22m1 : Method := ⟨"checkIndex", "(IILjava/util/function/BiFunction;)I", ⟨[.int, .int, (.object "java/util/function/BiFunction")], some .int⟩, 9, some k22c1⟩
/-- jdk/internal/util/Preconditions -/
def k22 : Class := { plain "jdk/internal/util/Preconditions" (some 0) with
  accessFlags := 33
  interfaces := #[]
  cf := some (fileOf pool22 24 #[.nestMembers #[55, 131, 125, 114]] #[⟨1, 5, 6, #[]⟩, ⟨9, 33, 178, #[]⟩] 33 2 #[] #[⟨25, 123, 124, #[]⟩, ⟨25, 130, 124, #[]⟩, ⟨25, 136, 124, #[]⟩])
  fields := #[⟨"SIOOBE_FORMATTER", (.object "java/util/function/BiFunction"), 25, 0, 0⟩, ⟨"AIOOBE_FORMATTER", (.object "java/util/function/BiFunction"), 25, 1, 0⟩, ⟨"IOOBE_FORMATTER", (.object "java/util/function/BiFunction"), 25, 2, 0⟩]
  methods := #[k22m0, k22m1]
  instanceTypes := #[]
  staticTypes := #[(.object "java/util/function/BiFunction"), (.object "java/util/function/BiFunction"), (.object "java/util/function/BiFunction")]
  resolved := Array.replicate 194 none
  statics := some 2 }

def pool23 : Array CpInfo := pool [(1, u "java/lang/Cloneable"), (0, .class_ 1), (0, u "java/lang/Object"), (0, .class_ 3)] 3

/-- java/lang/Cloneable -/
def k23 : Class := { plain "java/lang/Cloneable" (some 0) with
  accessFlags := 1537
  interfaces := #[]
  cf := some (fileOf pool23 2 #[] #[] 1537 4 #[] #[])
  fields := #[]
  methods := #[]
  instanceTypes := #[]
  staticTypes := #[]
  resolved := Array.replicate 8 none
  statics := none }

/-- the primitive byte -/
def k24 : Class := { plain "byte" none with kind := .primitive 'B', accessFlags := 0x411 }
/-- [B -/
def k25 : Class := { plain "[B" (some 0) with kind := .array 24 .byte, interfaces := #[23, 2], accessFlags := 1041 }

/-- the primitive char -/
def k26 : Class := { plain "char" none with kind := .primitive 'C', accessFlags := 0x411 }
/-- [C -/
def k27 : Class := { plain "[C" (some 0) with kind := .array 26 .char, interfaces := #[23, 2], accessFlags := 1041 }

/-- the primitive int -/
def k28 : Class := { plain "int" none with kind := .primitive 'I', accessFlags := 0x411 }
/-- [I -/
def k29 : Class := { plain "[I" (some 0) with kind := .array 28 .int, interfaces := #[23, 2], accessFlags := 1041 }

def heap : Heap := #[{ cls := 7, slots := #[.long 0, .int 1, .null, .int 0, .null, .int 0, .int 0], vm := .statics 7 },
  { cls := 21, slots := #[.int 0, .int 0, .null, .null, .ref 4, .ref 3, .int 0, .int 0, .long 0], vm := .statics 21 },
  { cls := 22, slots := #[.null, .null, .null], vm := .statics 22 },
  { cls := 25, slots := #[.int 48, .int 49, .int 50, .int 51, .int 52, .int 53, .int 54, .int 55, .int 56, .int 57, .int 48, .int 49, .int 50, .int 51, .int 52, .int 53, .int 54, .int 55, .int 56, .int 57, .int 48, .int 49, .int 50, .int 51, .int 52, .int 53, .int 54, .int 55, .int 56, .int 57, .int 48, .int 49, .int 50, .int 51, .int 52, .int 53, .int 54, .int 55, .int 56, .int 57, .int 48, .int 49, .int 50, .int 51, .int 52, .int 53, .int 54, .int 55, .int 56, .int 57, .int 48, .int 49, .int 50, .int 51, .int 52, .int 53, .int 54, .int 55, .int 56, .int 57, .int 48, .int 49, .int 50, .int 51, .int 52, .int 53, .int 54, .int 55, .int 56, .int 57, .int 48, .int 49, .int 50, .int 51, .int 52, .int 53, .int 54, .int 55, .int 56, .int 57, .int 48, .int 49, .int 50, .int 51, .int 52, .int 53, .int 54, .int 55, .int 56, .int 57, .int 48, .int 49, .int 50, .int 51, .int 52, .int 53, .int 54, .int 55, .int 56, .int 57], vm := .none },
  { cls := 25, slots := #[.int 48, .int 48, .int 48, .int 48, .int 48, .int 48, .int 48, .int 48, .int 48, .int 48, .int 49, .int 49, .int 49, .int 49, .int 49, .int 49, .int 49, .int 49, .int 49, .int 49, .int 50, .int 50, .int 50, .int 50, .int 50, .int 50, .int 50, .int 50, .int 50, .int 50, .int 51, .int 51, .int 51, .int 51, .int 51, .int 51, .int 51, .int 51, .int 51, .int 51, .int 52, .int 52, .int 52, .int 52, .int 52, .int 52, .int 52, .int 52, .int 52, .int 52, .int 53, .int 53, .int 53, .int 53, .int 53, .int 53, .int 53, .int 53, .int 53, .int 53, .int 54, .int 54, .int 54, .int 54, .int 54, .int 54, .int 54, .int 54, .int 54, .int 54, .int 55, .int 55, .int 55, .int 55, .int 55, .int 55, .int 55, .int 55, .int 55, .int 55, .int 56, .int 56, .int 56, .int 56, .int 56, .int 56, .int 56, .int 56, .int 56, .int 56, .int 57, .int 57, .int 57, .int 57, .int 57, .int 57, .int 57, .int 57, .int 57, .int 57], vm := .none }]
def classes : Array Class := #[k0, k1, k2, k3, k4, k5, k6, k7, k8, k9, k10, k11, k12, k13, k14, k15, k16, k17, k18, k19, k20, k21, k22, k23, k24, k25, k26, k27, k28, k29]
def interned : List (Array UInt16 × Addr) := []
def slotsUsed : Nat := 219
def theMethod : MethodId := ⟨1, 5⟩
def args0 : Array Value := #[.int 16706, .int 65, .long 5, .int 17220]
def aboutOver (below : List Frame) : State where
  vm := { classes := classes, interned := interned.toArray }
  heap := heap
  slotsUsed := slotsUsed
  threads := #[{ frames := .invoking theMethod args0 :: below }]
def below0 : List Frame := [.native { method := ⟨0, 0⟩, args := #[] }]
def about1 : State := aboutOver below0
def p0 : Program := .bare "" "" ""
def e0 : Env := launch0.env 0 0 0
theorem w_frames : about1.frames = Frame.invoking theMethod args0 :: below0 := rfl
set_option maxRecDepth 65536 in
theorem w_args : argsFit about1.vm theMethod args0 = true := by decide +kernel
set_option maxRecDepth 65536 in
theorem w_heap : heapFits about1 = true := by decide +kernel
set_option maxRecDepth 65536 in
theorem w_runnable : about1.curStatus? = some .runnable := by decide +kernel
set_option maxRecDepth 65536 in
theorem w_alone : about1.alone = true := by decide +kernel
set_option maxRecDepth 65536 in
theorem w_named : about1.methodNamed? x = some theMethod := by decide +kernel
set_option maxRecDepth 65536 in
theorem w_hears : about1.hears theMethod below0 = true := by decide +kernel
set_option maxRecDepth 65536 in
theorem w_ripe : about1.ripe theMethod args0 below0 = true := by decide +kernel
theorem w_running : about1.status = .running := rfl
set_option maxRecDepth 65536 in
theorem w_room : about1.hasRoom e0.platform room_1 = true :=
  launch0.hasRoom_least _ room_1 (by decide +kernel) (by decide +kernel) (by decide +kernel) (by decide +kernel) (by decide +kernel) (by decide +kernel)
theorem allAtoms_all (ts : List Jvm.Cond) (a : Array Jvm.Value) (st : Jvm.State) : (allAtoms ts).before a st = ts.all (fun c => c.before a st) := by
  induction ts with
  | nil => rfl
  | cons c t ih =>
    show (Jvm.Cond.and c (allAtoms t)).before a st = _
    rw [Jvm.Cond.before_and, ih, List.all_cons]
def words1 : List Jvm.Cond := Jvm.Cond.code x code maxLocals ret :: tables_1
/-- a 'code' word, met by the world's own term for the bytes: nothing is compared byte by byte -/
theorem code_word {y : MethodName} {bytes : ByteArray} {mx : Nat} {rt : Option FieldType} {a : Array Value} {s : State} {m : MethodId} {meth : Method} {c : Code} (h1 : s.methodNamed? y = some m) (h2 : s.vm.method? m = some meth) (h3 : meth.code = some c) (h4 : c.code = bytes)
    (h5 : (c.maxLocals == mx && c.exceptionTable.isEmpty && decide (c.maxStack ≤ mostOperands) && decide (meth.sig.returnType = rt) && !meth.locks && decide (parseMethodDescriptor y.desc = some meth.sig)) = true) : (Jvm.Cond.code y bytes mx rt).before a s = true := by
  simp only [Bool.and_eq_true, beq_iff_eq, Bool.not_eq_true', decide_eq_true_eq] at h5
  obtain ⟨⟨⟨⟨⟨g1, g2⟩, g3⟩, g4⟩, g5⟩, g6⟩ := h5
  simp [Cond.before, Cond.holds, Cond.value, h1, h2, h3, h4, g1, g2, g3, g4, g5, g6]
def isCode : Jvm.Cond → Bool
  | .code _ _ _ _ => true
  | _ => false
theorem all_split {L : List Jvm.Cond} {P : Jvm.Cond → Bool} (h1 : L.all (fun c => isCode c || P c) = true) (h2 : ∀ c ∈ L.filter isCode, P c = true) : L.all P = true := by
  refine List.all_eq_true.mpr fun c hc => ?_
  have h := List.all_eq_true.mp h1 c hc
  rcases Bool.eq_false_or_eq_true (isCode c) with hi | hi
  · exact h2 c (List.mem_filter.mpr ⟨hc, hi⟩)
  · simpa [hi] using h
set_option maxRecDepth 65536 in
theorem w_c0 : (Jvm.Cond.code x code maxLocals ret).before args0 about1 = true := code_word (m := ⟨1, 5⟩) (meth := k1m5) (c := k1c5) (by decide +kernel) rfl rfl rfl (by decide +kernel)
set_option maxRecDepth 65536 in
theorem w_c1 : (Jvm.Cond.code ({ cls := "java/lang/String", name := "<init>", desc := "([C)V" } : Jvm.MethodName) jdk_42_method_3_code (2 : Nat) (Option.none : Option Jvm.ClassFile.FieldType)).before args0 about1 = true := code_word (m := ⟨7, 1⟩) (meth := k7m1) (c := k7c1) (by decide +kernel) rfl rfl rfl (by decide +kernel)
set_option maxRecDepth 65536 in
theorem w_c2 : (Jvm.Cond.code ({ cls := "java/lang/String", name := "<init>", desc := "([CIILjava/lang/Void;)V" } : Jvm.MethodName) jdk_42_method_149_code (6 : Nat) (Option.none : Option Jvm.ClassFile.FieldType)).before args0 about1 = true := code_word (m := ⟨7, 7⟩) (meth := k7m7) (c := k7c7) (by decide +kernel) rfl rfl rfl (by decide +kernel)
set_option maxRecDepth 65536 in
theorem w_c3 : (Jvm.Cond.code ({ cls := "java/lang/Object", name := "<init>", desc := "()V" } : Jvm.MethodName) object_method_1_code (1 : Nat) (Option.none : Option Jvm.ClassFile.FieldType)).before args0 about1 = true := code_word (m := ⟨0, 0⟩) (meth := k0m0) (c := k0c0) (by decide +kernel) rfl rfl rfl (by decide +kernel)
set_option maxRecDepth 65536 in
theorem w_c4 : (Jvm.Cond.code ({ cls := "java/lang/StringUTF16", name := "compress", desc := "([CII)[B" } : Jvm.MethodName) jdk_52_method_16_code (6 : Nat) (Option.some (Jvm.ClassFile.FieldType.array Jvm.ClassFile.FieldType.byte))).before args0 about1 = true := code_word (m := ⟨8, 2⟩) (meth := k8m2) (c := k8c2) (by decide +kernel) rfl rfl rfl (by decide +kernel)
set_option maxRecDepth 65536 in
theorem w_c5 : (Jvm.Cond.code ({ cls := "java/lang/StringUTF16", name := "compress", desc := "([CI[BII)I" } : Jvm.MethodName) jdk_52_method_21_code (7 : Nat) (Option.some Jvm.ClassFile.FieldType.int)).before args0 about1 = true := code_word (m := ⟨8, 3⟩) (meth := k8m3) (c := k8c3) (by decide +kernel) rfl rfl rfl (by decide +kernel)
set_option maxRecDepth 65536 in
theorem w_c6 : (Jvm.Cond.code ({ cls := "java/lang/StringUTF16", name := "coderFromArrayLen", desc := "([BI)B" } : Jvm.MethodName) jdk_52_method_15_code (2 : Nat) (Option.some Jvm.ClassFile.FieldType.byte)).before args0 about1 = true := code_word (m := ⟨8, 1⟩) (meth := k8m1) (c := k8c1) (by decide +kernel) rfl rfl rfl (by decide +kernel)
set_option maxRecDepth 65536 in
theorem w_c7 : (Jvm.Cond.code ({ cls := "java/lang/String", name := "valueOf", desc := "(C)Ljava/lang/String;" } : Jvm.MethodName) jdk_42_method_139_code (1 : Nat) (Option.some (Jvm.ClassFile.FieldType.object "java/lang/String"))).before args0 about1 = true := code_word (m := ⟨7, 5⟩) (meth := k7m5) (c := k7c5) (by decide +kernel) rfl rfl rfl (by decide +kernel)
set_option maxRecDepth 65536 in
theorem w_c8 : (Jvm.Cond.code ({ cls := "java/lang/StringLatin1", name := "canEncode", desc := "(C)Z" } : Jvm.MethodName) jdk_43_method_3_code (1 : Nat) (Option.some Jvm.ClassFile.FieldType.boolean)).before args0 about1 = true := code_word (m := ⟨9, 2⟩) (meth := k9m2) (c := k9c2) (by decide +kernel) rfl rfl rfl (by decide +kernel)
set_option maxRecDepth 65536 in
theorem w_c9 : (Jvm.Cond.code ({ cls := "java/lang/StringLatin1", name := "toBytes", desc := "(C)[B" } : Jvm.MethodName) jdk_43_method_46_code (1 : Nat) (Option.some (Jvm.ClassFile.FieldType.array Jvm.ClassFile.FieldType.byte))).before args0 about1 = true := code_word (m := ⟨9, 3⟩) (meth := k9m3) (c := k9c3) (by decide +kernel) rfl rfl rfl (by decide +kernel)
set_option maxRecDepth 65536 in
theorem w_c10 : (Jvm.Cond.code ({ cls := "java/lang/String", name := "<init>", desc := "([BB)V" } : Jvm.MethodName) jdk_42_method_151_code (3 : Nat) (Option.none : Option Jvm.ClassFile.FieldType)).before args0 about1 = true := code_word (m := ⟨7, 9⟩) (meth := k7m9) (c := k7c9) (by decide +kernel) rfl rfl rfl (by decide +kernel)
set_option maxRecDepth 65536 in
theorem w_c11 : (Jvm.Cond.code ({ cls := "com/example/drain_shards/drainshards/Lease", name := "<init>", desc := "(Ljava/lang/String;Ljava/lang/String;JLjava/lang/String;)V" } : Jvm.MethodName) prog_7_method_1_code (6 : Nat) (Option.none : Option Jvm.ClassFile.FieldType)).before args0 about1 = true := code_word (m := ⟨10, 0⟩) (meth := k10m0) (c := k10c0) (by decide +kernel) rfl rfl rfl (by decide +kernel)
set_option maxRecDepth 65536 in
theorem w_c12 : (Jvm.Cond.code ({ cls := "java/util/Objects", name := "requireNonNull", desc := "(Ljava/lang/Object;Ljava/lang/String;)Ljava/lang/Object;" } : Jvm.MethodName) jdk_31_method_11_code (2 : Nat) (Option.some (Jvm.ClassFile.FieldType.object "java/lang/Object"))).before args0 about1 = true := code_word (m := ⟨11, 1⟩) (meth := k11m1) (c := k11c1) (by decide +kernel) rfl rfl rfl (by decide +kernel)
set_option maxRecDepth 65536 in
theorem w_c13 : (Jvm.Cond.code ({ cls := "com/example/drain_shards/drainshards/Lease", name := "toString", desc := "()Ljava/lang/String;" } : Jvm.MethodName) prog_7_method_7_code (1 : Nat) (Option.some (Jvm.ClassFile.FieldType.object "java/lang/String"))).before args0 about1 = true := code_word (m := ⟨10, 1⟩) (meth := k10m1) (c := k10c1) (by decide +kernel) rfl rfl rfl (by decide +kernel)
set_option maxRecDepth 65536 in
theorem w_c14 : (Jvm.Cond.code ({ cls := "java/lang/StringBuilder", name := "<init>", desc := "()V" } : Jvm.MethodName) jdk_67_method_1_code (1 : Nat) (Option.none : Option Jvm.ClassFile.FieldType)).before args0 about1 = true := code_word (m := ⟨14, 0⟩) (meth := k14m0) (c := k14c0) (by decide +kernel) rfl rfl rfl (by decide +kernel)
set_option maxRecDepth 65536 in
theorem w_c15 : (Jvm.Cond.code ({ cls := "java/lang/AbstractStringBuilder", name := "<init>", desc := "(I)V" } : Jvm.MethodName) jdk_68_method_2_code (2 : Nat) (Option.none : Option Jvm.ClassFile.FieldType)).before args0 about1 = true := code_word (m := ⟨13, 1⟩) (meth := k13m1) (c := k13c1) (by decide +kernel) rfl rfl rfl (by decide +kernel)
set_option maxRecDepth 65536 in
theorem w_c16 : (Jvm.Cond.code ({ cls := "java/lang/StringBuilder", name := "append", desc := "(Ljava/lang/String;)Ljava/lang/StringBuilder;" } : Jvm.MethodName) jdk_67_method_7_code (2 : Nat) (Option.some (Jvm.ClassFile.FieldType.object "java/lang/StringBuilder"))).before args0 about1 = true := code_word (m := ⟨14, 1⟩) (meth := k14m1) (c := k14c1) (by decide +kernel) rfl rfl rfl (by decide +kernel)
set_option maxRecDepth 65536 in
theorem w_c17 : (Jvm.Cond.code ({ cls := "java/lang/AbstractStringBuilder", name := "append", desc := "(Ljava/lang/String;)Ljava/lang/AbstractStringBuilder;" } : Jvm.MethodName) jdk_68_method_22_code (3 : Nat) (Option.some (Jvm.ClassFile.FieldType.object "java/lang/AbstractStringBuilder"))).before args0 about1 = true := code_word (m := ⟨13, 5⟩) (meth := k13m5) (c := k13c5) (by decide +kernel) rfl rfl rfl (by decide +kernel)
set_option maxRecDepth 65536 in
theorem w_c18 : (Jvm.Cond.code ({ cls := "java/lang/String", name := "length", desc := "()I" } : Jvm.MethodName) jdk_42_method_54_code (1 : Nat) (Option.some Jvm.ClassFile.FieldType.int)).before args0 about1 = true := code_word (m := ⟨7, 3⟩) (meth := k7m3) (c := k7c3) (by decide +kernel) rfl rfl rfl (by decide +kernel)
set_option maxRecDepth 65536 in
theorem w_c19 : (Jvm.Cond.code ({ cls := "java/lang/String", name := "coder", desc := "()B" } : Jvm.MethodName) jdk_42_method_152_code (1 : Nat) (Option.some Jvm.ClassFile.FieldType.byte)).before args0 about1 = true := code_word (m := ⟨7, 10⟩) (meth := k7m10) (c := k7c10) (by decide +kernel) rfl rfl rfl (by decide +kernel)
set_option maxRecDepth 65536 in
theorem w_c20 : (Jvm.Cond.code ({ cls := "java/lang/AbstractStringBuilder", name := "ensureCapacityInternal", desc := "(I)V" } : Jvm.MethodName) jdk_68_method_9_code (3 : Nat) (Option.none : Option Jvm.ClassFile.FieldType)).before args0 about1 = true := code_word (m := ⟨13, 3⟩) (meth := k13m3) (c := k13c3) (by decide +kernel) rfl rfl rfl (by decide +kernel)
set_option maxRecDepth 65536 in
theorem w_c21 : (Jvm.Cond.code ({ cls := "java/lang/AbstractStringBuilder", name := "putStringAt", desc := "(ILjava/lang/String;)V" } : Jvm.MethodName) jdk_68_method_73_code (3 : Nat) (Option.none : Option Jvm.ClassFile.FieldType)).before args0 about1 = true := code_word (m := ⟨13, 11⟩) (meth := k13m11) (c := k13c11) (by decide +kernel) rfl rfl rfl (by decide +kernel)
set_option maxRecDepth 65536 in
theorem w_c22 : (Jvm.Cond.code ({ cls := "java/lang/AbstractStringBuilder", name := "inflateIfNeededFor", desc := "(Ljava/lang/String;)V" } : Jvm.MethodName) jdk_68_method_71_code (2 : Nat) (Option.none : Option Jvm.ClassFile.FieldType)).before args0 about1 = true := code_word (m := ⟨13, 10⟩) (meth := k13m10) (c := k13c10) (by decide +kernel) rfl rfl rfl (by decide +kernel)
set_option maxRecDepth 65536 in
theorem w_c23 : (Jvm.Cond.code ({ cls := "java/lang/String", name := "getBytes", desc := "([BIB)V" } : Jvm.MethodName) jdk_42_method_147_code (4 : Nat) (Option.none : Option Jvm.ClassFile.FieldType)).before args0 about1 = true := code_word (m := ⟨7, 6⟩) (meth := k7m6) (c := k7c6) (by decide +kernel) rfl rfl rfl (by decide +kernel)
set_option maxRecDepth 65536 in
theorem w_c24 : (Jvm.Cond.code ({ cls := "java/lang/AbstractStringBuilder", name := "newCapacity", desc := "(I)I" } : Jvm.MethodName) jdk_68_method_10_code (6 : Nat) (Option.some Jvm.ClassFile.FieldType.int)).before args0 about1 = true := code_word (m := ⟨13, 4⟩) (meth := k13m4) (c := k13c4) (by decide +kernel) rfl rfl rfl (by decide +kernel)
set_option maxRecDepth 65536 in
theorem w_c25 : (Jvm.Cond.code ({ cls := "jdk/internal/util/ArraysSupport", name := "newLength", desc := "(III)I" } : Jvm.MethodName) jdk_48_method_27_code (4 : Nat) (Option.some Jvm.ClassFile.FieldType.int)).before args0 about1 = true := code_word (m := ⟨16, 1⟩) (meth := k16m1) (c := k16c1) (by decide +kernel) rfl rfl rfl (by decide +kernel)
set_option maxRecDepth 65536 in
theorem w_c26 : (Jvm.Cond.code ({ cls := "java/lang/Math", name := "max", desc := "(II)I" } : Jvm.MethodName) jdk_29_method_65_code (2 : Nat) (Option.some Jvm.ClassFile.FieldType.int)).before args0 about1 = true := code_word (m := ⟨17, 2⟩) (meth := k17m2) (c := k17c2) (by decide +kernel) rfl rfl rfl (by decide +kernel)
set_option maxRecDepth 65536 in
theorem w_c27 : (Jvm.Cond.code ({ cls := "java/util/Arrays", name := "copyOf", desc := "([BI)[B" } : Jvm.MethodName) jdk_65_method_121_code (3 : Nat) (Option.some (Jvm.ClassFile.FieldType.array Jvm.ClassFile.FieldType.byte))).before args0 about1 = true := code_word (m := ⟨18, 1⟩) (meth := k18m1) (c := k18c1) (by decide +kernel) rfl rfl rfl (by decide +kernel)
set_option maxRecDepth 65536 in
theorem w_c28 : (Jvm.Cond.code ({ cls := "java/lang/Math", name := "min", desc := "(II)I" } : Jvm.MethodName) jdk_29_method_69_code (2 : Nat) (Option.some Jvm.ClassFile.FieldType.int)).before args0 about1 = true := code_word (m := ⟨17, 3⟩) (meth := k17m3) (c := k17c3) (by decide +kernel) rfl rfl rfl (by decide +kernel)
set_option maxRecDepth 65536 in
theorem w_c29 : (Jvm.Cond.code ({ cls := "java/lang/StringBuilder", name := "append", desc := "(J)Ljava/lang/StringBuilder;" } : Jvm.MethodName) jdk_67_method_16_code (3 : Nat) (Option.some (Jvm.ClassFile.FieldType.object "java/lang/StringBuilder"))).before args0 about1 = true := code_word (m := ⟨14, 2⟩) (meth := k14m2) (c := k14c2) (by decide +kernel) rfl rfl rfl (by decide +kernel)
set_option maxRecDepth 65536 in
theorem w_c30 : (Jvm.Cond.code ({ cls := "java/lang/AbstractStringBuilder", name := "append", desc := "(J)Ljava/lang/AbstractStringBuilder;" } : Jvm.MethodName) jdk_68_method_33_code (5 : Nat) (Option.some (Jvm.ClassFile.FieldType.object "java/lang/AbstractStringBuilder"))).before args0 about1 = true := code_word (m := ⟨13, 7⟩) (meth := k13m7) (c := k13c7) (by decide +kernel) rfl rfl rfl (by decide +kernel)
set_option maxRecDepth 65536 in
theorem w_c31 : (Jvm.Cond.code ({ cls := "java/lang/Long", name := "stringSize", desc := "(J)I" } : Jvm.MethodName) jdk_35_method_15_code (6 : Nat) (Option.some Jvm.ClassFile.FieldType.int)).before args0 about1 = true := code_word (m := ⟨20, 1⟩) (meth := k20m1) (c := k20c1) (by decide +kernel) rfl rfl rfl (by decide +kernel)
set_option maxRecDepth 65536 in
theorem w_c32 : (Jvm.Cond.code ({ cls := "java/lang/AbstractStringBuilder", name := "isLatin1", desc := "()Z" } : Jvm.MethodName) jdk_68_method_68_code (1 : Nat) (Option.some Jvm.ClassFile.FieldType.boolean)).before args0 about1 = true := code_word (m := ⟨13, 9⟩) (meth := k13m9) (c := k13c9) (by decide +kernel) rfl rfl rfl (by decide +kernel)
set_option maxRecDepth 65536 in
theorem w_c33 : (Jvm.Cond.code ({ cls := "java/lang/Long", name := "getChars", desc := "(JI[B)I" } : Jvm.MethodName) jdk_35_method_14_code (11 : Nat) (Option.some Jvm.ClassFile.FieldType.int)).before args0 about1 = true := code_word (m := ⟨20, 0⟩) (meth := k20m0) (c := k20c0) (by decide +kernel) rfl rfl rfl (by decide +kernel)
set_option maxRecDepth 65536 in
theorem w_c34 : (Jvm.Cond.code ({ cls := "java/lang/StringBuilder", name := "toString", desc := "()Ljava/lang/String;" } : Jvm.MethodName) jdk_67_method_42_code (1 : Nat) (Option.some (Jvm.ClassFile.FieldType.object "java/lang/String"))).before args0 about1 = true := code_word (m := ⟨14, 3⟩) (meth := k14m3) (c := k14c3) (by decide +kernel) rfl rfl rfl (by decide +kernel)
set_option maxRecDepth 65536 in
theorem w_c35 : (Jvm.Cond.code ({ cls := "java/lang/String", name := "<init>", desc := "(Ljava/lang/StringBuilder;)V" } : Jvm.MethodName) jdk_42_method_53_code (2 : Nat) (Option.none : Option Jvm.ClassFile.FieldType)).before args0 about1 = true := code_word (m := ⟨7, 2⟩) (meth := k7m2) (c := k7c2) (by decide +kernel) rfl rfl rfl (by decide +kernel)
set_option maxRecDepth 65536 in
theorem w_c36 : (Jvm.Cond.code ({ cls := "java/lang/String", name := "<init>", desc := "(Ljava/lang/AbstractStringBuilder;Ljava/lang/Void;)V" } : Jvm.MethodName) jdk_42_method_150_code (5 : Nat) (Option.none : Option Jvm.ClassFile.FieldType)).before args0 about1 = true := code_word (m := ⟨7, 8⟩) (meth := k7m8) (c := k7c8) (by decide +kernel) rfl rfl rfl (by decide +kernel)
set_option maxRecDepth 65536 in
theorem w_c37 : (Jvm.Cond.code ({ cls := "java/lang/AbstractStringBuilder", name := "getValue", desc := "()[B" } : Jvm.MethodName) jdk_68_method_64_code (1 : Nat) (Option.some (Jvm.ClassFile.FieldType.array Jvm.ClassFile.FieldType.byte))).before args0 about1 = true := code_word (m := ⟨13, 8⟩) (meth := k13m8) (c := k13c8) (by decide +kernel) rfl rfl rfl (by decide +kernel)
set_option maxRecDepth 65536 in
theorem w_c38 : (Jvm.Cond.code ({ cls := "java/lang/StringBuilder", name := "length", desc := "()I" } : Jvm.MethodName) jdk_67_method_93_code (1 : Nat) (Option.some Jvm.ClassFile.FieldType.int)).before args0 about1 = true := code_word (m := ⟨14, 4⟩) (meth := k14m4) (c := k14c4) (by decide +kernel) rfl rfl rfl (by decide +kernel)
set_option maxRecDepth 65536 in
theorem w_c39 : (Jvm.Cond.code ({ cls := "java/lang/AbstractStringBuilder", name := "length", desc := "()I" } : Jvm.MethodName) jdk_68_method_6_code (1 : Nat) (Option.some Jvm.ClassFile.FieldType.int)).before args0 about1 = true := code_word (m := ⟨13, 2⟩) (meth := k13m2) (c := k13c2) (by decide +kernel) rfl rfl rfl (by decide +kernel)
set_option maxRecDepth 65536 in
theorem w_c40 : (Jvm.Cond.code ({ cls := "java/util/Arrays", name := "copyOfRange", desc := "([BII)[B" } : Jvm.MethodName) jdk_65_method_132_code (3 : Nat) (Option.some (Jvm.ClassFile.FieldType.array Jvm.ClassFile.FieldType.byte))).before args0 about1 = true := code_word (m := ⟨18, 3⟩) (meth := k18m3) (c := k18c3) (by decide +kernel) rfl rfl rfl (by decide +kernel)
set_option maxRecDepth 65536 in
theorem w_c41 : (Jvm.Cond.code ({ cls := "java/util/Arrays", name := "copyOfRangeByte", desc := "([BII)[B" } : Jvm.MethodName) jdk_65_method_133_code (5 : Nat) (Option.some (Jvm.ClassFile.FieldType.array Jvm.ClassFile.FieldType.byte))).before args0 about1 = true := code_word (m := ⟨18, 4⟩) (meth := k18m4) (c := k18c4) (by decide +kernel) rfl rfl rfl (by decide +kernel)
set_option maxRecDepth 65536 in
theorem w_c42 : (Jvm.Cond.code ({ cls := "java/util/Arrays", name := "checkLength", desc := "(II)V" } : Jvm.MethodName) jdk_65_method_131_code (2 : Nat) (Option.none : Option Jvm.ClassFile.FieldType)).before args0 about1 = true := code_word (m := ⟨18, 2⟩) (meth := k18m2) (c := k18c2) (by decide +kernel) rfl rfl rfl (by decide +kernel)
set_option maxRecDepth 65536 in
theorem w_c43 : (Jvm.Cond.code ({ cls := "com/example/drain_shards/drainshards/LeaseToStringPinLaw", name := "digits", desc := "(J)I" } : Jvm.MethodName) method_4_code (2 : Nat) (Option.some Jvm.ClassFile.FieldType.int)).before args0 about1 = true := code_word (m := ⟨1, 3⟩) (meth := k1m3) (c := k1c3) (by decide +kernel) rfl rfl rfl (by decide +kernel)
set_option maxRecDepth 65536 in
theorem w_c44 : (Jvm.Cond.code ({ cls := "com/example/drain_shards/drainshards/LeaseToStringPinLaw", name := "nz", desc := "(JJ)I" } : Jvm.MethodName) method_3_code (4 : Nat) (Option.some Jvm.ClassFile.FieldType.int)).before args0 about1 = true := code_word (m := ⟨1, 2⟩) (meth := k1m2) (c := k1c2) (by decide +kernel) rfl rfl rfl (by decide +kernel)
set_option maxRecDepth 65536 in
theorem w_c45 : (Jvm.Cond.code ({ cls := "com/example/drain_shards/drainshards/LeaseToStringPinLaw", name := "at", desc := "(Ljava/lang/String;IC)Z" } : Jvm.MethodName) method_2_code (3 : Nat) (Option.some Jvm.ClassFile.FieldType.boolean)).before args0 about1 = true := code_word (m := ⟨1, 1⟩) (meth := k1m1) (c := k1c1) (by decide +kernel) rfl rfl rfl (by decide +kernel)
set_option maxRecDepth 65536 in
theorem w_c46 : (Jvm.Cond.code ({ cls := "java/lang/String", name := "charAt", desc := "(I)C" } : Jvm.MethodName) jdk_42_method_56_code (2 : Nat) (Option.some Jvm.ClassFile.FieldType.char)).before args0 about1 = true := code_word (m := ⟨7, 4⟩) (meth := k7m4) (c := k7c4) (by decide +kernel) rfl rfl rfl (by decide +kernel)
set_option maxRecDepth 65536 in
theorem w_c47 : (Jvm.Cond.code ({ cls := "java/lang/String", name := "isLatin1", desc := "()Z" } : Jvm.MethodName) jdk_42_method_154_code (1 : Nat) (Option.some Jvm.ClassFile.FieldType.boolean)).before args0 about1 = true := code_word (m := ⟨7, 11⟩) (meth := k7m11) (c := k7c11) (by decide +kernel) rfl rfl rfl (by decide +kernel)
set_option maxRecDepth 65536 in
theorem w_c48 : (Jvm.Cond.code ({ cls := "java/lang/StringLatin1", name := "charAt", desc := "([BI)C" } : Jvm.MethodName) jdk_43_method_2_code (2 : Nat) (Option.some Jvm.ClassFile.FieldType.char)).before args0 about1 = true := code_word (m := ⟨9, 1⟩) (meth := k9m1) (c := k9c1) (by decide +kernel) rfl rfl rfl (by decide +kernel)
set_option maxRecDepth 65536 in
theorem w_c49 : (Jvm.Cond.code ({ cls := "java/lang/String", name := "checkIndex", desc := "(II)V" } : Jvm.MethodName) jdk_42_method_155_code (2 : Nat) (Option.none : Option Jvm.ClassFile.FieldType)).before args0 about1 = true := code_word (m := ⟨7, 12⟩) (meth := k7m12) (c := k7c12) (by decide +kernel) rfl rfl rfl (by decide +kernel)
set_option maxRecDepth 65536 in
theorem w_c50 : (Jvm.Cond.code ({ cls := "jdk/internal/util/Preconditions", name := "checkIndex", desc := "(IILjava/util/function/BiFunction;)I" } : Jvm.MethodName) jdk_41_method_11_code (3 : Nat) (Option.some Jvm.ClassFile.FieldType.int)).before args0 about1 = true := code_word (m := ⟨22, 1⟩) (meth := k22m1) (c := k22c1) (by decide +kernel) rfl rfl rfl (by decide +kernel)
set_option maxRecDepth 65536 in
theorem w_c51 : (Jvm.Cond.code ({ cls := "com/example/drain_shards/drainshards/LeaseToStringPinLaw", name := "dig", desc := "(Ljava/lang/String;IJJII)Z" } : Jvm.MethodName) method_5_code (8 : Nat) (Option.some Jvm.ClassFile.FieldType.boolean)).before args0 about1 = true := code_word (m := ⟨1, 4⟩) (meth := k1m4) (c := k1c4) (by decide +kernel) rfl rfl rfl (by decide +kernel)
set_option maxRecDepth 65536 in
theorem w_c52 : (Jvm.Cond.code ({ cls := "java/lang/Math", name := "abs", desc := "(J)J" } : Jvm.MethodName) jdk_29_method_61_code (2 : Nat) (Option.some Jvm.ClassFile.FieldType.long)).before args0 about1 = true := code_word (m := ⟨17, 1⟩) (meth := k17m1) (c := k17c1) (by decide +kernel) rfl rfl rfl (by decide +kernel)
set_option maxRecDepth 65536 in
theorem w_c53 : (Jvm.Cond.code ({ cls := "java/lang/AbstractStringBuilder", name := "appendNull", desc := "()Ljava/lang/AbstractStringBuilder;" } : Jvm.MethodName) jdk_68_method_26_code (3 : Nat) (Option.some (Jvm.ClassFile.FieldType.object "java/lang/AbstractStringBuilder"))).before args0 about1 = true := code_word (m := ⟨13, 6⟩) (meth := k13m6) (c := k13c6) (by decide +kernel) rfl rfl rfl (by decide +kernel)
def codes1 : List Jvm.Cond := [Jvm.Cond.code x code maxLocals ret, Jvm.Cond.code ({ cls := "java/lang/String", name := "<init>", desc := "([C)V" } : Jvm.MethodName) jdk_42_method_3_code (2 : Nat) (Option.none : Option Jvm.ClassFile.FieldType), Jvm.Cond.code ({ cls := "java/lang/String", name := "<init>", desc := "([CIILjava/lang/Void;)V" } : Jvm.MethodName) jdk_42_method_149_code (6 : Nat) (Option.none : Option Jvm.ClassFile.FieldType), Jvm.Cond.code ({ cls := "java/lang/Object", name := "<init>", desc := "()V" } : Jvm.MethodName) object_method_1_code (1 : Nat) (Option.none : Option Jvm.ClassFile.FieldType), Jvm.Cond.code ({ cls := "java/lang/StringUTF16", name := "compress", desc := "([CII)[B" } : Jvm.MethodName) jdk_52_method_16_code (6 : Nat) (Option.some (Jvm.ClassFile.FieldType.array Jvm.ClassFile.FieldType.byte)), Jvm.Cond.code ({ cls := "java/lang/StringUTF16", name := "compress", desc := "([CI[BII)I" } : Jvm.MethodName) jdk_52_method_21_code (7 : Nat) (Option.some Jvm.ClassFile.FieldType.int), Jvm.Cond.code ({ cls := "java/lang/StringUTF16", name := "coderFromArrayLen", desc := "([BI)B" } : Jvm.MethodName) jdk_52_method_15_code (2 : Nat) (Option.some Jvm.ClassFile.FieldType.byte), Jvm.Cond.code ({ cls := "java/lang/String", name := "valueOf", desc := "(C)Ljava/lang/String;" } : Jvm.MethodName) jdk_42_method_139_code (1 : Nat) (Option.some (Jvm.ClassFile.FieldType.object "java/lang/String")), Jvm.Cond.code ({ cls := "java/lang/StringLatin1", name := "canEncode", desc := "(C)Z" } : Jvm.MethodName) jdk_43_method_3_code (1 : Nat) (Option.some Jvm.ClassFile.FieldType.boolean), Jvm.Cond.code ({ cls := "java/lang/StringLatin1", name := "toBytes", desc := "(C)[B" } : Jvm.MethodName) jdk_43_method_46_code (1 : Nat) (Option.some (Jvm.ClassFile.FieldType.array Jvm.ClassFile.FieldType.byte)), Jvm.Cond.code ({ cls := "java/lang/String", name := "<init>", desc := "([BB)V" } : Jvm.MethodName) jdk_42_method_151_code (3 : Nat) (Option.none : Option Jvm.ClassFile.FieldType), Jvm.Cond.code ({ cls := "com/example/drain_shards/drainshards/Lease", name := "<init>", desc := "(Ljava/lang/String;Ljava/lang/String;JLjava/lang/String;)V" } : Jvm.MethodName) prog_7_method_1_code (6 : Nat) (Option.none : Option Jvm.ClassFile.FieldType), Jvm.Cond.code ({ cls := "java/util/Objects", name := "requireNonNull", desc := "(Ljava/lang/Object;Ljava/lang/String;)Ljava/lang/Object;" } : Jvm.MethodName) jdk_31_method_11_code (2 : Nat) (Option.some (Jvm.ClassFile.FieldType.object "java/lang/Object")), Jvm.Cond.code ({ cls := "com/example/drain_shards/drainshards/Lease", name := "toString", desc := "()Ljava/lang/String;" } : Jvm.MethodName) prog_7_method_7_code (1 : Nat) (Option.some (Jvm.ClassFile.FieldType.object "java/lang/String")), Jvm.Cond.code ({ cls := "java/lang/StringBuilder", name := "<init>", desc := "()V" } : Jvm.MethodName) jdk_67_method_1_code (1 : Nat) (Option.none : Option Jvm.ClassFile.FieldType), Jvm.Cond.code ({ cls := "java/lang/AbstractStringBuilder", name := "<init>", desc := "(I)V" } : Jvm.MethodName) jdk_68_method_2_code (2 : Nat) (Option.none : Option Jvm.ClassFile.FieldType), Jvm.Cond.code ({ cls := "java/lang/StringBuilder", name := "append", desc := "(Ljava/lang/String;)Ljava/lang/StringBuilder;" } : Jvm.MethodName) jdk_67_method_7_code (2 : Nat) (Option.some (Jvm.ClassFile.FieldType.object "java/lang/StringBuilder")), Jvm.Cond.code ({ cls := "java/lang/AbstractStringBuilder", name := "append", desc := "(Ljava/lang/String;)Ljava/lang/AbstractStringBuilder;" } : Jvm.MethodName) jdk_68_method_22_code (3 : Nat) (Option.some (Jvm.ClassFile.FieldType.object "java/lang/AbstractStringBuilder")), Jvm.Cond.code ({ cls := "java/lang/String", name := "length", desc := "()I" } : Jvm.MethodName) jdk_42_method_54_code (1 : Nat) (Option.some Jvm.ClassFile.FieldType.int), Jvm.Cond.code ({ cls := "java/lang/String", name := "coder", desc := "()B" } : Jvm.MethodName) jdk_42_method_152_code (1 : Nat) (Option.some Jvm.ClassFile.FieldType.byte), Jvm.Cond.code ({ cls := "java/lang/AbstractStringBuilder", name := "ensureCapacityInternal", desc := "(I)V" } : Jvm.MethodName) jdk_68_method_9_code (3 : Nat) (Option.none : Option Jvm.ClassFile.FieldType), Jvm.Cond.code ({ cls := "java/lang/AbstractStringBuilder", name := "putStringAt", desc := "(ILjava/lang/String;)V" } : Jvm.MethodName) jdk_68_method_73_code (3 : Nat) (Option.none : Option Jvm.ClassFile.FieldType), Jvm.Cond.code ({ cls := "java/lang/AbstractStringBuilder", name := "inflateIfNeededFor", desc := "(Ljava/lang/String;)V" } : Jvm.MethodName) jdk_68_method_71_code (2 : Nat) (Option.none : Option Jvm.ClassFile.FieldType), Jvm.Cond.code ({ cls := "java/lang/String", name := "getBytes", desc := "([BIB)V" } : Jvm.MethodName) jdk_42_method_147_code (4 : Nat) (Option.none : Option Jvm.ClassFile.FieldType), Jvm.Cond.code ({ cls := "java/lang/AbstractStringBuilder", name := "newCapacity", desc := "(I)I" } : Jvm.MethodName) jdk_68_method_10_code (6 : Nat) (Option.some Jvm.ClassFile.FieldType.int), Jvm.Cond.code ({ cls := "jdk/internal/util/ArraysSupport", name := "newLength", desc := "(III)I" } : Jvm.MethodName) jdk_48_method_27_code (4 : Nat) (Option.some Jvm.ClassFile.FieldType.int), Jvm.Cond.code ({ cls := "java/lang/Math", name := "max", desc := "(II)I" } : Jvm.MethodName) jdk_29_method_65_code (2 : Nat) (Option.some Jvm.ClassFile.FieldType.int), Jvm.Cond.code ({ cls := "java/util/Arrays", name := "copyOf", desc := "([BI)[B" } : Jvm.MethodName) jdk_65_method_121_code (3 : Nat) (Option.some (Jvm.ClassFile.FieldType.array Jvm.ClassFile.FieldType.byte)), Jvm.Cond.code ({ cls := "java/lang/Math", name := "min", desc := "(II)I" } : Jvm.MethodName) jdk_29_method_69_code (2 : Nat) (Option.some Jvm.ClassFile.FieldType.int), Jvm.Cond.code ({ cls := "java/lang/StringBuilder", name := "append", desc := "(J)Ljava/lang/StringBuilder;" } : Jvm.MethodName) jdk_67_method_16_code (3 : Nat) (Option.some (Jvm.ClassFile.FieldType.object "java/lang/StringBuilder")), Jvm.Cond.code ({ cls := "java/lang/AbstractStringBuilder", name := "append", desc := "(J)Ljava/lang/AbstractStringBuilder;" } : Jvm.MethodName) jdk_68_method_33_code (5 : Nat) (Option.some (Jvm.ClassFile.FieldType.object "java/lang/AbstractStringBuilder")), Jvm.Cond.code ({ cls := "java/lang/Long", name := "stringSize", desc := "(J)I" } : Jvm.MethodName) jdk_35_method_15_code (6 : Nat) (Option.some Jvm.ClassFile.FieldType.int), Jvm.Cond.code ({ cls := "java/lang/AbstractStringBuilder", name := "isLatin1", desc := "()Z" } : Jvm.MethodName) jdk_68_method_68_code (1 : Nat) (Option.some Jvm.ClassFile.FieldType.boolean), Jvm.Cond.code ({ cls := "java/lang/Long", name := "getChars", desc := "(JI[B)I" } : Jvm.MethodName) jdk_35_method_14_code (11 : Nat) (Option.some Jvm.ClassFile.FieldType.int), Jvm.Cond.code ({ cls := "java/lang/StringBuilder", name := "toString", desc := "()Ljava/lang/String;" } : Jvm.MethodName) jdk_67_method_42_code (1 : Nat) (Option.some (Jvm.ClassFile.FieldType.object "java/lang/String")), Jvm.Cond.code ({ cls := "java/lang/String", name := "<init>", desc := "(Ljava/lang/StringBuilder;)V" } : Jvm.MethodName) jdk_42_method_53_code (2 : Nat) (Option.none : Option Jvm.ClassFile.FieldType), Jvm.Cond.code ({ cls := "java/lang/String", name := "<init>", desc := "(Ljava/lang/AbstractStringBuilder;Ljava/lang/Void;)V" } : Jvm.MethodName) jdk_42_method_150_code (5 : Nat) (Option.none : Option Jvm.ClassFile.FieldType), Jvm.Cond.code ({ cls := "java/lang/AbstractStringBuilder", name := "getValue", desc := "()[B" } : Jvm.MethodName) jdk_68_method_64_code (1 : Nat) (Option.some (Jvm.ClassFile.FieldType.array Jvm.ClassFile.FieldType.byte)), Jvm.Cond.code ({ cls := "java/lang/StringBuilder", name := "length", desc := "()I" } : Jvm.MethodName) jdk_67_method_93_code (1 : Nat) (Option.some Jvm.ClassFile.FieldType.int), Jvm.Cond.code ({ cls := "java/lang/AbstractStringBuilder", name := "length", desc := "()I" } : Jvm.MethodName) jdk_68_method_6_code (1 : Nat) (Option.some Jvm.ClassFile.FieldType.int), Jvm.Cond.code ({ cls := "java/util/Arrays", name := "copyOfRange", desc := "([BII)[B" } : Jvm.MethodName) jdk_65_method_132_code (3 : Nat) (Option.some (Jvm.ClassFile.FieldType.array Jvm.ClassFile.FieldType.byte)), Jvm.Cond.code ({ cls := "java/util/Arrays", name := "copyOfRangeByte", desc := "([BII)[B" } : Jvm.MethodName) jdk_65_method_133_code (5 : Nat) (Option.some (Jvm.ClassFile.FieldType.array Jvm.ClassFile.FieldType.byte)), Jvm.Cond.code ({ cls := "java/util/Arrays", name := "checkLength", desc := "(II)V" } : Jvm.MethodName) jdk_65_method_131_code (2 : Nat) (Option.none : Option Jvm.ClassFile.FieldType), Jvm.Cond.code ({ cls := "com/example/drain_shards/drainshards/LeaseToStringPinLaw", name := "digits", desc := "(J)I" } : Jvm.MethodName) method_4_code (2 : Nat) (Option.some Jvm.ClassFile.FieldType.int), Jvm.Cond.code ({ cls := "com/example/drain_shards/drainshards/LeaseToStringPinLaw", name := "nz", desc := "(JJ)I" } : Jvm.MethodName) method_3_code (4 : Nat) (Option.some Jvm.ClassFile.FieldType.int), Jvm.Cond.code ({ cls := "com/example/drain_shards/drainshards/LeaseToStringPinLaw", name := "at", desc := "(Ljava/lang/String;IC)Z" } : Jvm.MethodName) method_2_code (3 : Nat) (Option.some Jvm.ClassFile.FieldType.boolean), Jvm.Cond.code ({ cls := "java/lang/String", name := "charAt", desc := "(I)C" } : Jvm.MethodName) jdk_42_method_56_code (2 : Nat) (Option.some Jvm.ClassFile.FieldType.char), Jvm.Cond.code ({ cls := "java/lang/String", name := "isLatin1", desc := "()Z" } : Jvm.MethodName) jdk_42_method_154_code (1 : Nat) (Option.some Jvm.ClassFile.FieldType.boolean), Jvm.Cond.code ({ cls := "java/lang/StringLatin1", name := "charAt", desc := "([BI)C" } : Jvm.MethodName) jdk_43_method_2_code (2 : Nat) (Option.some Jvm.ClassFile.FieldType.char), Jvm.Cond.code ({ cls := "java/lang/String", name := "checkIndex", desc := "(II)V" } : Jvm.MethodName) jdk_42_method_155_code (2 : Nat) (Option.none : Option Jvm.ClassFile.FieldType), Jvm.Cond.code ({ cls := "jdk/internal/util/Preconditions", name := "checkIndex", desc := "(IILjava/util/function/BiFunction;)I" } : Jvm.MethodName) jdk_41_method_11_code (3 : Nat) (Option.some Jvm.ClassFile.FieldType.int), Jvm.Cond.code ({ cls := "com/example/drain_shards/drainshards/LeaseToStringPinLaw", name := "dig", desc := "(Ljava/lang/String;IJJII)Z" } : Jvm.MethodName) method_5_code (8 : Nat) (Option.some Jvm.ClassFile.FieldType.boolean), Jvm.Cond.code ({ cls := "java/lang/Math", name := "abs", desc := "(J)J" } : Jvm.MethodName) jdk_29_method_61_code (2 : Nat) (Option.some Jvm.ClassFile.FieldType.long), Jvm.Cond.code ({ cls := "java/lang/AbstractStringBuilder", name := "appendNull", desc := "()Ljava/lang/AbstractStringBuilder;" } : Jvm.MethodName) jdk_68_method_26_code (3 : Nat) (Option.some (Jvm.ClassFile.FieldType.object "java/lang/AbstractStringBuilder"))]
set_option maxRecDepth 65536 in
theorem codes_eq : words1.filter isCode = codes1 := rfl
theorem w_codes : ∀ c ∈ words1.filter isCode, c.before args0 about1 = true := by
  rw [codes_eq]
  intro c hc
  simp only [codes1, List.mem_cons, List.not_mem_nil, or_false] at hc
  rcases hc with rfl | rfl | rfl | rfl | rfl | rfl | rfl | rfl | rfl | rfl | rfl | rfl | rfl | rfl | rfl | rfl | rfl | rfl | rfl | rfl | rfl | rfl | rfl | rfl | rfl | rfl | rfl | rfl | rfl | rfl | rfl | rfl | rfl | rfl | rfl | rfl | rfl | rfl | rfl | rfl | rfl | rfl | rfl | rfl | rfl | rfl | rfl | rfl | rfl | rfl | rfl | rfl | rfl | rfl
  · exact w_c0
  · exact w_c1
  · exact w_c2
  · exact w_c3
  · exact w_c4
  · exact w_c5
  · exact w_c6
  · exact w_c7
  · exact w_c8
  · exact w_c9
  · exact w_c10
  · exact w_c11
  · exact w_c12
  · exact w_c13
  · exact w_c14
  · exact w_c15
  · exact w_c16
  · exact w_c17
  · exact w_c18
  · exact w_c19
  · exact w_c20
  · exact w_c21
  · exact w_c22
  · exact w_c23
  · exact w_c24
  · exact w_c25
  · exact w_c26
  · exact w_c27
  · exact w_c28
  · exact w_c29
  · exact w_c30
  · exact w_c31
  · exact w_c32
  · exact w_c33
  · exact w_c34
  · exact w_c35
  · exact w_c36
  · exact w_c37
  · exact w_c38
  · exact w_c39
  · exact w_c40
  · exact w_c41
  · exact w_c42
  · exact w_c43
  · exact w_c44
  · exact w_c45
  · exact w_c46
  · exact w_c47
  · exact w_c48
  · exact w_c49
  · exact w_c50
  · exact w_c51
  · exact w_c52
  · exact w_c53
set_option maxRecDepth 65536 in
theorem w_t1 : (words1.take 24).all (fun c => isCode c || c.before args0 about1) = true := by decide +kernel
set_option maxRecDepth 65536 in
theorem w_t2 : ((words1.drop 24).take 24).all (fun c => isCode c || c.before args0 about1) = true := by decide +kernel
set_option maxRecDepth 65536 in
theorem w_t3 : (((words1.drop 24).drop 24).take 24).all (fun c => isCode c || c.before args0 about1) = true := by decide +kernel
set_option maxRecDepth 65536 in
theorem w_t4 : ((((words1.drop 24).drop 24).drop 24).take 24).all (fun c => isCode c || c.before args0 about1) = true := by decide +kernel
set_option maxRecDepth 65536 in
theorem w_t5 : (((((words1.drop 24).drop 24).drop 24).drop 24).take 24).all (fun c => isCode c || c.before args0 about1) = true := by decide +kernel
set_option maxRecDepth 65536 in
theorem w_t6 : ((((((words1.drop 24).drop 24).drop 24).drop 24).drop 24).take 24).all (fun c => isCode c || c.before args0 about1) = true := by decide +kernel
set_option maxRecDepth 65536 in
theorem w_t7 : (((((((words1.drop 24).drop 24).drop 24).drop 24).drop 24).drop 24).take 24).all (fun c => isCode c || c.before args0 about1) = true := by decide +kernel
set_option maxRecDepth 65536 in
theorem w_t8 : ((((((((words1.drop 24).drop 24).drop 24).drop 24).drop 24).drop 24).drop 24).take 24).all (fun c => isCode c || c.before args0 about1) = true := by decide +kernel
set_option maxRecDepth 65536 in
theorem w_t9 : (((((((((words1.drop 24).drop 24).drop 24).drop 24).drop 24).drop 24).drop 24).drop 24).take 24).all (fun c => isCode c || c.before args0 about1) = true := by decide +kernel
set_option maxRecDepth 65536 in
theorem w_t10 : ((((((((((words1.drop 24).drop 24).drop 24).drop 24).drop 24).drop 24).drop 24).drop 24).drop 24).take 24).all (fun c => isCode c || c.before args0 about1) = true := by decide +kernel
set_option maxRecDepth 65536 in
theorem w_t11 : (((((((((((words1.drop 24).drop 24).drop 24).drop 24).drop 24).drop 24).drop 24).drop 24).drop 24).drop 24).take 24).all (fun c => isCode c || c.before args0 about1) = true := by decide +kernel
set_option maxRecDepth 65536 in
theorem w_t12 : ((((((((((((words1.drop 24).drop 24).drop 24).drop 24).drop 24).drop 24).drop 24).drop 24).drop 24).drop 24).drop 24).take 24).all (fun c => isCode c || c.before args0 about1) = true := by decide +kernel
set_option maxRecDepth 65536 in
theorem w_t13 : ((((((((((((words1.drop 24).drop 24).drop 24).drop 24).drop 24).drop 24).drop 24).drop 24).drop 24).drop 24).drop 24).drop 24).all (fun c => isCode c || c.before args0 about1) = true := by decide +kernel
theorem w_tables : (allAtoms (Jvm.Cond.code x code maxLocals ret :: tables_1)).before args0 about1 = true := by
  rw [allAtoms_all]
  show words1.all (fun c => c.before args0 about1) = true
  refine all_split ?_ w_codes
  rw [← List.take_append_drop 24 words1, List.all_append, w_t1, ← List.take_append_drop 24 (words1.drop 24), List.all_append, w_t2, ← List.take_append_drop 24 ((words1.drop 24).drop 24), List.all_append, w_t3, ← List.take_append_drop 24 (((words1.drop 24).drop 24).drop 24), List.all_append, w_t4, ← List.take_append_drop 24 ((((words1.drop 24).drop 24).drop 24).drop 24), List.all_append, w_t5, ← List.take_append_drop 24 (((((words1.drop 24).drop 24).drop 24).drop 24).drop 24), List.all_append, w_t6, ← List.take_append_drop 24 ((((((words1.drop 24).drop 24).drop 24).drop 24).drop 24).drop 24), List.all_append, w_t7, ← List.take_append_drop 24 (((((((words1.drop 24).drop 24).drop 24).drop 24).drop 24).drop 24).drop 24), List.all_append, w_t8, ← List.take_append_drop 24 ((((((((words1.drop 24).drop 24).drop 24).drop 24).drop 24).drop 24).drop 24).drop 24), List.all_append, w_t9, ← List.take_append_drop 24 (((((((((words1.drop 24).drop 24).drop 24).drop 24).drop 24).drop 24).drop 24).drop 24).drop 24), List.all_append, w_t10, ← List.take_append_drop 24 ((((((((((words1.drop 24).drop 24).drop 24).drop 24).drop 24).drop 24).drop 24).drop 24).drop 24).drop 24), List.all_append, w_t11, ← List.take_append_drop 24 (((((((((((words1.drop 24).drop 24).drop 24).drop 24).drop 24).drop 24).drop 24).drop 24).drop 24).drop 24).drop 24), List.all_append, w_t12, w_t13]
  rfl
set_option maxRecDepth 65536 in
theorem w_rest : rest_1_c.before args0 about1 = true := by decide +kernel
set_option maxRecDepth 65536 in
theorem w_case : (Jvm.Cond.and given_1 narrow_1).before args0 about1 = true := by decide +kernel
set_option maxRecDepth 65536 in
theorem w_consts : constsHeld consts_1 about1 := Jvm.Lit.constsHeldB_iff.mp (by decide +kernel)
theorem w_applies : (headSpec (Jvm.Cond.code x code maxLocals ret :: tables_1) room_1).applies x e0.platform about1 = true :=
  (Spec.applies_iff w_frames).mpr ⟨w_running, w_runnable, w_alone, w_named, w_hears, w_ripe, w_room, w_tables⟩
theorem atStart : AtStart classFile x code maxLocals ret World_1 tables_1 room_1 Calls_1 rest_1 Pre_1 launch0 p0 e0 about1 theMethod args0 below0 :=
  ⟨lists_1, trivial, launch0.admits_env _ _ _, launch0.least_env, fairChoices_fair.cas, fairChoices_fair.clock, w_frames, w_args, w_heap, w_applies, ⟨w_consts, trivial⟩, w_rest, w_case⟩
end start1
theorem witness_1 : WitnessClaimed_1 := ⟨start1.p0, start1.e0, start1.about1, start1.theMethod, start1.args0, start1.below0, start1.atStart⟩
end Jvm.Pilot.@@N@@
