import JvmDerived
import JvmDerived.Pilot.@@N@@Statement
import JvmDerived.Pilot.@@N@@Code
set_option linter.unusedVariables false
set_option linter.unusedSimpArgs false
set_option maxRecDepth 65536
set_option maxHeartbeats 40000000
namespace Jvm.OwnKit
open Sem ClassFile Op Lib Jvm.Stand Jvm.Free Jvm.LawKit Jvm.RoadKit
/-- the contract of a body: from these arguments at this heap it returns, and Q says what it left -/
abbrev Con (l : Launch) (Z : State) (y : MethodName) (bytes : ByteArray) (maxL : Nat) (ret : Option FieldType) (ws : List Jvm.Cond) (rm : Room) (as' : Array Value) (h0 : Heap) (Q : Option Value → Heap → List Loc → Prop) : Prop :=
  MetFree l y (head1 (Jvm.Cond.code y bytes maxL ret :: ws) rm) (fun a U => a = as' ∧ Z.Warmed39 U.vm ∧ U.heap = h0) (fun _ _ _ _ _ => True) (fun _ U o U' => ∃ v L, o = .returned v ∧ Q v U'.heap L ∧ FrameEnd U o U' L rm.cells rm.slots)
/-- how a body ends -/
abbrev EndQ (s : State) (rm : Room) (Q : Option Value → Heap → List Loc → Prop) : Outcome → State → Prop := fun o t => ∃ v L, o = .returned v ∧ Q v t.heap L ∧ FrameEnd s o t L rm.cells rm.slots
/-- from this frame on the body comes to its end, and Qe holds there -/
def OGo (p : Program) (e : Env) (below : List Frame) (Qe : Outcome → State → Prop) (T : State) (g : JFrame) : Prop :=
  ∃ s₂ o, Steps p.tables e below (T.setTop g) s₂ ∧ s₂.status = .running ∧ Ended s₂ below o ∧ Qe o s₂
section K
variable {p : Program} {l : Launch} {e : Env} {R : Room} {s : State} {m : MethodId} {args : Array Value} {below : List Frame} {meth : Method} {c : Code} {T T' : State} {locs : List Loc} {cells slots : Nat} {Qe : Outcome → State → Prop} {g g' : JFrame} {Z : State} {a0 : Array Value} {h : Heap}
theorem OGo.step (st : ∀ t, Steps p.tables e below (T'.setTop g') t → Steps p.tables e below (T.setTop g) t) (k : OGo p e below Qe T' g') : OGo p e below Qe T g := by
  obtain ⟨s₂, o, h1, h2⟩ := k
  exact ⟨s₂, o, st _ h1, h2⟩
theorem OGo.cast (q : g' = g) (k : OGo p e below Qe T g') : OGo p e below Qe T g := q ▸ k
theorem Con.intro {y : MethodName} {bytes : ByteArray} {maxL : Nat} {ret : Option FieldType} {ws : List Jvm.Cond} {rm : Room} {as' : Array Value} {h0 : Heap} {Q : Option Value → Heap → List Loc → Prop} (hpl : plainFor y = true)
    (body : ∀ (p : Program) (e : Env) (s : State) (m : MethodId) (below : List Frame) (meth : Method) (c : Code) (s₁ : State), p.tables.exec = Jvm.exec → c.code = bytes → c.maxLocals = maxL → s.vm.findClass y.cls = some m.cls →
      meth.sig.returnType = ret → meth.locks = false → Z.Warmed39 s.vm → meth.name = y.name → Stand p l e rm s m as' below meth c s₁ [] 0 0 → s₁.heap = h0 → OGo p e below (EndQ s rm Q) s₁ (entryFrame m as' maxL)) :
    Con l Z y bytes maxL ret ws rm as' h0 Q := by
  refine MetFree.of_bodySF hpl hisR ?_
  intro p e s m args below meth c s₁ Bd hml0 hP hK
  obtain ⟨rfl, hZ, hh⟩ := hP
  exact body p e s m below meth c s₁ Bd.exec Bd.bytes hml0 (findClass_of_methodNamed Bd.named) Bd.returns Bd.notSynchronized hZ (name_of_methodNamed Bd.named Bd.method).1 (Stand.of_body Bd) (by rw [← hh, Bd.state]; rfl)
theorem OGo.ret {Q : Option Value → Heap → List Loc → Prop} {rm : Room} (X : Stand p l e R s m args below meth c T locs cells slots) (hx : p.tables.exec = Jvm.exec) {pc : Nat} {Ls : Array Slot} {w : Value} {t : FieldType} {i : Instr} {rest : List Value} (hret : meth.sig.returnType = some t) (hlk : meth.locks = false) (hn : narrow t w = w)
    (hi : (i = .ireturn ∧ (t = .int ∨ t = .boolean ∨ t = .byte ∨ t = .char ∨ t = .short) ∧ ∃ z, w = .int z) ∨ (i = .lreturn ∧ t = .long ∧ ∃ z, w = .long z) ∨ (i = .dreturn ∧ t = .double ∧ ∃ z, w = .double z) ∨ (i = .freturn ∧ t = .float ∧ ∃ z, w = .float z) ∨ (i = .areturn ∧ t.isReference = true ∧ w.isRef = true))
    (hd : decode c.code pc = .ok (i, 1)) (hc : cells ≤ rm.cells) (hs : slots ≤ rm.slots) (hQ : Q (some w) T.heap locs) : OGo p e below (EndQ s rm Q) T (mkF m pc Ls (w :: rest)) := by
  obtain ⟨fs, hr, hrun, hended, hW, hsame⟩ := X.leave (v := some w) (fun h => by rw [hret] at h; cases h) hlk
  exact ⟨_, _, retOut X hx hret hn hi hd hr, hrun, hended, _, _, rfl, hQ, ⟨_, rfl⟩, hW, hsame.mono hc hs⟩
theorem OGo.retV {Q : Option Value → Heap → List Loc → Prop} {rm : Room} (X : Stand p l e R s m args below meth c T locs cells slots) (hx : p.tables.exec = Jvm.exec) {pc : Nat} {Ls : Array Slot} (hret : meth.sig.returnType = none) (hlk : meth.locks = false)
    (hd : decode c.code pc = .ok (.return_, 1)) (hc : cells ≤ rm.cells) (hs : slots ≤ rm.slots) (hQ : Q none T.heap locs) : OGo p e below (EndQ s rm Q) T (mkF m pc Ls []) := by
  obtain ⟨fs, hr, hrun, hended, hW, hsame⟩ := X.leave (v := none) (fun _ => rfl) hlk
  exact ⟨_, _, X.returnOut hx hret hd hr, hrun, hended, _, _, rfl, hQ, ⟨_, rfl⟩, hW, hsame.mono hc hs⟩
theorem riI {z : Int32} {t : FieldType} (ht : t = .int ∨ t = .boolean ∨ t = .byte ∨ t = .char ∨ t = .short) : (Instr.ireturn = .ireturn ∧ (t = .int ∨ t = .boolean ∨ t = .byte ∨ t = .char ∨ t = .short) ∧ ∃ y, Value.int z = .int y) ∨ (Instr.ireturn = .lreturn ∧ t = .long ∧ ∃ y, Value.int z = .long y) ∨ (Instr.ireturn = .dreturn ∧ t = .double ∧ ∃ y, Value.int z = .double y) ∨ (Instr.ireturn = .freturn ∧ t = .float ∧ ∃ y, Value.int z = .float y) ∨ (Instr.ireturn = .areturn ∧ t.isReference = true ∧ (Value.int z).isRef = true) := Or.inl ⟨rfl, ht, z, rfl⟩
/-- a static call by its contract -/
theorem scall (X : Stand p l e R s m args below meth c T locs cells slots) (hx : p.tables.exec = Jvm.exec) (hZ : Z.Warmed39 s.vm) {own : String} {index : Nat} {y : MethodName} {bytes : ByteArray} {maxL : Nat} {ret : Option FieldType} (hown : s.vm.findClass own = some m.cls)
    (w1 : (Jvm.Cond.methodLink own index y).before a0 Z = true) (w2 : (Jvm.Cond.static y).before a0 Z = true) (w3 : (Jvm.Cond.initialized y.cls).before a0 Z = true) (w4 : (Jvm.Cond.code y bytes maxL ret).before a0 Z = true) (hy : y.cls ≠ "java/lang/invoke/MethodHandle" ∧ y.cls ≠ "java/lang/invoke/VarHandle")
    {W : Nat} {rm : Room} {as' : Array Value} {Q : Option Value → Heap → List Loc → Prop} (hM : Con l Z y bytes maxL ret [] rm as' h Q) (eT : T.heap = h) (hf : rm.frames + 1 ≤ R.frames) (hl : W + (maxL + 11) + rm.locals ≤ R.locals) (hc : cells + rm.cells ≤ R.cells) (hs : slots + rm.slots ≤ R.slots)
    {g : JFrame} (hg : g.method = m) (hsize : g.locals.size = c.maxLocals) {argsL rest : List Value} {ps : List FieldType} {r : Option FieldType} (hpd : parseMethodDescriptor y.desc = some ⟨ps, r⟩) (hlen : argsL.length = ps.length) (hstack : g.stack = argsL.reverse ++ rest) (has : argsL.toArray = as') (hW : 2 * g.monitorRoom + (rest.map fun v => v.category).sum ≤ W)
    (hdg : decode c.code g.pc = .ok (.invokestatic index, 3)) :
    ∃ (v : Option Value) (T' : State) (L : List Loc), Stand p l e R s m args below meth c T' (locs ++ L) (cells + rm.cells) (slots + rm.slots) ∧ Q v T'.heap L ∧
      ∀ target, Steps p.tables e below (T'.setTop { g with pc := g.pc + 3, stack := v.toList ++ rest }) target → Steps p.tables e below (T.setTop g) target := by
  obtain ⟨v, vm₁, ⟨T', L', k', n'⟩, -, X', ⟨L, hQ, e1, e2, e3⟩, st⟩ := Jvm.LawKit.callS X hx hown (mvT hZ w1) (mvT hZ w2) (mvT hZ w3) (mvT hZ w4) hy (backOf (W := W) hM hZ w4 w3 hf hl) hg hsize (lenOf hpd hlen) hstack hW hdg (fun _ _ => ⟨has, eT, hc, hs⟩)
  dsimp only [Pt.U, Pt.locs, Pt.cells, Pt.slots] at X' e1 e2 e3 st hQ
  subst e1 e2 e3
  exact ⟨v, T', L, X', hQ, st⟩
/-- a constructor by its contract -/
theorem icall (X : Stand p l e R s m args below meth c T locs cells slots) (hx : p.tables.exec = Jvm.exec) (hZ : Z.Warmed39 s.vm) {own : String} {index : Nat} {y : MethodName} {bytes : ByteArray} {maxL : Nat} (hy1 : y.name = "<init>") (hown : s.vm.findClass own = some m.cls)
    (w1 : (Jvm.Cond.methodLink own index y).before a0 Z = true) (w2 : (Jvm.Cond.instanceMethod y).before a0 Z = true) (w3 : (Jvm.Cond.initialized y.cls).before a0 Z = true) (w4 : (Jvm.Cond.code y bytes maxL none).before a0 Z = true) (hy : y.cls ≠ "java/lang/invoke/MethodHandle" ∧ y.cls ≠ "java/lang/invoke/VarHandle")
    {W : Nat} {rm : Room} {as' : Array Value} {Q : Option Value → Heap → List Loc → Prop} (hM : Con l Z y bytes maxL none [] rm as' h Q) (eT : T.heap = h) (hf : rm.frames + 1 ≤ R.frames) (hl : W + (maxL + 11) + rm.locals ≤ R.locals) (hc : cells + rm.cells ≤ R.cells) (hs : slots + rm.slots ≤ R.slots)
    {g : JFrame} (hg : g.method = m) (hsize : g.locals.size = c.maxLocals) {a : Addr} {argsL rest : List Value} {ps : List FieldType} {r : Option FieldType} (hpd : parseMethodDescriptor y.desc = some ⟨ps, r⟩) (hlen : argsL.length = ps.length) (hstack : g.stack = argsL.reverse ++ .ref a :: rest) (has : (Value.ref a :: argsL).toArray = as') (hW : 2 * g.monitorRoom + (rest.map fun v => v.category).sum ≤ W)
    (hdg : decode c.code g.pc = .ok (.invokespecial index, 3)) :
    ∃ (v : Option Value) (T' : State) (L : List Loc), Stand p l e R s m args below meth c T' (locs ++ L) (cells + rm.cells) (slots + rm.slots) ∧ Q v T'.heap L ∧
      ∀ target, Steps p.tables e below (T'.setTop { g with pc := g.pc + 3, stack := v.toList ++ rest }) target → Steps p.tables e below (T.setTop g) target := by
  obtain ⟨v, vm₁, ⟨T', L', k', n'⟩, -, X', ⟨L, hQ, e1, e2, e3⟩, st⟩ := X.specialBack hx hy1 hown (mvT hZ w1) (mvT hZ w2) (mvT hZ w4) hy (backOf (W := W) hM hZ w4 w3 hf hl) hg hsize (Steps.refl _) (lenOf hpd hlen) hstack hW hdg (fun _ _ => ⟨has, eT, hc, hs⟩)
  dsimp only [Pt.U, Pt.locs, Pt.cells, Pt.slots] at X' e1 e2 e3 st hQ
  subst e1 e2 e3
  exact ⟨v, T', L, X', hQ, fun t k => st.trans k⟩
theorem own_nf {C : String} {x' y z : MethodName} (w : (Jvm.Cond.selects C x' z).before args s = true) (hz : z.cls = y.cls) : NotFace s y := fun r0 h0 => by
  obtain ⟨c2, r2, m2, q1, q2, q3, q4, kP, hkP, hkPi⟩ := Cond.selects_spec w
  have a := findClass_of_methodNamed q3
  have b := findClass_of_methodNamed h0
  rw [hz] at a
  have e : m2.cls = r0.cls := Option.some.inj (a.symm.trans b)
  exact ⟨kP, e ▸ hkP, hkPi⟩
/-- an instance method by the contract of the body that is selected -/
theorem vcall (X : Stand p l e R s m args below meth c T locs cells slots) (hx : p.tables.exec = Jvm.exec) (hZ : Z.Warmed39 s.vm) {own C : String} {index : Nat} {y z : MethodName} {bytes : ByteArray} {maxL : Nat} {ret : Option FieldType} (hown : s.vm.findClass own = some m.cls)
    (w1 : (Jvm.Cond.methodLink own index y).before a0 Z = true) (w2 : (Jvm.Cond.declares y).before a0 Z = true) {C2 : String} {x2 z2 : MethodName} (w7 : (Jvm.Cond.selects C2 x2 z2).before a0 Z = true) (h7 : z2.cls = y.cls) (w5 : (Jvm.Cond.selects C y z).before a0 Z = true) (w6 : (Jvm.Cond.instanceMethod z).before a0 Z = true) (w3 : (Jvm.Cond.initialized z.cls).before a0 Z = true) (w4 : (Jvm.Cond.code z bytes maxL ret).before a0 Z = true) (hy : y.cls ≠ "java/lang/invoke/MethodHandle" ∧ y.cls ≠ "java/lang/invoke/VarHandle")
    {W : Nat} {rm : Room} {as' : Array Value} {Q : Option Value → Heap → List Loc → Prop} (hM : Con l Z z bytes maxL ret [] rm as' h Q) (eT : T.heap = h) (hf : rm.frames + 1 ≤ R.frames) (hl : W + (maxL + 11) + rm.locals ≤ R.locals) (hc : cells + rm.cells ≤ R.cells) (hs : slots + rm.slots ≤ R.slots)
    {g : JFrame} (hg : g.method = m) (hsize : g.locals.size = c.maxLocals) {a : Addr} (E : Exa Z h a C) {argsL rest : List Value} {ps : List FieldType} {r : Option FieldType} (hpd : parseMethodDescriptor y.desc = some ⟨ps, r⟩) (hlen : argsL.length = ps.length) (hstack : g.stack = argsL.reverse ++ .ref a :: rest) (has : (Value.ref a :: argsL).toArray = as') (hW : 2 * g.monitorRoom + (rest.map fun v => v.category).sum ≤ W)
    (hdg : decode c.code g.pc = .ok (.invokevirtual index, 3)) :
    ∃ (v : Option Value) (T' : State) (L : List Loc), Stand p l e R s m args below meth c T' (locs ++ L) (cells + rm.cells) (slots + rm.slots) ∧ Q v T'.heap L ∧
      ∀ target, Steps p.tables e below (T'.setTop { g with pc := g.pc + 3, stack := v.toList ++ rest }) target → Steps p.tables e below (T.setTop g) target := by
  obtain ⟨cq, kq, qa, qb, qc⟩ := isOf hZ eT E
  obtain ⟨v, vm₁, ⟨T', L', k', n'⟩, -, X', ⟨L, hQ, e1, e2, e3⟩, st⟩ := X.virtualBack hx hown (mvT hZ w1) (mvT hZ w2) (own_nf (args := #[]) (mvT hZ w7) h7) (mvT hZ w5) (mvT hZ w6) hy (backOf (W := W) hM hZ w4 w3 hf hl) qa qc hg hsize (Steps.refl _) (lenOf hpd hlen) hstack hW hdg (fun _ _ => ⟨has, eT, hc, hs⟩)
  dsimp only [Pt.U, Pt.locs, Pt.cells, Pt.slots] at X' e1 e2 e3 st hQ
  subst e1 e2 e3
  exact ⟨v, T', L, X', hQ, fun t k => st.trans k⟩
/-- a private instance method by its contract -/
theorem pcall (X : Stand p l e R s m args below meth c T locs cells slots) (hx : p.tables.exec = Jvm.exec) (hZ : Z.Warmed39 s.vm) {own C C' : String} {index : Nat} {y : MethodName} {bytes : ByteArray} {maxL : Nat} {ret : Option FieldType} (hown : s.vm.findClass own = some m.cls)
    (w1 : (Jvm.Cond.methodLink own index y).before a0 Z = true) (w2 : (Jvm.Cond.instanceMethod y).before a0 Z = true) (w5 : (Jvm.Cond.selects C' y y).before a0 Z = true) (w6 : (Jvm.Cond.privateMethod y).before a0 Z = true) (w3 : (Jvm.Cond.initialized y.cls).before a0 Z = true) (w4 : (Jvm.Cond.code y bytes maxL ret).before a0 Z = true) (hy : y.cls ≠ "java/lang/invoke/MethodHandle" ∧ y.cls ≠ "java/lang/invoke/VarHandle")
    {W : Nat} {rm : Room} {as' : Array Value} {Q : Option Value → Heap → List Loc → Prop} (hM : Con l Z y bytes maxL ret [] rm as' h Q) (eT : T.heap = h) (hf : rm.frames + 1 ≤ R.frames) (hl : W + (maxL + 11) + rm.locals ≤ R.locals) (hc : cells + rm.cells ≤ R.cells) (hs : slots + rm.slots ≤ R.slots)
    {g : JFrame} (hg : g.method = m) (hsize : g.locals.size = c.maxLocals) {a : Addr} (E : Exa Z h a C) {argsL rest : List Value} {ps : List FieldType} {r : Option FieldType} (hpd : parseMethodDescriptor y.desc = some ⟨ps, r⟩) (hlen : argsL.length = ps.length) (hstack : g.stack = argsL.reverse ++ .ref a :: rest) (has : (Value.ref a :: argsL).toArray = as') (hW : 2 * g.monitorRoom + (rest.map fun v => v.category).sum ≤ W)
    (hdg : decode c.code g.pc = .ok (.invokevirtual index, 3)) :
    ∃ (v : Option Value) (T' : State) (L : List Loc), Stand p l e R s m args below meth c T' (locs ++ L) (cells + rm.cells) (slots + rm.slots) ∧ Q v T'.heap L ∧
      ∀ target, Steps p.tables e below (T'.setTop { g with pc := g.pc + 3, stack := v.toList ++ rest }) target → Steps p.tables e below (T.setTop g) target := by
  obtain ⟨cq, q1, q2⟩ := E.cell
  have hp := Cond.privateMethod_at (mvP hZ w6 (args := #[]))
  have hsel : (Jvm.Cond.selects y.cls y y).before args s = true := by
    have w5' : (Jvm.Cond.selects C' y y).before args s = true := mvT hZ w5
    obtain ⟨c2, r2, m2, -, -, q3, -, kP, hkP, hkPi⟩ := Cond.selects_spec w5'
    exact selects_self_of_private (findClass_of_methodNamed q3) hkP hkPi hp (mvT hZ w2) hy
  obtain ⟨v, vm₁, ⟨T', L', k', n'⟩, -, X', ⟨L, hQ, e1, e2, e3⟩, st⟩ := X.privateBack hx hown (mvT hZ w1) (mvT hZ w2) hsel hp (mvT hZ w4) hy (backOf (W := W) hM hZ w4 w3 hf hl) hg hsize (Steps.refl _) (by rw [eT]; exact q1) q2 (lenOf hpd hlen) hstack hW hdg (fun _ _ => ⟨has, eT, hc, hs⟩)
  dsimp only [Pt.U, Pt.locs, Pt.cells, Pt.slots] at X' e1 e2 e3 st hQ
  subst e1 e2 e3
  exact ⟨v, T', L, X', hQ, fun t k => st.trans k⟩
theorem own_same {C : String} {x' y z : MethodName} (w : (Jvm.Cond.selects C x' z).before a0 Z = true) (hz : z.cls = y.cls) (wi : (Jvm.Cond.instanceMethod y).before a0 Z = true) (hy : y.cls ≠ "java/lang/invoke/MethodHandle" ∧ y.cls ≠ "java/lang/invoke/VarHandle") : (Jvm.Cond.sameMethod y.cls y.cls y.name y.desc).before a0 Z = true := by
  obtain ⟨mk, methM, hnamed, hmethM, -, -⟩ := Cond.instanceMethod_spec wi
  obtain ⟨c2, r2, m2, -, -, q3, -, kP, hkP, hkPi⟩ := Cond.selects_spec w
  have hc := findClass_of_methodNamed hnamed
  have hc2 := findClass_of_methodNamed q3
  rw [hz] at hc2
  have e : m2.cls = mk.cls := Option.some.inj (hc2.symm.trans hc)
  rw [e] at hkP
  have hfound : Z.methodFound? y.cls y.name y.desc = some mk := State.methodFound?_of_named hnamed hy
  have hn : Z.methodNamed? ⟨y.cls, y.name, y.desc⟩ = some mk := hnamed
  simp only [Cond.before, Cond.holds, Cond.value, hc, hfound, hn, hkP]
  simp [hkPi]
/-- super.m(..) by its contract -/
theorem ucall (X : Stand p l e R s m args below meth c T locs cells slots) (hx : p.tables.exec = Jvm.exec) (hZ : Z.Warmed39 s.vm) {own C : String} {index : Nat} {y : MethodName} {bytes : ByteArray} {maxL : Nat} {ret : Option FieldType} (hown : s.vm.findClass own = some m.cls)
    (w1 : (Jvm.Cond.methodLink own index y).before a0 Z = true) (w2 : (Jvm.Cond.sameMethod y.cls y.cls y.name y.desc).before a0 Z = true) (w5 : (Jvm.Cond.instanceMethod y).before a0 Z = true) (w6 : (Jvm.Cond.superclass own y.cls).before a0 Z = true) (w3 : (Jvm.Cond.initialized y.cls).before a0 Z = true) (w4 : (Jvm.Cond.code y bytes maxL ret).before a0 Z = true) (hy : y.name ≠ "<init>")
    {W : Nat} {rm : Room} {as' : Array Value} {Q : Option Value → Heap → List Loc → Prop} (hM : Con l Z y bytes maxL ret [] rm as' h Q) (eT : T.heap = h) (hf : rm.frames + 1 ≤ R.frames) (hl : W + (maxL + 11) + rm.locals ≤ R.locals) (hc : cells + rm.cells ≤ R.cells) (hs : slots + rm.slots ≤ R.slots)
    {g : JFrame} (hg : g.method = m) (hsize : g.locals.size = c.maxLocals) {a : Addr} (E : Exa Z h a C) {argsL rest : List Value} {ps : List FieldType} {r : Option FieldType} (hpd : parseMethodDescriptor y.desc = some ⟨ps, r⟩) (hlen : argsL.length = ps.length) (hstack : g.stack = argsL.reverse ++ .ref a :: rest) (has : (Value.ref a :: argsL).toArray = as') (hW : 2 * g.monitorRoom + (rest.map fun v => v.category).sum ≤ W)
    (hdg : decode c.code g.pc = .ok (.invokespecial index, 3)) :
    ∃ (v : Option Value) (T' : State) (L : List Loc), Stand p l e R s m args below meth c T' (locs ++ L) (cells + rm.cells) (slots + rm.slots) ∧ Q v T'.heap L ∧
      ∀ target, Steps p.tables e below (T'.setTop { g with pc := g.pc + 3, stack := v.toList ++ rest }) target → Steps p.tables e below (T.setTop g) target := by
  obtain ⟨v, vm₁, ⟨T', L', k', n'⟩, -, X', ⟨L, hQ, e1, e2, e3⟩, st⟩ := superBack X hx hZ hown w1 w2 w5 w6 hy (backOf (W := W) hM hZ w4 w3 hf hl) eT (Ins.self E) hg hsize w4 (lenOf hpd hlen) hstack hW hdg (fun _ _ => ⟨has, eT, hc, hs⟩)
  dsimp only [Pt.U, Pt.locs, Pt.cells, Pt.slots] at X' e1 e2 e3 st hQ
  subst e1 e2 e3
  exact ⟨v, T', L, X', hQ, fun t k => st.trans k⟩
variable {a : Addr} {k : ClassId} {ty : FieldType} {z j : Int32} {vs : List Value} {dv v : Value}
theorem alenV (X : Stand p l e R s m args below meth c T locs cells slots) (hx : p.tables.exec = Jvm.exec) (hZ : Z.Warmed39 s.vm) (eT : T.heap = h) (F : Arv Z h a k ty z vs dv) {g : JFrame} (hg : g.method = m) {rest : List Value} (hst : g.stack = .ref a :: rest) (hd : decode c.code g.pc = .ok (.arraylength, 1)) (target : State)
    (hr : Steps p.tables e below (T.setTop { g with pc := g.pc + 1, stack := .int z :: rest }) target) : Steps p.tables e below (T.setTop g) target := by
  obtain ⟨cl, Ar, -, S, N, -, -⟩ := F
  refine X.arraylength hx (by rw [eT]; exact Ar.1) (State.isArrayOf_alike hZ.alike Ar.2.1) hg hst hd _ ?_
  rw [len_of S N]
  exact hr
theorem caloadV (X : Stand p l e R s m args below meth c T locs cells slots) (hx : p.tables.exec = Jvm.exec) (hZ : Z.Warmed39 s.vm) (eT : T.heap = h) (F : Arv Z h a k .char z vs dv) (hj : ¬ j < 0 ∧ j < z) (hat : vs.getD j.toNatClampNeg dv = v) {g : JFrame} (hg : g.method = m) {rest : List Value} (hst : g.stack = .int j :: .ref a :: rest) (hd : decode c.code g.pc = .ok (.caload, 1)) (target : State)
    (hr : Steps p.tables e below (T.setTop { g with pc := g.pc + 1, stack := v :: rest }) target) : Steps p.tables e below (T.setTop g) target := by
  obtain ⟨cl, Ar, -, S, N, H, -⟩ := F
  exact X.caload hx (by rw [eT]; exact Ar.1) (State.isArrayOf_alike hZ.alike Ar.2.1) Ar.2.2 (inb_of S hj) (H.at (inb_of S hj) hat) hg hst hd _ hr
theorem baloadV (X : Stand p l e R s m args below meth c T locs cells slots) (hx : p.tables.exec = Jvm.exec) (hZ : Z.Warmed39 s.vm) (eT : T.heap = h) (F : Arv Z h a k .byte z vs dv) (hj : ¬ j < 0 ∧ j < z) (hat : vs.getD j.toNatClampNeg dv = v) {g : JFrame} (hg : g.method = m) {rest : List Value} (hst : g.stack = .int j :: .ref a :: rest) (hd : decode c.code g.pc = .ok (.baload, 1)) (target : State)
    (hr : Steps p.tables e below (T.setTop { g with pc := g.pc + 1, stack := v :: rest }) target) : Steps p.tables e below (T.setTop g) target := by
  obtain ⟨cl, Ar, -, S, N, H, -⟩ := F
  exact X.baloadBytes hx (by rw [eT]; exact Ar.1) (State.isArrayOf_alike hZ.alike Ar.2.1) Ar.2.2 (inb_of S hj) (H.at (inb_of S hj) hat) hg hst hd _ hr
theorem ialoadV (X : Stand p l e R s m args below meth c T locs cells slots) (hx : p.tables.exec = Jvm.exec) (hZ : Z.Warmed39 s.vm) (eT : T.heap = h) (F : Arv Z h a k .int z vs dv) (hj : ¬ j < 0 ∧ j < z) (hat : vs.getD j.toNatClampNeg dv = v) {g : JFrame} (hg : g.method = m) {rest : List Value} (hst : g.stack = .int j :: .ref a :: rest) (hd : decode c.code g.pc = .ok (.iaload, 1)) (target : State)
    (hr : Steps p.tables e below (T.setTop { g with pc := g.pc + 1, stack := v :: rest }) target) : Steps p.tables e below (T.setTop g) target := by
  obtain ⟨cl, Ar, -, S, N, H, -⟩ := F
  exact X.iaload hx (by rw [eT]; exact Ar.1) (State.isArrayOf_alike hZ.alike Ar.2.1) Ar.2.2 (inb_of S hj) (H.at (inb_of S hj) hat) hg hst hd _ hr
theorem laloadV (X : Stand p l e R s m args below meth c T locs cells slots) (hx : p.tables.exec = Jvm.exec) (hZ : Z.Warmed39 s.vm) (eT : T.heap = h) (F : Arv Z h a k .long z vs dv) (hj : ¬ j < 0 ∧ j < z) (hat : vs.getD j.toNatClampNeg dv = v) {g : JFrame} (hg : g.method = m) {rest : List Value} (hst : g.stack = .int j :: .ref a :: rest) (hd : decode c.code g.pc = .ok (.laload, 1)) (target : State)
    (hr : Steps p.tables e below (T.setTop { g with pc := g.pc + 1, stack := v :: rest }) target) : Steps p.tables e below (T.setTop g) target := by
  obtain ⟨cl, Ar, -, S, N, H, -⟩ := F
  exact X.laload hx (by rw [eT]; exact Ar.1) (State.isArrayOf_alike hZ.alike Ar.2.1) Ar.2.2 (inb_of S hj) (H.at (inb_of S hj) hat) hg hst hd _ hr
theorem aaloadV (X : Stand p l e R s m args below meth c T locs cells slots) (hx : p.tables.exec = Jvm.exec) (hZ : Z.Warmed39 s.vm) (eT : T.heap = h) (F : Arv Z h a k ty z vs dv) (hty : ty.isReference = true) (hj : ¬ j < 0 ∧ j < z) (hat : vs.getD j.toNatClampNeg dv = v) {g : JFrame} (hg : g.method = m) {rest : List Value} (hst : g.stack = .int j :: .ref a :: rest) (hd : decode c.code g.pc = .ok (.aaload, 1)) (target : State)
    (hr : Steps p.tables e below (T.setTop { g with pc := g.pc + 1, stack := v :: rest }) target) : Steps p.tables e below (T.setTop g) target := by
  obtain ⟨cl, Ar, -, S, N, H, -⟩ := F
  exact X.aaload hx (by rw [eT]; exact Ar.1) (State.isArrayOf_alike hZ.alike Ar.2.1) hty Ar.2.2 (inb_of S hj) (H.at (inb_of S hj) hat) hg hst hd _ hr
theorem castoreV (X : Stand p l e R s m args below meth c T locs cells slots) (hx : p.tables.exec = Jvm.exec) (hZ : Z.Warmed39 s.vm) (eT : T.heap = h) (F : Arv Z h a k .char z vs dv) {j x : Int32} (hj : ¬ j < 0 ∧ j < z) (hi : j.toNatClampNeg < vs.length) {g : JFrame} (hg : g.method = m) {rest : List Value} (hst : g.stack = .int x :: .int j :: .ref a :: rest) (hd : decode c.code g.pc = .ok (.castore, 1)) :
    ∃ T' h', Stand p l e R s m args below meth c T' (locs ++ [⟨a, j.toNatClampNeg⟩]) cells slots ∧ T'.heap = h' ∧ Wr h h' a j.toNatClampNeg (.int (nar .char x)) ∧ Arv Z h' a k .char z (vs.set j.toNatClampNeg (.int (nar .char x))) dv ∧ ∀ target, Steps p.tables e below (T'.setTop { g with pc := g.pc + 1, stack := rest }) target → Steps p.tables e below (T.setTop g) target := by
  obtain ⟨cl, Ar, q, S, N, H, G⟩ := F
  obtain ⟨T', h', X', e', W, st⟩ := stC X hx hZ eT Ar (j := j) (x := x) (inb_of S hj) hg hst hd
  exact ⟨T', h', X', e', W, Arv.set Ar q S N H G (fits_nar_char _) W _ rfl hi, st⟩
theorem bastoreV (X : Stand p l e R s m args below meth c T locs cells slots) (hx : p.tables.exec = Jvm.exec) (hZ : Z.Warmed39 s.vm) (eT : T.heap = h) (F : Arv Z h a k .byte z vs dv) {j x : Int32} (hj : ¬ j < 0 ∧ j < z) (hi : j.toNatClampNeg < vs.length) {g : JFrame} (hg : g.method = m) {rest : List Value} (hst : g.stack = .int x :: .int j :: .ref a :: rest) (hd : decode c.code g.pc = .ok (.bastore, 1)) :
    ∃ T' h', Stand p l e R s m args below meth c T' (locs ++ [⟨a, j.toNatClampNeg⟩]) cells slots ∧ T'.heap = h' ∧ Wr h h' a j.toNatClampNeg (.int (nar .byte x)) ∧ Arv Z h' a k .byte z (vs.set j.toNatClampNeg (.int (nar .byte x))) dv ∧ ∀ target, Steps p.tables e below (T'.setTop { g with pc := g.pc + 1, stack := rest }) target → Steps p.tables e below (T.setTop g) target := by
  obtain ⟨cl, Ar, q, S, N, H, G⟩ := F
  obtain ⟨T', h', X', e', W, st⟩ := stB X hx hZ eT Ar (j := j) (x := x) (inb_of S hj) hg hst hd
  exact ⟨T', h', X', e', W, Arv.set Ar q S N H G (fits_nar_byte _) W _ rfl hi, st⟩
theorem lastoreV (X : Stand p l e R s m args below meth c T locs cells slots) (hx : p.tables.exec = Jvm.exec) (hZ : Z.Warmed39 s.vm) (eT : T.heap = h) (F : Arv Z h a k .long z vs dv) {j : Int32} {x : Int64} (hj : ¬ j < 0 ∧ j < z) (hi : j.toNatClampNeg < vs.length) {g : JFrame} (hg : g.method = m) {rest : List Value} (hst : g.stack = .long x :: .int j :: .ref a :: rest) (hd : decode c.code g.pc = .ok (.lastore, 1)) :
    ∃ T' h', Stand p l e R s m args below meth c T' (locs ++ [⟨a, j.toNatClampNeg⟩]) cells slots ∧ T'.heap = h' ∧ Wr h h' a j.toNatClampNeg (.long x) ∧ Arv Z h' a k .long z (vs.set j.toNatClampNeg (.long x)) dv ∧ ∀ target, Steps p.tables e below (T'.setTop { g with pc := g.pc + 1, stack := rest }) target → Steps p.tables e below (T.setTop g) target := by
  obtain ⟨cl, Ar, q, S, N, H, G⟩ := F
  obtain ⟨T', h', X', e', W, st⟩ := stJ X hx hZ eT Ar (j := j) (inb_of S hj) hg hst hd
  exact ⟨T', h', X', e', W, Arv.set Ar q S N H G rfl W _ rfl hi, st⟩
end K
end Jvm.OwnKit
namespace Jvm.OwnKit
open Sem ClassFile Op Lib Jvm.Stand Jvm.Free Jvm.LawKit Jvm.RoadKit
/-- the contract of a body that may load String constants: those of EL hold their text before and behind it -/
abbrev ConH (l : Launch) (Z : State) (EL : List (String × Nat)) (y : MethodName) (bytes : ByteArray) (maxL : Nat) (ret : Option FieldType) (ws : List Jvm.Cond) (rm : Room) (as' : Array Value) (h0 : Heap) (Q : Option Value → Heap → List Loc → Prop) : Prop :=
  MetFree l y (head1 (Jvm.Cond.code y bytes maxL ret :: ws) rm) (fun a U => a = as' ∧ Z.Warmed39 U.vm ∧ U.heap = h0 ∧ CHv Z EL U.vm h0) (fun _ _ _ _ _ => True) (fun _ U o U' => ∃ v L, o = .returned v ∧ Q v U'.heap L ∧ CHr Z EL U.vm U.heap U'.vm U'.heap ∧ ReturnedEndW U o U' L rm.cells rm.slots)
abbrev EndH (Z : State) (EL : List (String × Nat)) (s : State) (rm : Room) (Q : Option Value → Heap → List Loc → Prop) : Outcome → State → Prop := fun o t => ∃ v L, o = .returned v ∧ Q v t.heap L ∧ CHr Z EL s.vm s.heap t.vm t.heap ∧ ReturnedEndW s o t L rm.cells rm.slots
section K
variable {p : Program} {l : Launch} {e : Env} {R : Room} {s : State} {m : MethodId} {args : Array Value} {below : List Frame} {meth : Method} {c : Code} {T T' : State} {locs : List Loc} {cells slots : Nat} {Qe : Outcome → State → Prop} {g g' : JFrame} {Z : State} {a0 : Array Value} {h : Heap} {EL : List (String × Nat)} {vm : Vm} {k0 : Nat}
theorem ConH.intro {y : MethodName} {bytes : ByteArray} {maxL : Nat} {ret : Option FieldType} {ws : List Jvm.Cond} {rm : Room} {as' : Array Value} {h0 : Heap} {Q : Option Value → Heap → List Loc → Prop} (hpl : plainFor y = true)
    (body : ∀ (p : Program) (e : Env) (s : State) (m : MethodId) (below : List Frame) (meth : Method) (c : Code) (s₁ : State), p.tables.exec = Jvm.exec → c.code = bytes → c.maxLocals = maxL → s.vm.findClass y.cls = some m.cls →
      meth.sig.returnType = ret → meth.locks = false → Z.Warmed39 s.vm → meth.name = y.name → Stand p l e rm (s.setVm s.vm) m as' below meth c s₁ [] 0 0 → s₁.heap = h0 → s.heap = h0 → s.Since s.vm 0 → CHv Z EL s.vm h0 → CHr Z EL s.vm h0 s.vm h0 → OGo p e below (EndH Z EL s rm Q) s₁ (entryFrame m as' maxL)) :
    ConH l Z EL y bytes maxL ret ws rm as' h0 Q := by
  refine MetFree.of_bodySF hpl hisR ?_
  intro p e s m args below meth c s₁ Bd hml0 hP hK
  obtain ⟨rfl, hZ, hh, hH⟩ := hP
  exact body p e s m below meth c s₁ Bd.exec Bd.bytes hml0 (findClass_of_methodNamed Bd.named) Bd.returns Bd.notSynchronized hZ (name_of_methodNamed Bd.named Bd.method).1 (Stand.of_body Bd) (by rw [← hh, Bd.state]; rfl) hh ((State.WarmedH.refl s).since 0) hH (CHr.refl hH)
theorem OGo.retH {Q : Option Value → Heap → List Loc → Prop} {rm : Room} {h0 : Heap} (X : Stand p l e R (s.setVm vm) m args below meth c T locs cells slots) (hx : p.tables.exec = Jvm.exec) (hZ : Z.Warmed39 vm) (hEL : EW Z a0 EL) (hs0 : s.heap = h0) (eT : T.heap = h) (hS : s.Since vm k0) (hk : k0 ≤ h.size) (H : CHv Z EL vm h) (hR : CHr Z EL s.vm h0 vm h) {pc : Nat} {Ls : Array Slot} {w : Value} {t : FieldType} {i : Instr} {rest : List Value} (hret : meth.sig.returnType = some t) (hlk : meth.locks = false) (hn : narrow t w = w)
    (hi : (i = .ireturn ∧ (t = .int ∨ t = .boolean ∨ t = .byte ∨ t = .char ∨ t = .short) ∧ ∃ z, w = .int z) ∨ (i = .lreturn ∧ t = .long ∧ ∃ z, w = .long z) ∨ (i = .dreturn ∧ t = .double ∧ ∃ z, w = .double z) ∨ (i = .freturn ∧ t = .float ∧ ∃ z, w = .float z) ∨ (i = .areturn ∧ t.isReference = true ∧ w.isRef = true))
    (hd : decode c.code pc = .ok (i, 1)) (hc : cells ≤ rm.cells) (hs : slots ≤ rm.slots) (hQ : Q (some w) h locs) : OGo p e below (EndH Z EL s rm Q) T (mkF m pc Ls (w :: rest)) := by
  subst eT
  obtain ⟨fs, hr, hrun, hended, q1, q2, q3, q4⟩ := X.leaveW hS hk (v := some w) (fun h => by rw [hret] at h; cases h) hlk
  exact ⟨_, _, retOut X hx hret hn hi hd hr, hrun, hended, _, _, rfl, hQ, (by rw [hs0]; have q := hR.trans (CHv.at X hZ hEL H); exact q), q1, q2, q3, q4.mono hc hs⟩
theorem OGo.retHV {Q : Option Value → Heap → List Loc → Prop} {rm : Room} {h0 : Heap} (X : Stand p l e R (s.setVm vm) m args below meth c T locs cells slots) (hx : p.tables.exec = Jvm.exec) (hZ : Z.Warmed39 vm) (hEL : EW Z a0 EL) (hs0 : s.heap = h0) (eT : T.heap = h) (hS : s.Since vm k0) (hk : k0 ≤ h.size) (H : CHv Z EL vm h) (hR : CHr Z EL s.vm h0 vm h) {pc : Nat} {Ls : Array Slot} (hret : meth.sig.returnType = none) (hlk : meth.locks = false)
    (hd : decode c.code pc = .ok (.return_, 1)) (hc : cells ≤ rm.cells) (hs : slots ≤ rm.slots) (hQ : Q none h locs) : OGo p e below (EndH Z EL s rm Q) T (mkF m pc Ls []) := by
  subst eT
  obtain ⟨fs, hr, hrun, hended, q1, q2, q3, q4⟩ := X.leaveW hS hk (v := none) (fun _ => rfl) hlk
  exact ⟨_, _, X.returnOut hx hret hd hr, hrun, hended, _, _, rfl, hQ, (by rw [hs0]; have q := hR.trans (CHv.at X hZ hEL H); exact q), q1, q2, q3, q4.mono hc hs⟩
theorem scallH (X : Stand p l e R (s.setVm vm) m args below meth c T locs cells slots) (hx : p.tables.exec = Jvm.exec) (hZ : Z.Warmed39 vm) {own : String} {index : Nat} {y : MethodName} {bytes : ByteArray} {maxL : Nat} {ret : Option FieldType} (hown : vm.findClass own = some m.cls)
    (hEL : EW Z a0 EL) (hS : s.Since vm k0) (hk : k0 ≤ h.size) (H : CHv Z EL vm h)
    (w1 : (Jvm.Cond.methodLink own index y).before a0 Z = true) (w2 : (Jvm.Cond.static y).before a0 Z = true) (w3 : (Jvm.Cond.initialized y.cls).before a0 Z = true) (w4 : (Jvm.Cond.code y bytes maxL ret).before a0 Z = true) (hy : y.cls ≠ "java/lang/invoke/MethodHandle" ∧ y.cls ≠ "java/lang/invoke/VarHandle")
    {W : Nat} {rm : Room} {as' : Array Value} {Q : Option Value → Heap → List Loc → Prop} (hM : ConH l Z EL y bytes maxL ret [] rm as' h Q) (eT : T.heap = h) (hf : rm.frames + 1 ≤ R.frames) (hl : W + (maxL + 11) + rm.locals ≤ R.locals) (hc : cells + rm.cells ≤ R.cells) (hs : slots + rm.slots ≤ R.slots)
    {g : JFrame} (hg : g.method = m) (hsize : g.locals.size = c.maxLocals) {argsL rest : List Value} {ps : List FieldType} {r : Option FieldType} (hpd : parseMethodDescriptor y.desc = some ⟨ps, r⟩) (hlen : argsL.length = ps.length) (hstack : g.stack = argsL.reverse ++ rest) (has : argsL.toArray = as') (hW : 2 * g.monitorRoom + (rest.map fun v => v.category).sum ≤ W)
    (hdg : decode c.code g.pc = .ok (.invokestatic index, 3)) :
    ∃ (v : Option Value) (T' : State) (L : List Loc) (k1 : Nat), Stand p l e R (s.setVm T'.vm) m args below meth c T' (locs ++ L) (cells + rm.cells) (slots + rm.slots) ∧ s.Since T'.vm k1 ∧ k1 ≤ T'.heap.size ∧ Z.Warmed39 T'.vm ∧ T'.vm.findClass own = some m.cls ∧ CHr Z EL vm h T'.vm T'.heap ∧ Q v T'.heap L ∧
      ∀ target, Steps p.tables e below (T'.setTop { g with pc := g.pc + 3, stack := v.toList ++ rest }) target → Steps p.tables e below (T.setTop g) target := by
  subst eT
  obtain ⟨v, vm₁, ⟨T', L', k', n'⟩, -, X', hS', hgr, ⟨L, hQ, e1, e2, e3, hR⟩, st⟩ := callSS X hx hown (mvT (s := s.setVm vm) hZ w1) (mvT (s := s.setVm vm) hZ w2) (mvT (s := s.setVm vm) hZ w3) (mvT (s := s.setVm vm) hZ w4) hy (backOfSH (s := s) (W := W) hM hZ w4 w3 hf hl hEL H) hg hsize (lenOf hpd hlen) hstack hW hdg (fun _ _ => ⟨has, rfl, hc, hs⟩)
  dsimp only [Pt.U, Pt.locs, Pt.cells, Pt.slots] at X' e1 e2 e3 st hQ hS' hgr hR
  subst e1 e2 e3
  exact ⟨v, T', L, _, X', hS.trans hS' (Nat.le_trans hk hgr), Nat.le_refl _, State.Warmed39.trans (t := s.setVm vm) hZ hS'.1, by rw [hS'.1.alike.findClass]; exact hown, hR, hQ, fun t k => st.trans k⟩
theorem icallH (X : Stand p l e R (s.setVm vm) m args below meth c T locs cells slots) (hx : p.tables.exec = Jvm.exec) (hZ : Z.Warmed39 vm) {own : String} {index : Nat} {y : MethodName} {bytes : ByteArray} {maxL : Nat} (hy1 : y.name = "<init>") (hown : vm.findClass own = some m.cls)
    (hEL : EW Z a0 EL) (hS : s.Since vm k0) (hk : k0 ≤ h.size) (H : CHv Z EL vm h)
    (w1 : (Jvm.Cond.methodLink own index y).before a0 Z = true) (w2 : (Jvm.Cond.instanceMethod y).before a0 Z = true) (w3 : (Jvm.Cond.initialized y.cls).before a0 Z = true) (w4 : (Jvm.Cond.code y bytes maxL none).before a0 Z = true) (hy : y.cls ≠ "java/lang/invoke/MethodHandle" ∧ y.cls ≠ "java/lang/invoke/VarHandle")
    {W : Nat} {rm : Room} {as' : Array Value} {Q : Option Value → Heap → List Loc → Prop} (hM : ConH l Z EL y bytes maxL none [] rm as' h Q) (eT : T.heap = h) (hf : rm.frames + 1 ≤ R.frames) (hl : W + (maxL + 11) + rm.locals ≤ R.locals) (hc : cells + rm.cells ≤ R.cells) (hs : slots + rm.slots ≤ R.slots)
    {g : JFrame} (hg : g.method = m) (hsize : g.locals.size = c.maxLocals) {a : Addr} {argsL rest : List Value} {ps : List FieldType} {r : Option FieldType} (hpd : parseMethodDescriptor y.desc = some ⟨ps, r⟩) (hlen : argsL.length = ps.length) (hstack : g.stack = argsL.reverse ++ .ref a :: rest) (has : (Value.ref a :: argsL).toArray = as') (hW : 2 * g.monitorRoom + (rest.map fun v => v.category).sum ≤ W)
    (hdg : decode c.code g.pc = .ok (.invokespecial index, 3)) :
    ∃ (v : Option Value) (T' : State) (L : List Loc) (k1 : Nat), Stand p l e R (s.setVm T'.vm) m args below meth c T' (locs ++ L) (cells + rm.cells) (slots + rm.slots) ∧ s.Since T'.vm k1 ∧ k1 ≤ T'.heap.size ∧ Z.Warmed39 T'.vm ∧ T'.vm.findClass own = some m.cls ∧ CHr Z EL vm h T'.vm T'.heap ∧ Q v T'.heap L ∧
      ∀ target, Steps p.tables e below (T'.setTop { g with pc := g.pc + 3, stack := v.toList ++ rest }) target → Steps p.tables e below (T.setTop g) target := by
  subst eT
  obtain ⟨v, vm₁, ⟨T', L', k', n'⟩, -, X', hS', hgr, ⟨L, hQ, e1, e2, e3, hR⟩, st⟩ := X.specialBackS hx hy1 hown (mvT (s := s.setVm vm) hZ w1) (mvT (s := s.setVm vm) hZ w2) (mvT (s := s.setVm vm) hZ w4) hy (backOfSH (s := s) (W := W) hM hZ w4 w3 hf hl hEL H) hg hsize (Steps.refl _) (lenOf hpd hlen) hstack hW hdg (fun _ _ => ⟨has, rfl, hc, hs⟩)
  dsimp only [Pt.U, Pt.locs, Pt.cells, Pt.slots] at X' e1 e2 e3 st hQ hS' hgr hR
  subst e1 e2 e3
  exact ⟨v, T', L, _, X', hS.trans hS' (Nat.le_trans hk hgr), Nat.le_refl _, State.Warmed39.trans (t := s.setVm vm) hZ hS'.1, by rw [hS'.1.alike.findClass]; exact hown, hR, hQ, fun t k => st.trans k⟩
theorem vcallH (X : Stand p l e R (s.setVm vm) m args below meth c T locs cells slots) (hx : p.tables.exec = Jvm.exec) (hZ : Z.Warmed39 vm) {own C : String} {index : Nat} {y z : MethodName} {bytes : ByteArray} {maxL : Nat} {ret : Option FieldType} (hown : vm.findClass own = some m.cls)
    (hEL : EW Z a0 EL) (hS : s.Since vm k0) (hk : k0 ≤ h.size) (H : CHv Z EL vm h)
    (w1 : (Jvm.Cond.methodLink own index y).before a0 Z = true) (w2 : (Jvm.Cond.declares y).before a0 Z = true) {C2 : String} {x2 z2 : MethodName} (w7 : (Jvm.Cond.selects C2 x2 z2).before a0 Z = true) (h7 : z2.cls = y.cls) (w5 : (Jvm.Cond.selects C y z).before a0 Z = true) (w6 : (Jvm.Cond.instanceMethod z).before a0 Z = true) (w3 : (Jvm.Cond.initialized z.cls).before a0 Z = true) (w4 : (Jvm.Cond.code z bytes maxL ret).before a0 Z = true) (hy : y.cls ≠ "java/lang/invoke/MethodHandle" ∧ y.cls ≠ "java/lang/invoke/VarHandle")
    {W : Nat} {rm : Room} {as' : Array Value} {Q : Option Value → Heap → List Loc → Prop} (hM : ConH l Z EL z bytes maxL ret [] rm as' h Q) (eT : T.heap = h) (hf : rm.frames + 1 ≤ R.frames) (hl : W + (maxL + 11) + rm.locals ≤ R.locals) (hc : cells + rm.cells ≤ R.cells) (hs : slots + rm.slots ≤ R.slots)
    {g : JFrame} (hg : g.method = m) (hsize : g.locals.size = c.maxLocals) {a : Addr} (E : Exa Z h a C) {argsL rest : List Value} {ps : List FieldType} {r : Option FieldType} (hpd : parseMethodDescriptor y.desc = some ⟨ps, r⟩) (hlen : argsL.length = ps.length) (hstack : g.stack = argsL.reverse ++ .ref a :: rest) (has : (Value.ref a :: argsL).toArray = as') (hW : 2 * g.monitorRoom + (rest.map fun v => v.category).sum ≤ W)
    (hdg : decode c.code g.pc = .ok (.invokevirtual index, 3)) :
    ∃ (v : Option Value) (T' : State) (L : List Loc) (k1 : Nat), Stand p l e R (s.setVm T'.vm) m args below meth c T' (locs ++ L) (cells + rm.cells) (slots + rm.slots) ∧ s.Since T'.vm k1 ∧ k1 ≤ T'.heap.size ∧ Z.Warmed39 T'.vm ∧ T'.vm.findClass own = some m.cls ∧ CHr Z EL vm h T'.vm T'.heap ∧ Q v T'.heap L ∧
      ∀ target, Steps p.tables e below (T'.setTop { g with pc := g.pc + 3, stack := v.toList ++ rest }) target → Steps p.tables e below (T.setTop g) target := by
  subst eT
  obtain ⟨cq, kq, qa, qb, qc⟩ := isOf (s := s.setVm vm) hZ rfl E
  obtain ⟨v, vm₁, ⟨T', L', k', n'⟩, -, X', hS', hgr, ⟨L, hQ, e1, e2, e3, hR⟩, st⟩ := X.virtualBackS hx hown (mvT (s := s.setVm vm) hZ w1) (mvT (s := s.setVm vm) hZ w2) (own_nf (args := #[]) (mvT (s := s.setVm vm) hZ w7) h7) (mvT (s := s.setVm vm) hZ w5) (mvT (s := s.setVm vm) hZ w6) hy (backOfSH (s := s) (W := W) hM hZ w4 w3 hf hl hEL H) qa qc hg hsize (Steps.refl _) (lenOf hpd hlen) hstack hW hdg (fun _ _ => ⟨has, rfl, hc, hs⟩)
  dsimp only [Pt.U, Pt.locs, Pt.cells, Pt.slots] at X' e1 e2 e3 st hQ hS' hgr hR
  subst e1 e2 e3
  exact ⟨v, T', L, _, X', hS.trans hS' (Nat.le_trans hk hgr), Nat.le_refl _, State.Warmed39.trans (t := s.setVm vm) hZ hS'.1, by rw [hS'.1.alike.findClass]; exact hown, hR, hQ, fun t k => st.trans k⟩
/-- a String whose value is null yet is none of the booked constants -/
theorem own_safeNull {x : Addr} (hal : Z.vm.Alike vm) (E : Exa Z h x "java/lang/String") (F : Fld Z h x "java/lang/String" "value" "[B" .null) : Safe Z EL vm h x := fun B => by
  obtain ⟨cell, k, e1, e2, e3, -, -⟩ := E
  obtain ⟨cell', cf, k1, i1, f, g1, g2, -, -, -, -, g7⟩ := F
  cases g1.symm.trans e1
  have nm : ∀ {n : String} {c : ClassId}, vm.findClass n = some c → c = cell.cls → n = "java/lang/String" := fun {n c} f e => by
    subst e
    rw [hal.findClass] at f
    obtain ⟨k1, q1, q2⟩ := Vm.findClass_spec f
    obtain ⟨k2, q3, q4⟩ := Vm.findClass_spec e2
    cases q1.symm.trans q3
    exact q2.symm.trans q4
  obtain ⟨p, -, u, a, -, q, -, S, rfl | rfl⟩ := B
  · cases (show h[q.sa]? = some q.sC from S.ha).symm.trans e1
    obtain ⟨cS, ⟨L1, -⟩, -⟩ := S
    obtain ⟨-, -, -, ⟨c5, k5, i5, ff, -⟩, -, -, -, sv, -⟩ := L1
    obtain ⟨k6, zz⟩ := ff_back (Z := Z) (U := Wst Z vm h) hal ff
    cases zz.symm.trans g2
    rw [sv] at g7
    cases g7
  · cases (show h[q.sd]? = some q.SA from S.hd).symm.trans e1
    obtain ⟨cS, -, -, f, -⟩ := S
    exact absurd (nm f rfl) (by decide)
end K
end Jvm.OwnKit
namespace Jvm.OwnKit
open Sem ClassFile Op Lib Jvm.Stand Jvm.Free Jvm.LawKit Jvm.RoadKit
/-- ConH, and besides: Pv of the tables at the start, and an end that may speak of the tables -/
abbrev ConP (l : Launch) (Z : State) (EL : List (String × Nat)) (y : MethodName) (bytes : ByteArray) (maxL : Nat) (ret : Option FieldType) (ws : List Jvm.Cond) (rm : Room) (as' : Array Value) (h0 : Heap) (Pv : Vm → Prop) (Q : Option Value → Heap → List Loc → Vm → Prop) : Prop :=
  MetFree l y (head1 (Jvm.Cond.code y bytes maxL ret :: ws) rm) (fun a U => a = as' ∧ Z.Warmed39 U.vm ∧ U.heap = h0 ∧ CHv Z EL U.vm h0 ∧ Pv U.vm) (fun _ _ _ _ _ => True) (fun _ U o U' => ∃ v L, o = .returned v ∧ Q v U'.heap L U'.vm ∧ CHr Z EL U.vm U.heap U'.vm U'.heap ∧ ReturnedEndW U o U' L rm.cells rm.slots)
abbrev EndP (Z : State) (EL : List (String × Nat)) (s : State) (rm : Room) (Q : Option Value → Heap → List Loc → Vm → Prop) : Outcome → State → Prop := fun o t => ∃ v L, o = .returned v ∧ Q v t.heap L t.vm ∧ CHr Z EL s.vm s.heap t.vm t.heap ∧ ReturnedEndW s o t L rm.cells rm.slots
section PP
variable {p : Program} {l : Launch} {e : Env} {R : Room} {s : State} {m : MethodId} {args : Array Value} {below : List Frame} {meth : Method} {c : Code} {T T' : State} {locs : List Loc} {cells slots : Nat} {Qe : Outcome → State → Prop} {g g' : JFrame} {Z : State} {a0 : Array Value} {h : Heap} {EL : List (String × Nat)} {vm : Vm} {k0 : Nat}
theorem ConP.intro {y : MethodName} {bytes : ByteArray} {maxL : Nat} {ret : Option FieldType} {ws : List Jvm.Cond} {rm : Room} {as' : Array Value} {h0 : Heap} {Pv : Vm → Prop} {Q : Option Value → Heap → List Loc → Vm → Prop} (hpl : plainFor y = true)
    (body : ∀ (p : Program) (e : Env) (s : State) (m : MethodId) (below : List Frame) (meth : Method) (c : Code) (s₁ : State), p.tables.exec = Jvm.exec → c.code = bytes → c.maxLocals = maxL → s.vm.findClass y.cls = some m.cls →
      meth.sig.returnType = ret → meth.locks = false → Z.Warmed39 s.vm → meth.name = y.name → Stand p l e rm (s.setVm s.vm) m as' below meth c s₁ [] 0 0 → s₁.heap = h0 → s.heap = h0 → s.Since s.vm 0 → CHv Z EL s.vm h0 → CHr Z EL s.vm h0 s.vm h0 → Pv s.vm → OGo p e below (EndP Z EL s rm Q) s₁ (entryFrame m as' maxL)) :
    ConP l Z EL y bytes maxL ret ws rm as' h0 Pv Q := by
  refine MetFree.of_bodySF hpl hisR ?_
  intro p e s m args below meth c s₁ Bd hml0 hP hK
  obtain ⟨rfl, hZ, hh, hH, hv⟩ := hP
  exact body p e s m below meth c s₁ Bd.exec Bd.bytes hml0 (findClass_of_methodNamed Bd.named) Bd.returns Bd.notSynchronized hZ (name_of_methodNamed Bd.named Bd.method).1 (Stand.of_body Bd) (by rw [← hh, Bd.state]; rfl) hh ((State.WarmedH.refl s).since 0) hH (CHr.refl hH) hv
theorem OGo.retP {Q : Option Value → Heap → List Loc → Vm → Prop} {rm : Room} {h0 : Heap} (X : Stand p l e R (s.setVm vm) m args below meth c T locs cells slots) (hx : p.tables.exec = Jvm.exec) (hZ : Z.Warmed39 vm) (hEL : EW Z a0 EL) (hs0 : s.heap = h0) (eT : T.heap = h) (hS : s.Since vm k0) (hk : k0 ≤ h.size) (H : CHv Z EL vm h) (hR : CHr Z EL s.vm h0 vm h) {pc : Nat} {Ls : Array Slot} {w : Value} {t : FieldType} {i : Instr} {rest : List Value} (hret : meth.sig.returnType = some t) (hlk : meth.locks = false) (hn : narrow t w = w)
    (hi : (i = .ireturn ∧ (t = .int ∨ t = .boolean ∨ t = .byte ∨ t = .char ∨ t = .short) ∧ ∃ z, w = .int z) ∨ (i = .lreturn ∧ t = .long ∧ ∃ z, w = .long z) ∨ (i = .dreturn ∧ t = .double ∧ ∃ z, w = .double z) ∨ (i = .freturn ∧ t = .float ∧ ∃ z, w = .float z) ∨ (i = .areturn ∧ t.isReference = true ∧ w.isRef = true))
    (hd : decode c.code pc = .ok (i, 1)) (hc : cells ≤ rm.cells) (hs : slots ≤ rm.slots) (hQ : Q (some w) h locs T.vm) : OGo p e below (EndP Z EL s rm Q) T (mkF m pc Ls (w :: rest)) := by
  subst eT
  obtain ⟨fs, hr, hrun, hended, q1, q2, q3, q4⟩ := X.leaveW hS hk (v := some w) (fun h => by rw [hret] at h; cases h) hlk
  exact ⟨_, _, retOut X hx hret hn hi hd hr, hrun, hended, _, _, rfl, hQ, (by rw [hs0]; have q := hR.trans (CHv.at X hZ hEL H); exact q), q1, q2, q3, q4.mono hc hs⟩
theorem backOfP {y : MethodName} {bytes : ByteArray} {maxL : Nat} {ret : Option FieldType} {rm : Room} {len W : Nat} {as' : Array Value} {Pv : Vm → Prop} {Q : Option Value → Heap → List Loc → Vm → Prop}
    (hM : ConP l Z EL y bytes maxL ret [] rm as' h Pv Q) (hZ : Z.Warmed39 vm) (wc : (Cond.code y bytes maxL ret).before a0 Z = true) (wz : (Cond.initialized y.cls).before a0 Z = true) (hf : rm.frames + 1 ≤ R.frames) (hl : W + (maxL + 11) + rm.locals ≤ R.locals) (hEL : EW Z a0 EL) (H : CHv Z EL vm h) (hP : ∀ vm', (s.setVm vm).Warmed39 vm' → Pv vm') :
    BackS l R p e below (s.setVm vm) args y len W (fun A a => a = as' ∧ A.U.heap = h ∧ A.cells + rm.cells ≤ R.cells ∧ A.slots + rm.slots ≤ R.slots)
      (fun A _ v B => ∃ L, Q v B.U.heap L B.U.vm ∧ B.locs = A.locs ++ L ∧ B.cells = A.cells + rm.cells ∧ B.slots = A.slots + rm.slots ∧ CHr Z EL vm h B.U.vm B.U.heap) :=
  BackS.of_freeW (bytes := bytes) (maxL := maxL) (ret := ret) (E := fun _ first o t L k n => k = rm.cells ∧ n = rm.slots ∧ (∃ v, o = .returned v ∧ Q v t.heap L t.vm) ∧ CHr Z EL first.vm first.heap t.vm t.heap) hM hf hl
    (fun m meth c A a Y hp => have hU : Z.Warmed39 A.U.vm := wtrans (s := s.setVm vm) hZ Y.warmed
      ⟨by show (Cond.and _ .tt).before a A.U = true; rw [Cond.before_and, mv hU wc]; rfl, mv hU wc, mv hU wz, hp.2.2.1, hp.2.2.2⟩)
    (fun m meth c A a g mk Y hp => ⟨hp.1, wtrans (s := s.setVm vm) hZ Y.warmed, hp.2.1, (CHv.at Y hZ hEL H).1, hP _ (wtrans (Z := s.setVm vm) (s := s.setVm vm) (State.Warmed39.refl _) Y.warmed)⟩) (fun _ _ _ _ _ _ _ _ _ => trivial)
    (fun _ _ _ _ ⟨v, L, h1, h2, h3, h4⟩ => ⟨L, _, _, h4, rfl, rfl, ⟨v, h1, h2⟩, h3⟩)
    (fun m meth c A a g mk v t L k n Y hp _ _ ⟨e1, e2, ⟨v', e3, e4⟩, e5⟩ => by
      cases e3; subst e1 e2
      refine ⟨L, e4, rfl, rfl, rfl, (CHv.at Y hZ hEL H).trans ?_⟩
      rw [← hp.2.1]; exact e5)
theorem scallP (X : Stand p l e R (s.setVm vm) m args below meth c T locs cells slots) (hx : p.tables.exec = Jvm.exec) (hZ : Z.Warmed39 vm) {own : String} {index : Nat} {y : MethodName} {bytes : ByteArray} {maxL : Nat} {ret : Option FieldType} (hown : vm.findClass own = some m.cls)
    (hEL : EW Z a0 EL) (hS : s.Since vm k0) (hk : k0 ≤ h.size) (H : CHv Z EL vm h) {Pv : Vm → Prop} (hP : ∀ vm', (s.setVm vm).Warmed39 vm' → Pv vm')
    (w1 : (Jvm.Cond.methodLink own index y).before a0 Z = true) (w2 : (Jvm.Cond.static y).before a0 Z = true) (w3 : (Jvm.Cond.initialized y.cls).before a0 Z = true) (w4 : (Jvm.Cond.code y bytes maxL ret).before a0 Z = true) (hy : y.cls ≠ "java/lang/invoke/MethodHandle" ∧ y.cls ≠ "java/lang/invoke/VarHandle")
    {W : Nat} {rm : Room} {as' : Array Value} {Q : Option Value → Heap → List Loc → Vm → Prop} (hM : ConP l Z EL y bytes maxL ret [] rm as' h Pv Q) (eT : T.heap = h) (hf : rm.frames + 1 ≤ R.frames) (hl : W + (maxL + 11) + rm.locals ≤ R.locals) (hc : cells + rm.cells ≤ R.cells) (hs : slots + rm.slots ≤ R.slots)
    {g : JFrame} (hg : g.method = m) (hsize : g.locals.size = c.maxLocals) {argsL rest : List Value} {ps : List FieldType} {r : Option FieldType} (hpd : parseMethodDescriptor y.desc = some ⟨ps, r⟩) (hlen : argsL.length = ps.length) (hstack : g.stack = argsL.reverse ++ rest) (has : argsL.toArray = as') (hW : 2 * g.monitorRoom + (rest.map fun v => v.category).sum ≤ W)
    (hdg : decode c.code g.pc = .ok (.invokestatic index, 3)) :
    ∃ (v : Option Value) (T' : State) (L : List Loc) (k1 : Nat), Stand p l e R (s.setVm T'.vm) m args below meth c T' (locs ++ L) (cells + rm.cells) (slots + rm.slots) ∧ s.Since T'.vm k1 ∧ k1 ≤ T'.heap.size ∧ Z.Warmed39 T'.vm ∧ T'.vm.findClass own = some m.cls ∧ CHr Z EL vm h T'.vm T'.heap ∧ (s.setVm vm).Warmed39 T'.vm ∧ Q v T'.heap L T'.vm ∧
      ∀ target, Steps p.tables e below (T'.setTop { g with pc := g.pc + 3, stack := v.toList ++ rest }) target → Steps p.tables e below (T.setTop g) target := by
  subst eT
  obtain ⟨v, vm₁, ⟨T', L', k', n'⟩, -, X', hS', hgr, ⟨L, hQ, e1, e2, e3, hR⟩, st⟩ := callSS X hx hown (mvT (s := s.setVm vm) hZ w1) (mvT (s := s.setVm vm) hZ w2) (mvT (s := s.setVm vm) hZ w3) (mvT (s := s.setVm vm) hZ w4) hy (backOfP (s := s) (W := W) hM hZ w4 w3 hf hl hEL H hP) hg hsize (lenOf hpd hlen) hstack hW hdg (fun _ _ => ⟨has, rfl, hc, hs⟩)
  dsimp only [Pt.U, Pt.locs, Pt.cells, Pt.slots] at X' e1 e2 e3 st hQ hS' hgr hR
  subst e1 e2 e3
  exact ⟨v, T', L, _, X', hS.trans hS' (Nat.le_trans hk hgr), Nat.le_refl _, State.Warmed39.trans (t := s.setVm vm) hZ hS'.1, by rw [hS'.1.alike.findClass]; exact hown, hR, hS'.1, hQ, fun t k => st.trans k⟩
/-- ldcCH, and how the tables move on -/
theorem own_ldcW {own text : String} {index : Nat} (X : Stand p l e R (s.setVm vm) m args below meth c T locs cells slots) (hx : p.tables.exec = Jvm.exec) (hZ : Z.Warmed39 vm) (hown : vm.findClass own = some m.cls) (w : (Cond.stringLink own index text).before a0 Z = true) (wS : ∀ a ∈ Bundle.stringAtoms, a.before a0 Z = true)
    (eT : T.heap = h) (hS : s.Since vm k0) (hk : k0 ≤ h.size) (hEL : EW Z a0 EL) (hmem : (own, index) ∈ EL) (H : CHv Z EL vm h)
    {vs : List Value} {z : Int32} (ht : (∀ c ∈ text.toList, c.toNat < 256) ∧ text.toList.map (fun c => Value.int (Jvm.Lit.byteI c.toNat.toUInt16)) = vs) (hz : ¬ z < 0) (hl : z.toNatClampNeg = vs.length)
    {g : JFrame} (hg : g.method = m) (hd : decode c.code g.pc = .ok (.ldc index, 2)) {n : Nat} (hn : 4 * text.toList.length ≤ n) (hbig : n ≤ 536870912) (hc : cells + 2 ≤ R.cells) (hl' : slots + (n + 4) ≤ R.slots) :
    ∃ (a : Addr) (T' : State) (h' : Heap) (k1 : Nat) (b : Addr) (k : ClassId), Stand p l e R (s.setVm T'.vm) m args below meth c T' locs (cells + 2) (slots + (n + 4)) ∧ T'.heap = h' ∧ Ext h h' ∧ s.Since T'.vm k1 ∧ k1 ≤ h'.size ∧ Z.Warmed39 (s.setVm T'.vm).vm ∧ (s.setVm T'.vm).vm.findClass own = some m.cls ∧
      Exa Z h' a "java/lang/String" ∧ Fld Z h' a "java/lang/String" "coder" "B" (.int 0) ∧ Fld Z h' a "java/lang/String" "value" "[B" (.ref b) ∧ Arv Z h' b k .byte z vs (.int 0) ∧ a < h'.size ∧ b < h'.size ∧ CHr Z EL vm h T'.vm h' ∧ Lit (s.setVm T'.vm) own index a ∧ (∀ x, Safe Z EL T'.vm h' x → x ≠ a ∧ x ≠ b) ∧ (s.setVm vm).Warmed39 T'.vm ∧
      ∀ target, Steps p.tables e below (T'.setTop { g with pc := g.pc + 2, stack := .ref a :: g.stack }) target → Steps p.tables e below (T.setTop g) target := by
  have X2 : Stand p l e R ((s.setVm vm).setVm vm) m args below meth c T locs cells slots := X
  obtain ⟨a, T', h', k1, b, k, X', e', E, hS', hk', hZ', hown', A, C, F, V, lt, ltd, CR, Li, sf, st⟩ := ldcCH (s := s.setVm vm) X2 hx hZ hown w wS eT (k0 := 0) ((State.WarmedH.refl (s.setVm vm)).since 0) (Nat.zero_le _) hEL hmem H ht hz hl hg hd hn hbig hc hl'
  exact ⟨a, T', h', _, b, k, X', e', E, hS.trans (⟨hS'.1, hS'.2.mono hk'⟩ : (s.setVm vm).Since T'.vm h'.size) (Nat.le_trans hk E.1), Nat.le_refl _, hZ', hown', A, C, F, V, lt, ltd, CR, Li, sf, hS'.1, st⟩
end PP
end Jvm.OwnKit
namespace Jvm.Pilot.@@N@@
open Jvm Jvm.ClassFile Sem Op Lib Jvm.Free Jvm.Stand Jvm.LawKit Jvm.RoadKit Jvm.OwnKit Bundle Jvm.Pilot.@@N@@.Jvm.D
theorem own_g {Z : State} {a0 : Array Value} (hw : ∀ d ∈ tables_1, d.before a0 Z = true) {d : Jvm.Cond} (i : Nat) (h : tables_1[i]? = some d) : d.before a0 Z = true := hw _ (List.mem_of_getElem? h)
theorem og {p : Program} {e : Env} {below : List Frame} {Qe : Outcome → State → Prop} {T T' : State} {g g' : JFrame} (st : ∀ t, Steps p.tables e below (T'.setTop g') t → Steps p.tables e below (T.setTop g) t) (k : OGo p e below Qe T' g') : OGo p e below Qe T g := OGo.step st k
abbrev DK (b : ByteArray) (i : Nat) (o : Instr) (n : Nat) : Prop := decode b i = .ok (o, n)

theorem own_toInt {n : Nat} (h : n < 2147483648) : (Int32.ofNat n).toInt = (n : Int) := Int32.toInt_ofNat_of_lt h
theorem own_nn {n : Nat} (h : n < 2147483648) : ¬ (Int32.ofNat n) < 0 := by
  rw [Int32.lt_iff_toInt_lt, own_toInt h]; show ¬ (n : Int) < 0; omega
theorem own_cl {n : Nat} (h : n < 2147483648) : (Int32.ofNat n).toNatClampNeg = n := by
  show (Int32.ofNat n).toInt.toNat = n
  rw [own_toInt h]; omega
theorem own_lt {a b : Nat} (ha : a < 2147483648) (hb : b < 2147483648) : Int32.ofNat a < Int32.ofNat b ↔ a < b := by
  rw [Int32.lt_iff_toInt_lt, own_toInt ha, own_toInt hb]; omega
theorem own_shr0 (x : Int32) : x >>> ((0 : Int32) &&& 31) = x := by
  apply Int32.toInt_inj.mp
  have h := c_ishr x 0 0 (by decide)
  rw [h]; simp
theorem own_shl0 (x : Int32) : x <<< ((0 : Int32) &&& 31) = x := by
  have h := c_ishl x 0 0 (by decide)
  have h1 := rng32 x
  have h2 := rng32 (x <<< ((0 : Int32) &&& 31))
  exact Int32.toInt_inj.mp (by omega)
theorem own_range (us : List Value) (d : Value) : ((List.range us.length).map fun i => us.getD (0 + i) d) = us := by
  apply List.ext_getElem
  · simp
  · intro i h1 h2
    simp at h1 h2 ⊢
    simp [h2]
/-- a String at a, its bytes us in the array d -/
def STI (Z : State) (h : Heap) (a d : Addr) (k : ClassId) (us : List Value) : Prop := Exa Z h a "java/lang/String" ∧ Fld Z h a "java/lang/String" "coder" "B" (.int (0 : Int32)) ∧ Fld Z h a "java/lang/String" "value" "[B" (.ref d) ∧ Arv Z h d k .byte (Int32.ofNat us.length) us (.int (0 : Int32))
/-- a StringBuilder at b that holds the bytes bs in the array d of length z -/
def SBI (Z : State) (h : Heap) (b d : Addr) (k : ClassId) (z : Int32) (bs : List Value) : Prop := Exa Z h b "java/lang/StringBuilder" ∧ Fld Z h b "java/lang/AbstractStringBuilder" "value" "[B" (.ref d) ∧ Fld Z h b "java/lang/AbstractStringBuilder" "coder" "B" (.int (0 : Int32)) ∧ Fld Z h b "java/lang/AbstractStringBuilder" "count" "I" (.int (Int32.ofNat bs.length)) ∧ Arv Z h d k .byte z bs (.int (0 : Int32)) ∧ Exa Z h d "[B"
/-- what the named sets say of the JDK's statics -/
def own_SS (Z : State) (zc : Int32) (wf : Value) : Prop := zc ≠ 0 ∧ Sta Z Z.heap "java/lang/String" "COMPACT_STRINGS" "Z" (.int zc) ∧ wf.isRef = true ∧ Sta Z Z.heap "jdk/internal/util/Preconditions" "SIOOBE_FORMATTER" "Ljava/util/function/BiFunction;" wf
theorem own_cp {p : Program} {l : Launch} {e : Env} {R : Room} {s : State} {m : MethodId} {args : Array Value} {below : List Frame} {meth : Method} {c : Code} {T : State} {locs : List Loc} {cells slots : Nat} {Z : State} {a0 : Array Value} {h : Heap} {a b : Addr} {k k' : ClassId}
    (X : Stand p l e R s m args below meth c T locs cells slots) (hx : p.tables.exec = Jvm.exec) (hZ : Z.Warmed39 s.vm) {own : String} {index : Nat} (hown : s.vm.findClass own = some m.cls)
    (w1 : (Jvm.Cond.methodLink own index Jvm.Stand.acN).before a0 Z = true) (w2 : (Jvm.Cond.native Jvm.Stand.acN).before a0 Z = true) (w3 : (Jvm.Cond.static Jvm.Stand.acN).before a0 Z = true) (w4 : (Jvm.Cond.initialized "java/lang/System").before a0 Z = true) (eT : T.heap = h)
    {zs z : Int32} {us bs : List Value} (A : Arv Z h a k .byte zs us (.int (0 : Int32))) (B : Arv Z h b k' .byte z bs (.int (0 : Int32))) (hs1 : us.length ≤ zs.toNatClampNeg) (hs2 : bs.length + us.length ≤ z.toNatClampNeg) (hb : us.length < 2147483648) (hb2 : bs.length < 2147483648)
    {n0 : Nat} (N : Fr n0 locs) (ge : n0 ≤ b) {g : JFrame} (hg : g.method = m) (hsize : g.locals.size = c.maxLocals) {rest : List Value} (hs : g.stack = .int (Int32.ofNat us.length) :: .int (Int32.ofNat bs.length) :: .ref b :: .int (0 : Int32) :: .ref a :: rest) (hd : decode c.code g.pc = .ok (.invokestatic index, 3))
    (hf : 1 ≤ R.frames) {W : Nat} (hW : 2 * g.monitorRoom + (rest.map fun v => v.category).sum ≤ W) (hlo : W + (nativeFrameWords "java/lang/System" "arraycopy" 5 + 11) ≤ R.locals) :
    ∃ T' h' L, Stand p l e R s m args below meth c T' L cells slots ∧ T'.heap = h' ∧ Fr n0 L ∧ Keep h h' [b] ∧ Arv Z h' b k' .byte z (bs ++ us) (.int (0 : Int32)) ∧
      ∀ target, Steps p.tables e below (T'.setTop { g with pc := g.pc + 3, stack := rest }) target → Steps p.tables e below (T.setTop g) target := by
  have c1 := own_cl hb
  have c2 := own_cl hb2
  have c0 : (0 : Int32).toNatClampNeg = 0 := by decide
  have B' : Arv Z h b k' .byte z (bs ++ List.replicate us.length (.int (0 : Int32))) (.int (0 : Int32)) := B.pad (pad_rep _ _ _)
  obtain ⟨T', h', L, X', e', N', K', V', st⟩ := cpA X hx hZ hown w1 w2 w3 w4 eT (sp := 0) (dp := Int32.ofNat bs.length) (nn := Int32.ofNat us.length) (us := us) A B' (Or.inl ⟨rfl, rfl⟩) (by decide) (own_nn hb2) (own_nn hb) (by rw [c1, c0]; omega) (by rw [c1, c2]; exact hs2) (by rw [c1, c0]; exact (own_range us _).symm) (by rw [c1, c2]; simp) N ge hg hsize hs hd hf hW hlo
  refine ⟨T', h', L, X', e', N', K', ?_, st⟩
  rw [c1, c2] at V'
  have e1 : (bs ++ List.replicate us.length (Value.int (0 : Int32))).take bs.length ++ us ++ (bs ++ List.replicate us.length (Value.int (0 : Int32))).drop (bs.length + us.length) = bs ++ us := by
    simp [List.drop_append, List.take_append]
  rw [e1] at V'
  exact V'
theorem own_nar255 (x : Int32) : narrow .char (.int (x &&& 255)) = .int (x &&& 255) := by
  have h := Jvm.Free.XT.narrow_c (x &&& 255)
  rw [i2c_mask] at h
  exact h
theorem own_sub0 (x : Int32) : x - (0 : Int32) = x := by
  have h := c_isub x 0
  have h0 : (0 : Int32).toInt = 0 := rfl
  have h1 := rng32 x
  have h2 := rng32 (x - 0)
  exact Int32.toInt_inj.mp (by omega)
theorem own_addln {bs us : List Value} : Int32.ofNat bs.length + Int32.ofNat us.length = Int32.ofNat (bs ++ us).length := by
  rw [List.length_append, Int32.ofNat_add]
theorem own_clz {z : Int32} (h : ¬ z < 0) : z.toInt = (z.toNatClampNeg : Int) := nat_of h
theorem own_noroom {bs us : List Value} {z : Int32} (h : bs.length + us.length ≤ z.toNatClampNeg) (h0 : ¬ z < 0) : ¬ (0 : Int32) < (Int32.ofNat bs.length + Int32.ofNat us.length) - z := by
  have q := own_clz h0
  have r := rng32 z
  have hl : bs.length + us.length < 2147483648 := by omega
  rw [← Int32.ofNat_add, Int32.lt_iff_toInt_lt]
  have e := own_toInt hl
  have c := c_isub (Int32.ofNat (bs.length + us.length)) z
  have r2 := rng32 (Int32.ofNat (bs.length + us.length) - z)
  show ¬ (0 : Int) < _
  omega
def own_b8 (cs : List Int32) : List Value := cs.map fun x => Value.int x.toInt8.toInt32
def own_ok8 (cs : List Int32) : Prop := ∀ x ∈ cs, ¬ x < 0 ∧ ¬ (255 : Int32) < x
theorem own_b8_len (cs : List Int32) : (own_b8 cs).length = cs.length := by simp [own_b8]
theorem own_inc (i : Nat) : Int32.ofNat i + (1 : Int32) = Int32.ofNat (i + 1) := by rw [Int32.ofNat_add]; rfl
theorem own_i8i8 (x : Int32) : nar .byte x.toInt8.toInt32 = x.toInt8.toInt32 := by
  show x.toInt8.toInt32.toInt8.toInt32 = x.toInt8.toInt32
  rw [Int8.toInt8_toInt32]
theorem own_at {cs : List Int32} {i : Nat} {x d : Int32} (hi : cs[i]? = some x) (hb : i < 2147483648) : (cs.map Value.int).getD (Int32.ofNat i).toNatClampNeg (.int d) = .int x := by
  rw [own_cl hb]; simp [List.getD, hi]
theorem own_set {cs : List Int32} {i : Nat} {x : Int32} (hi : cs[i]? = some x) : (own_b8 (cs.take i) ++ List.replicate 1 (Value.int (0 : Int32))).set i (.int (nar .byte x.toInt8.toInt32)) = own_b8 (cs.take (i + 1)) := by
  obtain ⟨h, rfl⟩ := List.getElem?_eq_some_iff.mp hi
  have hl : (own_b8 (cs.take i)).length = i := by rw [own_b8_len]; simp; omega
  rw [own_i8i8, List.set_append_right _ _ (by omega), hl]
  simp only [Nat.sub_self, List.replicate, List.set_cons_zero]
  rw [List.take_succ_eq_append_getElem h]
  simp only [own_b8, List.map_append, List.map_cons, List.map_nil]
theorem own_cfal (n : Int32) : ((((n - n).toUInt32 >>> ((31 : Int32) &&& 31).toUInt32).toInt32).toInt8.toInt32) = (0 : Int32) := by
  have h : n - n = 0 := by
    have h1 := c_isub n n
    have h2 := rng32 (n - n)
    exact Int32.toInt_inj.mp (by show (n - n).toInt = 0; omega)
  rw [h]; decide
theorem own_one {ca b : Addr} {x1 x3 x4 x5 v : Int32} {s6 : Slot} (h : One s6) : storeLocals #[.val (.ref ca), .val (.int x1), .val (.ref b), .val (.int x3), .val (.int x4), .val (.int x5), s6] 6 (.int v) = some #[.val (.ref ca), .val (.int x1), .val (.ref b), .val (.int x3), .val (.int x4), .val (.int x5), .val (.int v)] := by
  rcases h with rfl | ⟨w, rfl, hw⟩
  · rfl
  · cases w <;> first | rfl | (simp [Value.category] at hw)
def own_cap (z n : Nat) : Nat := if n ≤ z then z else max n (2 * z + 2)
theorem own_cap_ge (z n : Nat) : n ≤ own_cap z n := by unfold own_cap; split <;> omega
theorem own_nen {x d d' : Addr} {n : Nat} (hx : x < n) (hne : x ≠ d) (hd : d' = d ∨ n ≤ d') : x ≠ d' := by
  rcases hd with rfl | h
  · exact hne
  · exact Nat.ne_of_lt (Nat.lt_of_lt_of_le hx h)
theorem own_subn {a b : Nat} (h : b ≤ a) (hb : a < 2147483648) : Int32.ofNat a - Int32.ofNat b = Int32.ofNat (a - b) := by
  have c := c_isub (Int32.ofNat a) (Int32.ofNat b)
  have e1 := own_toInt hb
  have e2 := own_toInt (show b < 2147483648 by omega)
  have e3 := own_toInt (show a - b < 2147483648 by omega)
  have r := rng32 (Int32.ofNat a - Int32.ofNat b)
  exact Int32.toInt_inj.mp (by omega)
theorem own_addn (a b : Nat) : Int32.ofNat a + Int32.ofNat b = Int32.ofNat (a + b) := by rw [Int32.ofNat_add]
theorem own_addk (a : Nat) : Int32.ofNat a + (2 : Int32) = Int32.ofNat (a + 2) := by rw [Int32.ofNat_add]; rfl
theorem own_shl0b : (2 : Int32) <<< ((0 : Int32) &&& 31) = 2 := by decide
theorem own_safeAlt {Z : State} {EL : List (String × Nat)} {vm : Vm} {h : Heap} {d d' : Addr} (S : Safe Z EL vm h d) (hd : d' = d ∨ h.size ≤ d') : Safe Z EL vm h d' := hd.elim (fun e => e ▸ S) Safe.new
theorem own_gelt {n a : Nat} (hn : n < 2147483648) (ha : a < 2147483648) (h : n ≤ a) : ¬ Int32.ofNat a < Int32.ofNat n := fun q => by
  have := (own_lt ha hn).mp q; omega
theorem own_nd {z n : Nat} (hz : z < 2147483648) (hn : n < 2147483648) : ((0 : Int32) < Int32.ofNat n - Int32.ofNat z) ↔ z < n := by
  have c := c_isub (Int32.ofNat n) (Int32.ofNat z)
  have e1 := own_toInt hz
  have e2 := own_toInt hn
  have r := rng32 (Int32.ofNat n - Int32.ofNat z)
  have e0 : (0 : Int32).toInt = 0 := rfl
  rw [Int32.lt_iff_toInt_lt]
  omega
def own_pc (pc0 i : Nat) : Nat := if i ≤ 6 then pc0 + 5 * i else pc0 + 6 * i - 6
def own_il (i : Nat) : Nat := if i ≤ 5 then 1 else 2
def own_ix (i : Nat) : Instr := if i ≤ 5 then .iconst i else .bipush i
def own_dk (code : ByteArray) (pc0 : Nat) (vis : List Instr) (i : Nat) : Bool :=
  decide (decode code (own_pc pc0 i) = .ok (.dup, 1)) && (decide (decode code (own_pc pc0 i + 1) = .ok (own_ix i, own_il i)) && (decide (decode code (own_pc pc0 i + 1 + own_il i) = .ok (vis.getD i .nop, 2)) && decide (decode code (own_pc pc0 i + 1 + own_il i + 2) = .ok (.castore, 1))))
def own_push (Ls : Array Slot) (v : Instr) (x : Int32) : Prop := (∃ z : Int, v = .bipush z ∧ x = (Int8.ofInt z).toInt32) ∨ ∃ k : Nat, v = .iload k ∧ Ls[k]? = some (.val (.int x))
def own_pv (Ls : Array Slot) : List Instr → List Int32 → Prop
  | _, [] => True
  | [], _ :: _ => False
  | v :: vs, x :: xs => own_push Ls v x ∧ own_pv Ls vs xs
theorem own_pvat {Ls : Array Slot} : ∀ {vis : List Instr} {cs : List Int32}, own_pv Ls vis cs → ∀ i x, cs[i]? = some x → own_push Ls (vis.getD i .nop) x
  | _, [], _, i, x, q => by simp at q
  | [], _ :: _, h, _, _, _ => h.elim
  | v :: vs, y :: ys, h, 0, x, q => by simp at q; subst q; exact h.1
  | v :: vs, y :: ys, h, i + 1, x, q => by
    have := own_pvat h.2 i x (by simpa using q)
    simpa using this
theorem own_ici : ∀ i : Nat, i < 128 → Int32.ofInt (i : Int) = Int32.ofNat i := by decide +kernel
theorem own_icb : ∀ i : Nat, i < 128 → (Int8.ofInt (i : Int)).toInt32 = Int32.ofNat i := by decide +kernel
theorem own_setc {cs : List Int32} {i : Nat} {x : Int32} (hi : cs[i]? = some x) (hn : nar .char x = x) : ((cs.take i).map Value.int ++ List.replicate 1 (Value.int (0 : Int32))).set i (.int (nar .char x)) = (cs.take (i + 1)).map Value.int := by
  obtain ⟨h, rfl⟩ := List.getElem?_eq_some_iff.mp hi
  have hl : ((cs.take i).map Value.int).length = i := by simp; omega
  rw [hn, List.set_append_right _ _ (by omega), hl]
  simp only [Nat.sub_self, List.replicate, List.set_cons_zero]
  rw [List.take_succ_eq_append_getElem h]
  simp only [List.map_append, List.map_cons, List.map_nil]
theorem own_frm {a b : Nat} {L : List Loc} (N : Fr b L) (h : a ≤ b) : Fr a L := fun y hy => Nat.le_trans h (N y hy)
theorem own_ok0 : own_ok8 [] := fun _ q => nomatch q
theorem own_okS {x : Int32} {r : List Int32} (h : ¬ x < 0 ∧ ¬ (255 : Int32) < x) (q : own_ok8 r) : own_ok8 (x :: r) := fun z hz => by
  rcases List.mem_cons.mp hz with rfl | hz
  · exact h
  · exact q z hz
theorem own_narc {x : Int32} (h : ¬ x < 0 ∧ ¬ (255 : Int32) < x) : nar .char x = x := by
  obtain ⟨h0, h1⟩ := h
  rw [Int32.lt_iff_toInt_lt] at h0 h1
  have e0 : (0 : Int32).toInt = 0 := rfl
  have e1 : (255 : Int32).toInt = 255 := rfl
  have q := c_i2c x
  have r := rng32 (nar .char x)
  apply Int32.toInt_inj.mp
  show x.toUInt32.toUInt16.toUInt32.toInt32.toInt = x.toInt
  omega
theorem own_cfill {p : Program} {l : Launch} {e : Env} {R : Room} {s : State} {m : MethodId} {args : Array Value} {below : List Frame} {meth : Method} {c : Code} {cells slots : Nat} {Z : State} (hx : p.tables.exec = Jvm.exec) (hZ : Z.Warmed39 s.vm) {cs : List Int32} {vis : List Instr} {b : Addr} {k : ClassId} {Ls : Array Slot} {rest : List Value} {pc0 : Nat} (hn : cs.length ≤ 127) (hok : own_ok8 cs) (hD : ∀ i, i < cs.length → own_dk c.code pc0 vis i = true) (hP : ∀ i x, cs[i]? = some x → own_push Ls (vis.getD i .nop) x) :
    ∀ (r i : Nat) (T : State) (h : Heap) (locs : List Loc), i + r = cs.length → Stand p l e R s m args below meth c T locs cells slots → T.heap = h → Arv Z h b k .char (Int32.ofNat cs.length) ((cs.take i).map Value.int) (.int (0 : Int32)) →
      ∃ (T' : State) (L : List Loc), Stand p l e R s m args below meth c T' (locs ++ L) cells slots ∧ Fr b L ∧ Keep h T'.heap [b] ∧ Arv Z T'.heap b k .char (Int32.ofNat cs.length) (cs.map Value.int) (.int (0 : Int32)) ∧
        ∀ target, Steps p.tables e below (T'.setTop (mkF m (own_pc pc0 cs.length) Ls (.ref b :: rest))) target → Steps p.tables e below (T.setTop (mkF m (own_pc pc0 i) Ls (.ref b :: rest))) target := by
  intro r
  induction r with
  | zero =>
    intro i T h locs hi X eT V
    have hi' : i = cs.length := by omega
    subst hi'
    rw [List.take_length] at V
    exact ⟨T, [], by rw [List.append_nil]; exact X, Fr.nil _, by rw [eT]; exact Keep.refl _ _, by rw [eT]; exact V, fun t q => q⟩
  | succ r ih =>
    intro i T h locs hi X eT V
    have hil : i < cs.length := by omega
    obtain ⟨x, hxi⟩ : ∃ x, cs[i]? = some x := ⟨_, List.getElem?_eq_getElem hil⟩
    have hd := hD i hil
    simp only [own_dk, Bool.and_eq_true, decide_eq_true_eq] at hd
    obtain ⟨d1, d2, d3, d4⟩ := hd
    have V' : Arv Z h b k .char (Int32.ofNat cs.length) ((cs.take i).map Value.int ++ List.replicate 1 (.int (0 : Int32))) (.int (0 : Int32)) := V.pad (pad_rep _ _ 1)
    obtain ⟨T1, h1, X1, e1, W1, V1, st1⟩ := castoreV X hx hZ eT V' (j := Int32.ofNat i) (x := x) ⟨own_nn (by omega), (own_lt (by omega) (by omega)).mpr hil⟩ (by rw [own_cl (by omega)]; simp; omega) (g := mkF m (own_pc pc0 i + 1 + own_il i + 2) Ls (.int x :: .int (Int32.ofNat i) :: .ref b :: .ref b :: rest)) rfl rfl d4
    rw [own_cl (show i < 2147483648 by omega), own_setc hxi (own_narc (hok x (List.mem_of_getElem? hxi)))] at V1
    obtain ⟨T2, L2, X2, N2, K2, V2, st2⟩ := ih (i + 1) T1 h1 _ (by omega) X1 e1 V1
    rw [List.append_assoc] at X2
    refine ⟨T2, _, X2, ?_, (Keep.of_wr W1).trans K2 (fun z hz => Or.inl hz), V2, fun t q => ?_⟩
    · intro y hy
      rcases List.mem_append.mp hy with hy | hy
      · cases List.mem_singleton.mp hy; exact Nat.le_refl _
      · exact N2 y hy
    have hpc : own_pc pc0 (i + 1) = own_pc pc0 i + 1 + own_il i + 2 + 1 := by
      unfold own_pc own_il
      split <;> split <;> (try split) <;> omega
    have q1 := st1 _ (by have z := st2 t q; rw [hpc] at z; exact z)
    refine XS.dup X.here hx rfl d1 rfl rfl ?_
    show Steps p.tables e below (T.setTop (mkF m (own_pc pc0 i + 1) Ls (.ref b :: .ref b :: rest))) t
    have q2 : Steps p.tables e below (T.setTop (mkF m (own_pc pc0 i + 1 + own_il i) Ls (.int (Int32.ofNat i) :: .ref b :: .ref b :: rest))) t := by
      rcases hP i x hxi with ⟨z, ez, rfl⟩ | ⟨kk, ez, hk⟩
      · rw [ez] at d3
        exact XS.bipush X.here hx rfl d3 q1
      · rw [ez] at d3
        exact XS.iload X.here hx rfl d3 hk q1
    by_cases q5 : i ≤ 5
    · have a1 : own_il i = 1 := if_pos q5
      have a2 : own_ix i = .iconst i := if_pos q5
      rw [a1, a2] at d2
      rw [a1] at q2
      refine XS.iconst X.here hx rfl d2 ?_
      rw [own_ici i (by omega)]
      exact q2
    · have a1 : own_il i = 2 := if_neg q5
      have a2 : own_ix i = .bipush i := if_neg q5
      rw [a1, a2] at d2
      rw [a1] at q2
      refine XS.bipush X.here hx rfl d2 ?_
      rw [own_icb i (by omega)]
      exact q2
theorem own_sub1 {n : Nat} (h : 1 ≤ n) : Int32.ofNat n - (1 : Int32) = Int32.ofNat (n - 1) := by
  obtain ⟨k, rfl⟩ : ∃ k, n = k + 1 := ⟨n - 1, by omega⟩
  rw [← own_inc, Nat.add_sub_cancel]
  have c := c_isub (Int32.ofNat k + 1) 1
  have c2 := c_iadd (Int32.ofNat k) 1
  have e1 : (1 : Int32).toInt = 1 := rfl
  have r1 := rng32 (Int32.ofNat k + 1 - 1)
  have r2 := rng32 (Int32.ofNat k)
  exact Int32.toInt_inj.mp (by omega)
theorem own_dec {k : Nat} (h : 1 ≤ k) : Int32.ofNat k + (-1 : Int32) = Int32.ofNat (k - 1) := Jvm.Free.SBG.GetChars.dec1 h
/-- a char below 256 -/
def own_c8 (x : Int32) : Prop := ¬ x < 0 ∧ ¬ (255 : Int32) < x
/-- Java's white space below 256, as the law says it -/
def own_wsb (x : Int32) : Bool := x == 32 || (decide (¬ x < 9) && decide (¬ (13 : Int32) < x)) || (decide (¬ x < 28) && decide (¬ (31 : Int32) < x))
def own_lows : List Int32 := [98, 101, 97, 114, 101, 114]
def own_ups : List Int32 := [66, 69, 65, 82, 69, 82]
abbrev own_cib (i : Nat) (x : Int32) : Prop := x = own_lows.getD i 0 ∨ x = own_ups.getD i 0
theorem own_and255 (x : Int32) : own_c8 (x &&& 255) := by
  have q := c_and x 255 (by decide)
  have e0 : (0 : Int32).toInt = 0 := rfl
  have e1 : (255 : Int32).toInt = 255 := rfl
  unfold own_c8
  rw [Int32.lt_iff_toInt_lt, Int32.lt_iff_toInt_lt]
  omega
theorem own_c8n {x : Int32} (h : own_c8 x) : ∃ n : Nat, n < 256 ∧ x = Int32.ofNat n := by
  obtain ⟨h0, h1⟩ := h
  rw [Int32.lt_iff_toInt_lt] at h0 h1
  have e0 : (0 : Int32).toInt = 0 := rfl
  have e1 : (255 : Int32).toInt = 255 := rfl
  refine ⟨x.toInt.toNat, by omega, Int32.toInt_inj.mp ?_⟩
  rw [own_toInt (by omega)]; omega
theorem own_lo8 {x : Int32} (h : own_c8 x) : (x.toInt8.toInt32 &&& 255) = x := by
  obtain ⟨n, hn, rfl⟩ := own_c8n h
  clear h
  revert n
  decide +kernel
theorem own_raw8 (z : Int64) : ∃ x, (z &&& (255 : Int64)).toInt32.toUInt32.toUInt16.toUInt32.toInt32 = x ∧ own_c8 x ∧ narrow .char (.int x) = .int x := by
  have e : (z &&& (255 : Int64)).toInt32 = z.toInt32 &&& 255 := Int64.toInt32_and z 255
  exact ⟨_, rfl, by rw [e, i2c_mask]; exact own_and255 _, by rw [e, i2c_mask]; exact own_nar255 _⟩
/-- equalsIgnoreCase of a byte and a letter of "Bearer" -/
theorem own_eic : ∀ n : Nat, n < 256 → ∀ i : Nat, i < 6 → (own_cib i (Int32.ofNat n) ↔ ((Int32.ofNat n).toInt8.toInt32 = ([66, 101, 97, 114, 101, 114] : List Int32).getD i 0 ∨ ((Int32.ofNat n).toInt8.toInt32 &&& 223) = (([66, 101, 97, 114, 101, 114] : List Int32).getD i 0 &&& 223))) := by decide +kernel
theorem own_narc8 {x : Int32} (h : own_c8 x) : narrow .char (.int x) = .int x := by
  rw [← own_lo8 h]; exact own_nar255 _
def own_EL : List (String × Nat) := [("com/example/provisa/provisa/server/BearerTokens", 110), ("com/example/provisa/provisa/server/BearerTokensPresentedTokenPinLaw", 9), ("com/example/provisa/provisa/server/BearerTokensPresentedTokenPinLaw", 17), ("java/lang/String", 7), ("java/lang/StringLatin1", 151)]
theorem own_hEL {Z : State} {a0 : Array Value} (hw : ∀ d ∈ tables_1, d.before a0 Z = true) : EW Z a0 own_EL := (EW.cons (own_g hw 62 rfl) (by decide) (EW.cons (own_g hw 10 rfl) (by decide) (EW.cons (own_g hw 99 rfl) (by decide) (EW.cons (own_g hw 57 rfl) (by decide) (EW.cons (own_g hw 176 rfl) (by decide) EW.nil)))))
theorem own_wS {Z : State} {a0 : Array Value} (hw : ∀ d ∈ tables_1, d.before a0 Z = true) : ∀ a ∈ Bundle.stringAtoms, a.before a0 Z = true := fun a ha => by
  simp only [Bundle.stringAtoms, List.mem_cons, List.not_mem_nil, or_false] at ha
  rcases ha with rfl | rfl | rfl | rfl | rfl | rfl | rfl
  · exact (own_g hw 11 rfl)
  · exact (own_g hw 12 rfl)
  · exact (own_g hw 13 rfl)
  · exact (own_g hw 14 rfl)
  · exact (own_g hw 15 rfl)
  · exact (own_g hw 16 rfl)
  · exact (own_g hw 17 rfl)
theorem d42_152_0 : DK jdk_42_method_152_code 0 (.getstatic 38) 3 := by decide +kernel
theorem d42_152_3 : DK jdk_42_method_152_code 3 (.ifCond .eq 10) 3 := by decide +kernel
theorem d42_152_6 : DK jdk_42_method_152_code 6 (.aload_n 0) 1 := by decide +kernel
theorem d42_152_7 : DK jdk_42_method_152_code 7 (.getfield 15) 3 := by decide +kernel
theorem d42_152_10 : DK jdk_42_method_152_code 10 (.goto 4) 3 := by decide +kernel
theorem d42_152_14 : DK jdk_42_method_152_code 14 .ireturn 1 := by decide +kernel
theorem opl_rm_coder : plainFor (⟨"java/lang/String", "coder", "()B"⟩ : MethodName) = true := plainFor_of_name (by first | (simp [plainName, overriddenIn]; done) | decide +kernel)
theorem rm_coder (l : Launch) (Z : State) (a0 : Array Value) (hw : ∀ d ∈ tables_1, d.before a0 Z = true) (ws : List Jvm.Cond) (a : Addr) (zc : Int32) (wf : Value) (n0 : Nat) (h0 : Heap) (SS : own_SS Z zc wf) (O : Old Z n0 h0) (C : Fld Z h0 a "java/lang/String" "coder" "B" (.int (0 : Int32))) :
    Con l Z (⟨"java/lang/String", "coder", "()B"⟩ : MethodName) jdk_42_method_152_code 1 (some .byte) ws ({ frames := 0, cells := 0, slots := 0, locals := 0 } : Room) #[(.ref a)] h0 (fun v h L => v = some (.int (0 : Int32)) ∧ L = [] ∧ h = h0) := by
  refine Con.intro opl_rm_coder ?_
  intro p e s m below meth c s₁ hx hby hml hown hret hlk hZ hnm X0 e0
  obtain ⟨hzc, SC, hwf, SF⟩ := SS
  have Z0 : n0 ≤ h0.size := O.1 ▸ O.2.1
  have N0 := Fr.nil n0
  refine OGo.cast (g' := (mkF m 0 #[.val (.ref a)] [])) (by first | (simp [entryFrame, mkF, argsToLocals, Value.category]; done) | rfl) ?_
  obtain ⟨T1, X1, e1, st1⟩ := getS2 X0 hx hZ hown (host := "") (Or.inl (own_g hw 28 rfl)) Via.refl e0 (SC.ext O.2) (g := (mkF m 0 #[.val (.ref a)] [])) rfl (hb hby d42_152_0)
  refine og st1 ?_
  show OGo p e below _ T1 (mkF m 3 #[.val (.ref a)] [(.int zc)])
  refine og (fun _ k => XS.ifNo X1.here hx rfl (hb hby d42_152_3) rfl ((if0 _ _).trans (feq hzc).1) k) ?_
  refine og (fun _ k => XS.aloadN X1.here hx rfl (hb hby d42_152_6) rfl rfl k) ?_
  obtain ⟨T2, X2, e2, st2⟩ := getF X1 hx hZ hown (host := "") (Or.inl (own_g hw 29 rfl)) Via.refl e1 C (g := (mkF m 7 #[.val (.ref a)] [(.ref a)])) rfl rfl (hb hby d42_152_7)
  refine og st2 ?_
  refine og (fun _ k => XS.goto X2.here hx rfl (pc0 := 10) (pc' := 14) rfl (hb hby d42_152_10) (by decide) (by decide) k) ?_
  show OGo p e below _ T2 (mkF m 14 #[.val (.ref a)] [(.int (0 : Int32))])
  exact OGo.ret X2 hx (t := .byte) hret hlk rfl (Or.inl ⟨rfl, by simp, _, rfl⟩) (hb hby d42_152_14) (by decide) (by decide) ⟨rfl, rfl, e2⟩
theorem d42_54_0 : DK jdk_42_method_54_code 0 (.aload_n 0) 1 := by decide +kernel
theorem d42_54_1 : DK jdk_42_method_54_code 1 (.getfield 9) 3 := by decide +kernel
theorem d42_54_4 : DK jdk_42_method_54_code 4 .arraylength 1 := by decide +kernel
theorem d42_54_5 : DK jdk_42_method_54_code 5 (.aload_n 0) 1 := by decide +kernel
theorem opd_0 : parseMethodDescriptor "()B" = some ⟨[], some .byte⟩ := by decide +kernel
theorem d42_54_6 : DK jdk_42_method_54_code 6 (.invokevirtual 335) 3 := by decide +kernel
theorem d42_54_9 : DK jdk_42_method_54_code 9 .ishr 1 := by decide +kernel
theorem d42_54_10 : DK jdk_42_method_54_code 10 .ireturn 1 := by decide +kernel
theorem opl_rm_length : plainFor (⟨"java/lang/String", "length", "()I"⟩ : MethodName) = true := plainFor_of_name (by first | (simp [plainName, overriddenIn]; done) | decide +kernel)
theorem rm_length (l : Launch) (Z : State) (a0 : Array Value) (hw : ∀ d ∈ tables_1, d.before a0 Z = true) (ws : List Jvm.Cond) (a d : Addr) (k : ClassId) (us : List Value) (zc : Int32) (wf : Value) (n0 : Nat) (h0 : Heap) (SS : own_SS Z zc wf) (O : Old Z n0 h0) (I : STI Z h0 a d k us) :
    Con l Z (⟨"java/lang/String", "length", "()I"⟩ : MethodName) jdk_42_method_54_code 1 (some .int) ws ({ frames := 1, cells := 0, slots := 0, locals := 13 } : Room) #[(.ref a)] h0 (fun v h L => v = some (.int (Int32.ofNat us.length)) ∧ L = [] ∧ h = h0) := by
  refine Con.intro opl_rm_length ?_
  intro p e s m below meth c s₁ hx hby hml hown hret hlk hZ hnm X0 e0
  have SS' := SS
  obtain ⟨hzc, SC, hwf, SF⟩ := SS
  have Z0 : n0 ≤ h0.size := O.1 ▸ O.2.1
  have N0 := Fr.nil n0
  obtain ⟨IE, IC, IF, IV⟩ := I
  refine OGo.cast (g' := (mkF m 0 #[.val (.ref a)] [])) (by first | (simp [entryFrame, mkF, argsToLocals, Value.category]; done) | rfl) ?_
  refine og (fun _ k => XS.aloadN X0.here hx rfl (hb hby d42_54_0) rfl rfl k) ?_
  obtain ⟨T3, X3, e3, st3⟩ := getF X0 hx hZ hown (host := "") (Or.inl (own_g hw 30 rfl)) Via.refl e0 IF (g := (mkF m 1 #[.val (.ref a)] [(.ref a)])) rfl rfl (hb hby d42_54_1)
  refine og st3 ?_
  refine og (fun _ k => alenV X3 hx hZ e3 IV (g := (mkF m 4 #[.val (.ref a)] [(.ref d)])) rfl rfl (hb hby d42_54_4) _ k) ?_
  refine og (fun _ k => XS.aloadN X3.here hx rfl (hb hby d42_54_5) rfl rfl k) ?_
  obtain ⟨v4, T4, L4, X4, hQ4, st4⟩ := vcall X3 hx hZ hown (own_g hw 68 rfl) (own_g hw 69 rfl) (own_g hw 71 rfl) rfl (own_g hw 71 rfl) (own_g hw 70 rfl) (own_g hw 11 rfl) (own_g hw 72 rfl) (by decide) (W := 1) (rm_coder l Z a0 hw [] a zc wf n0 h0 SS' O IC) e3 (by decide) (by decide) (by decide) (by decide) (g := (mkF m 6 #[.val (.ref a)] [(.ref a), (.int (Int32.ofNat us.length))])) rfl (by rw [hml]; rfl) IE (argsL := []) (rest := [(.int (Int32.ofNat us.length))]) opd_0 rfl rfl rfl (by show 2 * 0 + _ ≤ _; exact Nat.le_of_eq rfl) (hb hby d42_54_6)
  obtain ⟨rfl, rfl, e4⟩ := hQ4
  rw [List.append_nil] at X4
  refine og st4 ?_
  refine og (fun _ k => XS.ishr X4.here hx rfl (hb hby d42_54_9) rfl k) ?_
  show OGo p e below _ T4 (mkF m 10 #[.val (.ref a)] [(.int ((Int32.ofNat us.length) >>> ((0 : Int32) &&& 31)))])
  rw [own_shr0]
  show OGo p e below _ T4 (mkF m 10 #[.val (.ref a)] [(.int (Int32.ofNat us.length))])
  exact OGo.ret X4 hx (t := .int) hret hlk rfl (Or.inl ⟨rfl, by simp, _, rfl⟩) (hb hby d42_54_10) (by decide) (by decide) ⟨rfl, rfl, e4⟩
theorem d42_154_0 : DK jdk_42_method_154_code 0 (.getstatic 38) 3 := by decide +kernel
theorem d42_154_3 : DK jdk_42_method_154_code 3 (.ifCond .eq 14) 3 := by decide +kernel
theorem d42_154_6 : DK jdk_42_method_154_code 6 (.aload_n 0) 1 := by decide +kernel
theorem d42_154_7 : DK jdk_42_method_154_code 7 (.getfield 15) 3 := by decide +kernel
theorem d42_154_10 : DK jdk_42_method_154_code 10 (.ifCond .ne 7) 3 := by decide +kernel
theorem d42_154_13 : DK jdk_42_method_154_code 13 (.iconst 1) 1 := by decide +kernel
theorem d42_154_14 : DK jdk_42_method_154_code 14 (.goto 4) 3 := by decide +kernel
theorem d42_154_18 : DK jdk_42_method_154_code 18 .ireturn 1 := by decide +kernel
theorem opl_rm_isLatin1 : plainFor (⟨"java/lang/String", "isLatin1", "()Z"⟩ : MethodName) = true := plainFor_of_name (by first | (simp [plainName, overriddenIn]; done) | decide +kernel)
theorem rm_isLatin1 (l : Launch) (Z : State) (a0 : Array Value) (hw : ∀ d ∈ tables_1, d.before a0 Z = true) (ws : List Jvm.Cond) (a : Addr) (zc : Int32) (wf : Value) (n0 : Nat) (h0 : Heap) (SS : own_SS Z zc wf) (O : Old Z n0 h0) (C : Fld Z h0 a "java/lang/String" "coder" "B" (.int (0 : Int32))) :
    Con l Z (⟨"java/lang/String", "isLatin1", "()Z"⟩ : MethodName) jdk_42_method_154_code 1 (some .boolean) ws ({ frames := 0, cells := 0, slots := 0, locals := 0 } : Room) #[(.ref a)] h0 (fun v h L => v = some (.int (1 : Int32)) ∧ L = [] ∧ h = h0) := by
  refine Con.intro opl_rm_isLatin1 ?_
  intro p e s m below meth c s₁ hx hby hml hown hret hlk hZ hnm X0 e0
  obtain ⟨hzc, SC, hwf, SF⟩ := SS
  have Z0 : n0 ≤ h0.size := O.1 ▸ O.2.1
  have N0 := Fr.nil n0
  refine OGo.cast (g' := (mkF m 0 #[.val (.ref a)] [])) (by first | (simp [entryFrame, mkF, argsToLocals, Value.category]; done) | rfl) ?_
  obtain ⟨T5, X5, e5, st5⟩ := getS2 X0 hx hZ hown (host := "") (Or.inl (own_g hw 28 rfl)) Via.refl e0 (SC.ext O.2) (g := (mkF m 0 #[.val (.ref a)] [])) rfl (hb hby d42_154_0)
  refine og st5 ?_
  show OGo p e below _ T5 (mkF m 3 #[.val (.ref a)] [(.int zc)])
  refine og (fun _ k => XS.ifNo X5.here hx rfl (hb hby d42_154_3) rfl ((if0 _ _).trans (feq hzc).1) k) ?_
  refine og (fun _ k => XS.aloadN X5.here hx rfl (hb hby d42_154_6) rfl rfl k) ?_
  obtain ⟨T6, X6, e6, st6⟩ := getF X5 hx hZ hown (host := "") (Or.inl (own_g hw 29 rfl)) Via.refl e5 C (g := (mkF m 7 #[.val (.ref a)] [(.ref a)])) rfl rfl (hb hby d42_154_7)
  refine og st6 ?_
  show OGo p e below _ T6 (mkF m 10 #[.val (.ref a)] [(.int (0 : Int32))])
  refine og (fun _ k => XS.ifNo X6.here hx rfl (hb hby d42_154_10) rfl ((if0 _ _).trans (teq (rfl : (0 : Int32) = 0)).2) k) ?_
  refine og (fun _ k => XS.iconst X6.here hx rfl (hb hby d42_154_13) k) ?_
  refine og (fun _ k => XS.goto X6.here hx rfl (pc0 := 14) (pc' := 18) rfl (hb hby d42_154_14) (by decide) (by decide) k) ?_
  show OGo p e below _ T6 (mkF m 18 #[.val (.ref a)] [(.int (1 : Int32))])
  exact OGo.ret X6 hx (t := .boolean) hret hlk rfl (Or.inl ⟨rfl, by simp, _, rfl⟩) (hb hby d42_154_18) (by decide) (by decide) ⟨rfl, rfl, e6⟩
theorem d41_11_0 : DK jdk_41_method_11_code 0 (.iload_n 0) 1 := by decide +kernel
theorem d41_11_1 : DK jdk_41_method_11_code 1 (.ifCond .lt 8) 3 := by decide +kernel
theorem d41_11_4 : DK jdk_41_method_11_code 4 (.iload_n 0) 1 := by decide +kernel
theorem d41_11_5 : DK jdk_41_method_11_code 5 (.iload_n 1) 1 := by decide +kernel
theorem d41_11_6 : DK jdk_41_method_11_code 6 (.if_icmp .lt 10) 3 := by decide +kernel
theorem d41_11_16 : DK jdk_41_method_11_code 16 (.iload_n 0) 1 := by decide +kernel
theorem d41_11_17 : DK jdk_41_method_11_code 17 .ireturn 1 := by decide +kernel
theorem opl_rm_pci : plainFor (⟨"jdk/internal/util/Preconditions", "checkIndex", "(IILjava/util/function/BiFunction;)I"⟩ : MethodName) = true := plainFor_of_name (by first | (simp [plainName, overriddenIn]; done) | decide +kernel)
theorem rm_pci (l : Launch) (Z : State) (a0 : Array Value) (hw : ∀ d ∈ tables_1, d.before a0 Z = true) (ws : List Jvm.Cond) (i n : Int32) (wf : Value) (h0 : Heap) (hwf : wf.isRef = true) (hi0 : ¬ i < 0) (hi1 : i < n) :
    Con l Z (⟨"jdk/internal/util/Preconditions", "checkIndex", "(IILjava/util/function/BiFunction;)I"⟩ : MethodName) jdk_41_method_11_code 3 (some .int) ws ({ frames := 0, cells := 0, slots := 0, locals := 0 } : Room) #[(.int i), (.int n), wf] h0 (fun v h L => v = some (.int i) ∧ L = [] ∧ h = h0) := by
  refine Con.intro opl_rm_pci ?_
  intro p e s m below meth c s₁ hx hby hml hown hret hlk hZ hnm X0 e0
  refine OGo.cast (g' := (mkF m 0 #[.val (.int i), .val (.int n), .val wf] [])) (by rcases ref_cases hwf with rfl | ⟨f, rfl⟩ <;> simp [entryFrame, mkF, argsToLocals, Value.category]) ?_
  refine og (fun _ k => XS.iloadN X0.here hx rfl (hb hby d41_11_0) rfl k) ?_
  show OGo p e below _ s₁ (mkF m 1 #[.val (.int i), .val (.int n), .val wf] [(.int i)])
  refine og (fun _ k => XS.ifNo X0.here hx rfl (hb hby d41_11_1) rfl ((if0 _ _).trans (flt hi0).1) k) ?_
  refine og (fun _ k => XS.iloadN X0.here hx rfl (hb hby d41_11_4) rfl k) ?_
  refine og (fun _ k => XS.iloadN X0.here hx rfl (hb hby d41_11_5) rfl k) ?_
  show OGo p e below _ s₁ (mkF m 6 #[.val (.int i), .val (.int n), .val wf] [(.int n), (.int i)])
  refine og (fun _ k => XS.icmpYes X0.here hx rfl (pc0 := 6) (pc' := 16) rfl (hb hby d41_11_6) rfl (tlt hi1).1 (by decide) (by decide) k) ?_
  refine og (fun _ k => XS.iloadN X0.here hx rfl (hb hby d41_11_16) rfl k) ?_
  show OGo p e below _ s₁ (mkF m 17 #[.val (.int i), .val (.int n), .val wf] [(.int i)])
  exact OGo.ret X0 hx (t := .int) hret hlk rfl (Or.inl ⟨rfl, by simp, _, rfl⟩) (hb hby d41_11_17) (by decide) (by decide) ⟨rfl, rfl, e0⟩
theorem d42_155_0 : DK jdk_42_method_155_code 0 (.iload_n 0) 1 := by decide +kernel
theorem d42_155_1 : DK jdk_42_method_155_code 1 (.iload_n 1) 1 := by decide +kernel
theorem d42_155_2 : DK jdk_42_method_155_code 2 (.getstatic 1053) 3 := by decide +kernel
theorem opd_1 : parseMethodDescriptor "(IILjava/util/function/BiFunction;)I" = some ⟨[.int, .int, (.object "java/util/function/BiFunction")], some .int⟩ := by decide +kernel
theorem d42_155_5 : DK jdk_42_method_155_code 5 (.invokestatic 1059) 3 := by decide +kernel
theorem d42_155_8 : DK jdk_42_method_155_code 8 .pop 1 := by decide +kernel
theorem d42_155_9 : DK jdk_42_method_155_code 9 .return_ 1 := by decide +kernel
theorem opl_rm_sci : plainFor (⟨"java/lang/String", "checkIndex", "(II)V"⟩ : MethodName) = true := plainFor_of_name (by first | (simp [plainName, overriddenIn]; done) | decide +kernel)
theorem rm_sci (l : Launch) (Z : State) (a0 : Array Value) (hw : ∀ d ∈ tables_1, d.before a0 Z = true) (ws : List Jvm.Cond) (i n : Int32) (zc : Int32) (wf : Value) (n0 : Nat) (h0 : Heap) (SS : own_SS Z zc wf) (O : Old Z n0 h0) (hi0 : ¬ i < 0) (hi1 : i < n) :
    Con l Z (⟨"java/lang/String", "checkIndex", "(II)V"⟩ : MethodName) jdk_42_method_155_code 2 none ws ({ frames := 1, cells := 0, slots := 0, locals := 14 } : Room) #[(.int i), (.int n)] h0 (fun v h L => v = none ∧ L = [] ∧ h = h0) := by
  refine Con.intro opl_rm_sci ?_
  intro p e s m below meth c s₁ hx hby hml hown hret hlk hZ hnm X0 e0
  obtain ⟨hzc, SC, hwf, SF⟩ := SS
  have Z0 : n0 ≤ h0.size := O.1 ▸ O.2.1
  have N0 := Fr.nil n0
  refine OGo.cast (g' := (mkF m 0 #[.val (.int i), .val (.int n)] [])) (by first | (simp [entryFrame, mkF, argsToLocals, Value.category]; done) | rfl) ?_
  refine og (fun _ k => XS.iloadN X0.here hx rfl (hb hby d42_155_0) rfl k) ?_
  refine og (fun _ k => XS.iloadN X0.here hx rfl (hb hby d42_155_1) rfl k) ?_
  obtain ⟨T7, X7, e7, st7⟩ := getS2 X0 hx hZ hown (host := "") (Or.inl (own_g hw 38 rfl)) Via.refl e0 (SF.ext O.2) (g := (mkF m 2 #[.val (.int i), .val (.int n)] [(.int n), (.int i)])) rfl (hb hby d42_155_2)
  refine og st7 ?_
  obtain ⟨v8, T8, L8, X8, hQ8, st8⟩ := scall X7 hx hZ hown (own_g hw 40 rfl) (own_g hw 41 rfl) (own_g hw 39 rfl) (own_g hw 42 rfl) (by decide) (W := 0) (rm_pci l Z a0 hw [] i n wf h0 hwf hi0 hi1) e7 (by decide) (by decide) (by decide) (by decide) (g := (mkF m 5 #[.val (.int i), .val (.int n)] [wf, (.int n), (.int i)])) rfl (by rw [hml]; rfl) (argsL := [(.int i), (.int n), wf]) (rest := []) opd_1 rfl rfl rfl (by show 2 * 0 + _ ≤ _; exact Nat.le_of_eq rfl) (hb hby d42_155_5)
  obtain ⟨rfl, rfl, e8⟩ := hQ8
  rw [List.append_nil] at X8
  refine og st8 ?_
  refine og (fun _ k => XS.pop X8.here hx rfl (hb hby d42_155_8) rfl rfl k) ?_
  show OGo p e below _ T8 (mkF m 9 #[.val (.int i), .val (.int n)] [])
  exact OGo.retV X8 hx hret hlk (hb hby d42_155_9) (by decide) (by decide) ⟨rfl, rfl, e8⟩
theorem d43_2_0 : DK jdk_43_method_2_code 0 (.iload_n 1) 1 := by decide +kernel
theorem d43_2_1 : DK jdk_43_method_2_code 1 (.aload_n 0) 1 := by decide +kernel
theorem d43_2_2 : DK jdk_43_method_2_code 2 .arraylength 1 := by decide +kernel
theorem opd_2 : parseMethodDescriptor "(II)V" = some ⟨[.int, .int], none⟩ := by decide +kernel
theorem d43_2_3 : DK jdk_43_method_2_code 3 (.invokestatic 9) 3 := by decide +kernel
theorem d43_2_6 : DK jdk_43_method_2_code 6 (.aload_n 0) 1 := by decide +kernel
theorem d43_2_7 : DK jdk_43_method_2_code 7 (.iload_n 1) 1 := by decide +kernel
theorem d43_2_8 : DK jdk_43_method_2_code 8 .baload 1 := by decide +kernel
theorem d43_2_9 : DK jdk_43_method_2_code 9 (.sipush 255) 3 := by decide +kernel
theorem d43_2_12 : DK jdk_43_method_2_code 12 .iand 1 := by decide +kernel
theorem d43_2_13 : DK jdk_43_method_2_code 13 .i2c 1 := by decide +kernel
theorem d43_2_14 : DK jdk_43_method_2_code 14 .ireturn 1 := by decide +kernel
theorem opl_rm_lca : plainFor (⟨"java/lang/StringLatin1", "charAt", "([BI)C"⟩ : MethodName) = true := plainFor_of_name (by first | (simp [plainName, overriddenIn]; done) | decide +kernel)
theorem rm_lca (l : Launch) (Z : State) (a0 : Array Value) (hw : ∀ d ∈ tables_1, d.before a0 Z = true) (ws : List Jvm.Cond) (d : Addr) (k : ClassId) (z i b : Int32) (us : List Value) (zc : Int32) (wf : Value) (n0 : Nat) (h0 : Heap) (SS : own_SS Z zc wf) (O : Old Z n0 h0) (V : Arv Z h0 d k .byte z us (.int (0 : Int32))) (hi0 : ¬ i < 0) (hi1 : i < z) (hat : us.getD i.toNatClampNeg (.int (0 : Int32)) = .int b) :
    Con l Z (⟨"java/lang/StringLatin1", "charAt", "([BI)C"⟩ : MethodName) jdk_43_method_2_code 2 (some .char) ws ({ frames := 2, cells := 0, slots := 0, locals := 27 } : Room) #[(.ref d), (.int i)] h0 (fun v h L => v = some (.int (b &&& 255)) ∧ L = [] ∧ h = h0) := by
  refine Con.intro opl_rm_lca ?_
  intro p e s m below meth c s₁ hx hby hml hown hret hlk hZ hnm X0 e0
  have SS' := SS
  obtain ⟨hzc, SC, hwf, SF⟩ := SS
  have Z0 : n0 ≤ h0.size := O.1 ▸ O.2.1
  have N0 := Fr.nil n0
  refine OGo.cast (g' := (mkF m 0 #[.val (.ref d), .val (.int i)] [])) (by first | (simp [entryFrame, mkF, argsToLocals, Value.category]; done) | rfl) ?_
  refine og (fun _ k => XS.iloadN X0.here hx rfl (hb hby d43_2_0) rfl k) ?_
  refine og (fun _ k => XS.aloadN X0.here hx rfl (hb hby d43_2_1) rfl rfl k) ?_
  refine og (fun _ k => alenV X0 hx hZ e0 V (g := (mkF m 2 #[.val (.ref d), .val (.int i)] [(.ref d), (.int i)])) rfl rfl (hb hby d43_2_2) _ k) ?_
  obtain ⟨v9, T9, L9, X9, hQ9, st9⟩ := scall X0 hx hZ hown (own_g hw 35 rfl) (own_g hw 36 rfl) (own_g hw 11 rfl) (own_g hw 37 rfl) (by decide) (W := 0) (rm_sci l Z a0 hw [] i z zc wf n0 h0 SS' O hi0 hi1) e0 (by decide) (by decide) (by decide) (by decide) (g := (mkF m 3 #[.val (.ref d), .val (.int i)] [(.int z), (.int i)])) rfl (by rw [hml]; rfl) (argsL := [(.int i), (.int z)]) (rest := []) opd_2 rfl rfl rfl (by show 2 * 0 + _ ≤ _; exact Nat.le_of_eq rfl) (hb hby d43_2_3)
  obtain ⟨rfl, rfl, e9⟩ := hQ9
  rw [List.append_nil] at X9
  refine og st9 ?_
  refine og (fun _ k => XS.aloadN X9.here hx rfl (hb hby d43_2_6) rfl rfl k) ?_
  refine og (fun _ k => XS.iloadN X9.here hx rfl (hb hby d43_2_7) rfl k) ?_
  refine og (fun _ k => baloadV X9 hx hZ e9 V ⟨hi0, hi1⟩ hat (g := (mkF m 8 #[.val (.ref d), .val (.int i)] [(.int i), (.ref d)])) rfl rfl (hb hby d43_2_8) _ k) ?_
  refine og (fun _ k => XS.sipush X9.here hx rfl (hb hby d43_2_9) k) ?_
  refine og (fun _ k => XS.iand X9.here hx rfl (hb hby d43_2_12) rfl k) ?_
  refine og (fun _ k => XS.i2c X9.here hx rfl (hb hby d43_2_13) rfl k) ?_
  show OGo p e below _ T9 (mkF m 14 #[.val (.ref d), .val (.int i)] [(.int ((b &&& (255 : Int32)).toUInt32.toUInt16.toUInt32.toInt32))])
  exact OGo.ret X9 hx (t := .char) hret hlk (by rw [i2c_mask]; exact own_nar255 _) (Or.inl ⟨rfl, by simp, _, rfl⟩) (hb hby d43_2_14) (by decide) (by decide) ⟨by rw [i2c_mask], rfl, e9⟩
theorem d42_56_0 : DK jdk_42_method_56_code 0 (.aload_n 0) 1 := by decide +kernel
theorem opd_3 : parseMethodDescriptor "()Z" = some ⟨[], some .boolean⟩ := by decide +kernel
theorem d42_56_1 : DK jdk_42_method_56_code 1 (.invokevirtual 492) 3 := by decide +kernel
theorem d42_56_4 : DK jdk_42_method_56_code 4 (.ifCond .eq 12) 3 := by decide +kernel
theorem d42_56_7 : DK jdk_42_method_56_code 7 (.aload_n 0) 1 := by decide +kernel
theorem d42_56_8 : DK jdk_42_method_56_code 8 (.getfield 9) 3 := by decide +kernel
theorem d42_56_11 : DK jdk_42_method_56_code 11 (.iload_n 1) 1 := by decide +kernel
theorem opd_4 : parseMethodDescriptor "([BI)C" = some ⟨[(.array .byte), .int], some .char⟩ := by decide +kernel
theorem d42_56_12 : DK jdk_42_method_56_code 12 (.invokestatic 495) 3 := by decide +kernel
theorem d42_56_15 : DK jdk_42_method_56_code 15 .ireturn 1 := by decide +kernel
theorem opl_rm_charAt : plainFor (⟨"java/lang/String", "charAt", "(I)C"⟩ : MethodName) = true := plainFor_of_name (by first | (simp [plainName, overriddenIn]; done) | decide +kernel)
theorem rm_charAt (l : Launch) (Z : State) (a0 : Array Value) (hw : ∀ d ∈ tables_1, d.before a0 Z = true) (ws : List Jvm.Cond) (a d : Addr) (k : ClassId) (us : List Value) (i b : Int32) (zc : Int32) (wf : Value) (n0 : Nat) (h0 : Heap) (SS : own_SS Z zc wf) (O : Old Z n0 h0) (I : STI Z h0 a d k us) (hi0 : ¬ i < 0) (hi1 : i < Int32.ofNat us.length) (hat : us.getD i.toNatClampNeg (.int (0 : Int32)) = .int b) :
    Con l Z (⟨"java/lang/String", "charAt", "(I)C"⟩ : MethodName) jdk_42_method_56_code 2 (some .char) ws ({ frames := 3, cells := 0, slots := 0, locals := 40 } : Room) #[(.ref a), (.int i)] h0 (fun v h L => v = some (.int (b &&& 255)) ∧ L = [] ∧ h = h0) := by
  refine Con.intro opl_rm_charAt ?_
  intro p e s m below meth c s₁ hx hby hml hown hret hlk hZ hnm X0 e0
  have SS' := SS
  obtain ⟨hzc, SC, hwf, SF⟩ := SS
  have Z0 : n0 ≤ h0.size := O.1 ▸ O.2.1
  have N0 := Fr.nil n0
  obtain ⟨IE, IC, IF, IV⟩ := I
  refine OGo.cast (g' := (mkF m 0 #[.val (.ref a), .val (.int i)] [])) (by first | (simp [entryFrame, mkF, argsToLocals, Value.category]; done) | rfl) ?_
  refine og (fun _ k => XS.aloadN X0.here hx rfl (hb hby d42_56_0) rfl rfl k) ?_
  obtain ⟨v10, T10, L10, X10, hQ10, st10⟩ := vcall X0 hx hZ hown (own_g hw 23 rfl) (own_g hw 24 rfl) (own_g hw 26 rfl) rfl (own_g hw 26 rfl) (own_g hw 25 rfl) (own_g hw 11 rfl) (own_g hw 27 rfl) (by decide) (W := 0) (rm_isLatin1 l Z a0 hw [] a zc wf n0 h0 SS' O IC) e0 (by decide) (by decide) (by decide) (by decide) (g := (mkF m 1 #[.val (.ref a), .val (.int i)] [(.ref a)])) rfl (by rw [hml]; rfl) IE (argsL := []) (rest := []) opd_3 rfl rfl rfl (by show 2 * 0 + _ ≤ _; exact Nat.le_of_eq rfl) (hb hby d42_56_1)
  obtain ⟨rfl, rfl, e10⟩ := hQ10
  rw [List.append_nil] at X10
  refine og st10 ?_
  show OGo p e below _ T10 (mkF m 4 #[.val (.ref a), .val (.int i)] [(.int (1 : Int32))])
  refine og (fun _ k => XS.ifNo X10.here hx rfl (hb hby d42_56_4) rfl ((if0 _ _).trans (feq (by decide : ¬ (1 : Int32) = 0)).1) k) ?_
  refine og (fun _ k => XS.aloadN X10.here hx rfl (hb hby d42_56_7) rfl rfl k) ?_
  obtain ⟨T11, X11, e11, st11⟩ := getF X10 hx hZ hown (host := "") (Or.inl (own_g hw 30 rfl)) Via.refl e10 IF (g := (mkF m 8 #[.val (.ref a), .val (.int i)] [(.ref a)])) rfl rfl (hb hby d42_56_8)
  refine og st11 ?_
  refine og (fun _ k => XS.iloadN X11.here hx rfl (hb hby d42_56_11) rfl k) ?_
  obtain ⟨v12, T12, L12, X12, hQ12, st12⟩ := scall X11 hx hZ hown (own_g hw 31 rfl) (own_g hw 32 rfl) (own_g hw 33 rfl) (own_g hw 34 rfl) (by decide) (W := 0) (rm_lca l Z a0 hw [] d k (Int32.ofNat us.length) i b us zc wf n0 h0 SS' O IV hi0 hi1 hat) e11 (by decide) (by decide) (by decide) (by decide) (g := (mkF m 12 #[.val (.ref a), .val (.int i)] [(.int i), (.ref d)])) rfl (by rw [hml]; rfl) (argsL := [(.ref d), (.int i)]) (rest := []) opd_4 rfl rfl rfl (by show 2 * 0 + _ ≤ _; exact Nat.le_of_eq rfl) (hb hby d42_56_12)
  obtain ⟨rfl, rfl, e12⟩ := hQ12
  rw [List.append_nil] at X12
  refine og st12 ?_
  show OGo p e below _ T12 (mkF m 15 #[.val (.ref a), .val (.int i)] [(.int (b &&& 255))])
  exact OGo.ret X12 hx (t := .char) hret hlk (own_nar255 _) (Or.inl ⟨rfl, by simp, _, rfl⟩) (hb hby d42_56_15) (by decide) (by decide) ⟨rfl, rfl, e12⟩
theorem d52_21_0 : DK jdk_52_method_21_code 0 (.iconst 0) 1 := by decide +kernel
theorem d52_21_1 : DK jdk_52_method_21_code 1 (.istore 5) 2 := by decide +kernel
theorem d52_21_3 : DK jdk_52_method_21_code 3 (.iload 5) 2 := by decide +kernel
theorem d52_21_5 : DK jdk_52_method_21_code 5 (.iload 4) 2 := by decide +kernel
theorem d52_21_7 : DK jdk_52_method_21_code 7 (.if_icmp .ge 37) 3 := by decide +kernel
theorem d52_21_44 : DK jdk_52_method_21_code 44 (.iload 4) 2 := by decide +kernel
theorem d52_21_46 : DK jdk_52_method_21_code 46 .ireturn 1 := by decide +kernel
theorem d52_21_10 : DK jdk_52_method_21_code 10 (.aload_n 0) 1 := by decide +kernel
theorem d52_21_11 : DK jdk_52_method_21_code 11 (.iload_n 1) 1 := by decide +kernel
theorem d52_21_12 : DK jdk_52_method_21_code 12 .caload 1 := by decide +kernel
theorem d52_21_13 : DK jdk_52_method_21_code 13 (.istore 6) 2 := by decide +kernel
theorem d52_21_15 : DK jdk_52_method_21_code 15 (.iload 6) 2 := by decide +kernel
theorem d52_21_17 : DK jdk_52_method_21_code 17 (.sipush 255) 3 := by decide +kernel
theorem d52_21_20 : DK jdk_52_method_21_code 20 (.if_icmp .le 6) 3 := by decide +kernel
theorem d52_21_26 : DK jdk_52_method_21_code 26 (.aload_n 2) 1 := by decide +kernel
theorem d52_21_27 : DK jdk_52_method_21_code 27 (.iload_n 3) 1 := by decide +kernel
theorem d52_21_28 : DK jdk_52_method_21_code 28 (.iload 6) 2 := by decide +kernel
theorem d52_21_30 : DK jdk_52_method_21_code 30 .i2b 1 := by decide +kernel
theorem d52_21_31 : DK jdk_52_method_21_code 31 .bastore 1 := by decide +kernel
theorem d52_21_32 : DK jdk_52_method_21_code 32 (.iinc 1 1) 3 := by decide +kernel
theorem d52_21_35 : DK jdk_52_method_21_code 35 (.iinc 3 1) 3 := by decide +kernel
theorem d52_21_38 : DK jdk_52_method_21_code 38 (.iinc 5 1) 3 := by decide +kernel
theorem d52_21_41 : DK jdk_52_method_21_code 41 (.goto (-38)) 3 := by decide +kernel
theorem opl_rm_cmp5 : plainFor (⟨"java/lang/StringUTF16", "compress", "([CI[BII)I"⟩ : MethodName) = true := plainFor_of_name (by first | (simp [plainName, overriddenIn]; done) | decide +kernel)
theorem rm_cmp5 (l : Launch) (Z : State) (a0 : Array Value) (hw : ∀ d ∈ tables_1, d.before a0 Z = true) (ws : List Jvm.Cond) (ca b : Addr) (kc kb : ClassId) (cs : List Int32) (zc : Int32) (wf : Value) (n0 : Nat) (h0 : Heap) (SS : own_SS Z zc wf) (O : Old Z n0 h0) (Vc : Arv Z h0 ca kc .char (Int32.ofNat cs.length) (cs.map Value.int) (.int (0 : Int32))) (Vb : Arv Z h0 b kb .byte (Int32.ofNat cs.length) [] (.int (0 : Int32))) (hp : own_ok8 cs) (hbl : cs.length < 2147483648) (nbc : ca ≠ b) (g_b : n0 ≤ b) :
    Con l Z (⟨"java/lang/StringUTF16", "compress", "([CI[BII)I"⟩ : MethodName) jdk_52_method_21_code 7 (some .int) ws ({ frames := 0, cells := 0, slots := 0, locals := 0 } : Room) #[(.ref ca), (.int (0 : Int32)), (.ref b), (.int (0 : Int32)), (.int (Int32.ofNat cs.length))] h0 (fun v h L => v = some (.int (Int32.ofNat cs.length)) ∧ Fr n0 L ∧ Keep h0 h [b] ∧ Arv Z h b kb .byte (Int32.ofNat cs.length) (own_b8 cs) (.int (0 : Int32))) := by
  refine Con.intro opl_rm_cmp5 ?_
  intro p e s m below meth c s₁ hx hby hml hown hret hlk hZ hnm X0 e0
  obtain ⟨hzc, SC, hwf, SF⟩ := SS
  have Z0 : n0 ≤ h0.size := O.1 ▸ O.2.1
  have N0 := Fr.nil n0
  refine OGo.cast (g' := (mkF m 0 #[.val (.ref ca), .val (.int (0 : Int32)), .val (.ref b), .val (.int (0 : Int32)), .val (.int (Int32.ofNat cs.length)), .unset, .unset] [])) (by first | (simp [entryFrame, mkF, argsToLocals, Value.category]; done) | rfl) ?_
  refine og (fun _ k => XS.iconst X0.here hx rfl (hb hby d52_21_0) k) ?_
  refine og (fun _ k => XS.istore X0.here hx rfl (hb hby d52_21_1) rfl (l' := #[.val (.ref ca), .val (.int (0 : Int32)), .val (.ref b), .val (.int (0 : Int32)), .val (.int (Int32.ofNat cs.length)), .val (.int (0 : Int32)), .unset]) rfl k) ?_
  have loop : ∀ (r i : Nat) (T : State) (h : Heap) (locs : List Loc) (s6 : Slot), i + r = cs.length → One s6 → Stand p l e ({ frames := 0, cells := 0, slots := 0, locals := 0 } : Room) s m #[(.ref ca), (.int (0 : Int32)), (.ref b), (.int (0 : Int32)), (.int (Int32.ofNat cs.length))] below meth c T locs 0 0 → T.heap = h → Fr n0 locs → Keep h0 h [b] → Arv Z h ca kc .char (Int32.ofNat cs.length) (cs.map Value.int) (.int (0 : Int32)) → Arv Z h b kb .byte (Int32.ofNat cs.length) (own_b8 (cs.take i)) (.int (0 : Int32)) → OGo p e below (EndQ s ({ frames := 0, cells := 0, slots := 0, locals := 0 } : Room) (fun v h L => v = some (.int (Int32.ofNat cs.length)) ∧ Fr n0 L ∧ Keep h0 h [b] ∧ Arv Z h b kb .byte (Int32.ofNat cs.length) (own_b8 cs) (.int (0 : Int32)))) T (mkF m 3 #[.val (.ref ca), .val (.int (Int32.ofNat i)), .val (.ref b), .val (.int (Int32.ofNat i)), .val (.int (Int32.ofNat cs.length)), .val (.int (Int32.ofNat i)), s6] []) := by
    intro r
    induction r with
    | zero =>
      intro i T h locs s6 hi h6 X eT N K Vc Vb
      have hi' : i = cs.length := by omega
      subst hi'
      rw [List.take_length] at Vb
      refine og (fun _ k => XS.iload X.here hx rfl (hb hby d52_21_3) rfl k) ?_
      refine og (fun _ k => XS.iload X.here hx rfl (hb hby d52_21_5) rfl k) ?_
      show OGo p e below _ T (mkF m 7 #[.val (.ref ca), .val (.int (Int32.ofNat cs.length)), .val (.ref b), .val (.int (Int32.ofNat cs.length)), .val (.int (Int32.ofNat cs.length)), .val (.int (Int32.ofNat cs.length)), s6] [(.int (Int32.ofNat cs.length)), (.int (Int32.ofNat cs.length))])
      refine og (fun _ k => XS.icmpYes X.here hx rfl (pc0 := 7) (pc' := 44) rfl (hb hby d52_21_7) rfl (flt Int32.lt_irrefl).2.1 (by decide) (by decide) k) ?_
      refine og (fun _ k => XS.iload X.here hx rfl (hb hby d52_21_44) rfl k) ?_
      show OGo p e below _ T (mkF m 46 #[.val (.ref ca), .val (.int (Int32.ofNat cs.length)), .val (.ref b), .val (.int (Int32.ofNat cs.length)), .val (.int (Int32.ofNat cs.length)), .val (.int (Int32.ofNat cs.length)), s6] [(.int (Int32.ofNat cs.length))])
      exact OGo.ret X hx (t := .int) hret hlk rfl (Or.inl ⟨rfl, by simp, _, rfl⟩) (hb hby d52_21_46) (by decide) (by decide) (by rw [eT]; exact ⟨rfl, N, K, Vb⟩)
    | succ r ih =>
      intro i T h locs s6 hi h6 X eT N K Vc Vb
      have hil : i < cs.length := by omega
      obtain ⟨x, hxi⟩ : ∃ x, cs[i]? = some x := ⟨_, List.getElem?_eq_getElem hil⟩
      have hx8 := hp x (List.mem_of_getElem? hxi)
      have hlt : Int32.ofNat i < (Int32.ofNat cs.length) := (own_lt (by omega) hbl).mpr hil
      have Vb' : Arv Z h b kb .byte (Int32.ofNat cs.length) (own_b8 (cs.take i) ++ List.replicate 1 (.int (0 : Int32))) (.int (0 : Int32)) := Vb.pad (pad_rep _ _ 1)
      refine og (fun _ k => XS.iload X.here hx rfl (hb hby d52_21_3) rfl k) ?_
      refine og (fun _ k => XS.iload X.here hx rfl (hb hby d52_21_5) rfl k) ?_
      show OGo p e below _ T (mkF m 7 #[.val (.ref ca), .val (.int (Int32.ofNat i)), .val (.ref b), .val (.int (Int32.ofNat i)), .val (.int (Int32.ofNat cs.length)), .val (.int (Int32.ofNat i)), s6] [(.int (Int32.ofNat cs.length)), (.int (Int32.ofNat i))])
      refine og (fun _ k => XS.icmpNo X.here hx rfl (hb hby d52_21_7) rfl (tlt hlt).2.1 k) ?_
      refine og (fun _ k => XS.aloadN X.here hx rfl (hb hby d52_21_10) rfl rfl k) ?_
      refine og (fun _ k => XS.iloadN X.here hx rfl (hb hby d52_21_11) rfl k) ?_
      refine og (fun _ k => caloadV X hx hZ eT Vc ⟨own_nn (by omega), hlt⟩ (own_at hxi (by omega)) (g := (mkF m 12 #[.val (.ref ca), .val (.int (Int32.ofNat i)), .val (.ref b), .val (.int (Int32.ofNat i)), .val (.int (Int32.ofNat cs.length)), .val (.int (Int32.ofNat i)), s6] [(.int (Int32.ofNat i)), (.ref ca)])) rfl rfl (hb hby d52_21_12) _ k) ?_
      refine og (fun _ k => XS.istore X.here hx rfl (hb hby d52_21_13) rfl (own_one h6) k) ?_
      refine og (fun _ k => XS.iload X.here hx rfl (hb hby d52_21_15) rfl k) ?_
      refine og (fun _ k => XS.sipush X.here hx rfl (hb hby d52_21_17) k) ?_
      show OGo p e below _ T (mkF m 20 #[.val (.ref ca), .val (.int (Int32.ofNat i)), .val (.ref b), .val (.int (Int32.ofNat i)), .val (.int (Int32.ofNat cs.length)), .val (.int (Int32.ofNat i)), .val (.int x)] [(.int (255 : Int32)), (.int x)])
      refine og (fun _ k => XS.icmpYes X.here hx rfl (pc0 := 20) (pc' := 26) rfl (hb hby d52_21_20) rfl (flt hx8.2).2.2.2 (by decide) (by decide) k) ?_
      refine og (fun _ k => XS.aloadN X.here hx rfl (hb hby d52_21_26) rfl rfl k) ?_
      refine og (fun _ k => XS.iloadN X.here hx rfl (hb hby d52_21_27) rfl k) ?_
      refine og (fun _ k => XS.iload X.here hx rfl (hb hby d52_21_28) rfl k) ?_
      refine og (fun _ k => XS.i2b X.here hx rfl (hb hby d52_21_30) rfl k) ?_
      obtain ⟨T13, h13, X13, e13, W13, Vq13, st13⟩ := bastoreV X hx hZ eT Vb' (j := (Int32.ofNat i)) ⟨own_nn (by omega), hlt⟩ (by rw [own_cl (by omega), List.length_append, own_b8_len]; simp; omega) (g := (mkF m 31 #[.val (.ref ca), .val (.int (Int32.ofNat i)), .val (.ref b), .val (.int (Int32.ofNat i)), .val (.int (Int32.ofNat cs.length)), .val (.int (Int32.ofNat i)), .val (.int x)] [(.int (x.toInt8.toInt32)), (.int (Int32.ofNat i)), (.ref b)])) rfl rfl (hb hby d52_21_31)
      have N13 := Fr.snoc X13 N g_b
      have KK13 : Keep h0 h13 [b] := K.wr W13 (Or.inl (List.mem_of_getElem? (i := 0) rfl))
      refine og st13 ?_
      rw [own_cl (show i < 2147483648 by omega), own_set hxi] at Vq13
      refine og (fun _ k => XS.iinc X13.here hx rfl (hb hby d52_21_32) rfl (l' := #[.val (.ref ca), .val (.int ((Int32.ofNat i) + (1 : Int32))), .val (.ref b), .val (.int (Int32.ofNat i)), .val (.int (Int32.ofNat cs.length)), .val (.int (Int32.ofNat i)), .val (.int x)]) rfl k) ?_
      refine og (fun _ k => XS.iinc X13.here hx rfl (hb hby d52_21_35) rfl (l' := #[.val (.ref ca), .val (.int ((Int32.ofNat i) + (1 : Int32))), .val (.ref b), .val (.int ((Int32.ofNat i) + (1 : Int32))), .val (.int (Int32.ofNat cs.length)), .val (.int (Int32.ofNat i)), .val (.int x)]) rfl k) ?_
      refine og (fun _ k => XS.iinc X13.here hx rfl (hb hby d52_21_38) rfl (l' := #[.val (.ref ca), .val (.int ((Int32.ofNat i) + (1 : Int32))), .val (.ref b), .val (.int ((Int32.ofNat i) + (1 : Int32))), .val (.int (Int32.ofNat cs.length)), .val (.int ((Int32.ofNat i) + (1 : Int32))), .val (.int x)]) rfl k) ?_
      refine og (fun _ k => XS.goto X13.here hx rfl (pc0 := 41) (pc' := 3) rfl (hb hby d52_21_41) (by decide) (by decide) k) ?_
      show OGo p e below _ T13 (mkF m 3 #[.val (.ref ca), .val (.int ((Int32.ofNat i) + (1 : Int32))), .val (.ref b), .val (.int ((Int32.ofNat i) + (1 : Int32))), .val (.int (Int32.ofNat cs.length)), .val (.int ((Int32.ofNat i) + (1 : Int32))), .val (.int x)] [])
      rw [own_inc]
      exact ih (i + 1) T13 h13 _ _ (by omega) (One.val rfl) X13 e13 N13 KK13 (Vc.other W13 nbc) Vq13
  exact loop cs.length 0 _ _ _ _ (Nat.zero_add _) One.u X0 e0 N0 (Keep.refl _ _) Vc Vb
theorem d52_16_0 : DK jdk_52_method_16_code 0 (.iload_n 2) 1 := by decide +kernel
theorem d52_16_1 : DK jdk_52_method_16_code 1 (.newarray .byte) 2 := by decide +kernel
theorem d52_16_3 : DK jdk_52_method_16_code 3 (.astore_n 3) 1 := by decide +kernel
theorem d52_16_4 : DK jdk_52_method_16_code 4 (.aload_n 0) 1 := by decide +kernel
theorem d52_16_5 : DK jdk_52_method_16_code 5 (.iload_n 1) 1 := by decide +kernel
theorem d52_16_6 : DK jdk_52_method_16_code 6 (.aload_n 3) 1 := by decide +kernel
theorem d52_16_7 : DK jdk_52_method_16_code 7 (.iconst 0) 1 := by decide +kernel
theorem d52_16_8 : DK jdk_52_method_16_code 8 (.iload_n 2) 1 := by decide +kernel
theorem opd_5 : parseMethodDescriptor "([CI[BII)I" = some ⟨[(.array .char), .int, (.array .byte), .int, .int], some .int⟩ := by decide +kernel
theorem d52_16_9 : DK jdk_52_method_16_code 9 (.invokestatic 115) 3 := by decide +kernel
theorem d52_16_12 : DK jdk_52_method_16_code 12 (.istore 4) 2 := by decide +kernel
theorem d52_16_14 : DK jdk_52_method_16_code 14 (.iload 4) 2 := by decide +kernel
theorem d52_16_16 : DK jdk_52_method_16_code 16 (.iload_n 2) 1 := by decide +kernel
theorem d52_16_17 : DK jdk_52_method_16_code 17 (.if_icmp .eq 40) 3 := by decide +kernel
theorem d52_16_57 : DK jdk_52_method_16_code 57 (.aload_n 3) 1 := by decide +kernel
theorem d52_16_58 : DK jdk_52_method_16_code 58 .areturn 1 := by decide +kernel
theorem opl_rm_cmp3 : plainFor (⟨"java/lang/StringUTF16", "compress", "([CII)[B"⟩ : MethodName) = true := plainFor_of_name (by first | (simp [plainName, overriddenIn]; done) | decide +kernel)
theorem rm_cmp3 (l : Launch) (Z : State) (a0 : Array Value) (hw : ∀ d ∈ tables_1, d.before a0 Z = true) (ws : List Jvm.Cond) (ca : Addr) (kc : ClassId) (cs : List Int32) (zc : Int32) (wf : Value) (n0 : Nat) (h0 : Heap) (SS : own_SS Z zc wf) (O : Old Z n0 h0) (Vc : Arv Z h0 ca kc .char (Int32.ofNat cs.length) (cs.map Value.int) (.int (0 : Int32))) (hp : own_ok8 cs) (hbl : cs.length < 2147483648) (hcap : cs.length ≤ 10) :
    Con l Z (⟨"java/lang/StringUTF16", "compress", "([CII)[B"⟩ : MethodName) jdk_52_method_16_code 6 (some (.array .byte)) ws ({ frames := 1, cells := 1, slots := 10, locals := 18 } : Room) #[(.ref ca), (.int (0 : Int32)), (.int (Int32.ofNat cs.length))] h0 (fun v h L => ∃ r k', v = some (.ref r) ∧ h0.size ≤ r ∧ Fr n0 L ∧ Keep h0 h [] ∧ Arv Z h r k' .byte (Int32.ofNat cs.length) (own_b8 cs) (.int (0 : Int32))) := by
  refine Con.intro opl_rm_cmp3 ?_
  intro p e s m below meth c s₁ hx hby hml hown hret hlk hZ hnm X0 e0
  have SS' := SS
  obtain ⟨hzc, SC, hwf, SF⟩ := SS
  have Z0 : n0 ≤ h0.size := O.1 ▸ O.2.1
  have N0 := Fr.nil n0
  refine OGo.cast (g' := (mkF m 0 #[.val (.ref ca), .val (.int (0 : Int32)), .val (.int (Int32.ofNat cs.length)), .unset, .unset, .unset] [])) (by first | (simp [entryFrame, mkF, argsToLocals, Value.category]; done) | rfl) ?_
  refine og (fun _ k => XS.iloadN X0.here hx rfl (hb hby d52_16_0) rfl k) ?_
  obtain ⟨T14, h14, k14, X14, e14, E14, A14, AE14, st14⟩ := newPE X0 hx hZ (own_g hw 13 rfl) e0 (g := (mkF m 1 #[.val (.ref ca), .val (.int (0 : Int32)), .val (.int (Int32.ofNat cs.length)), .unset, .unset, .unset] [(.int (Int32.ofNat cs.length))])) rfl (hb hby d52_16_1) rfl (own_nn hbl) (cap := 10) (by rw [own_cl hbl]; exact hcap) (by decide) (by decide) (by decide) (ad := "[B") (by decide)
  obtain ⟨b14, g14⟩ : ∃ z, z = h0.size := ⟨_, rfl⟩
  rw [← g14] at A14 AE14 st14
  have sz_b14 : h0.size ≤ b14 := Nat.le_trans (Keep.refl h0 []).1 (Nat.le_of_eq g14.symm)
  have KK14 : Keep h0 h14 [] := (Keep.refl h0 []).ext E14
  have V14 : Arv Z h14 b14 k14 .byte (Int32.ofNat cs.length) [] (.int (0 : Int32)) := Arv.new A14 (own_nn hbl)
  refine og st14 ?_
  refine og (fun _ k => XS.astoreN X14.here hx rfl (hb hby d52_16_3) rfl rfl (l' := #[.val (.ref ca), .val (.int (0 : Int32)), .val (.int (Int32.ofNat cs.length)), .val (.ref b14), .unset, .unset]) rfl k) ?_
  refine og (fun _ k => XS.aloadN X14.here hx rfl (hb hby d52_16_4) rfl rfl k) ?_
  refine og (fun _ k => XS.iloadN X14.here hx rfl (hb hby d52_16_5) rfl k) ?_
  refine og (fun _ k => XS.aloadN X14.here hx rfl (hb hby d52_16_6) rfl rfl k) ?_
  refine og (fun _ k => XS.iconst X14.here hx rfl (hb hby d52_16_7) k) ?_
  refine og (fun _ k => XS.iloadN X14.here hx rfl (hb hby d52_16_8) rfl k) ?_
  obtain ⟨v15, T15, L15, X15, hQ15, st15⟩ := scall X14 hx hZ hown (own_g hw 83 rfl) (own_g hw 84 rfl) (own_g hw 81 rfl) (own_g hw 85 rfl) (by decide) (W := 0) (rm_cmp5 l Z a0 hw [] ca b14 kc k14 cs zc wf n0 h14 SS' (O.ext E14) (Vc.ext E14) V14 hp hbl (Nat.ne_of_lt (Nat.lt_of_lt_of_le Vc.lt sz_b14)) (Nat.le_trans Z0 sz_b14)) e14 (by decide) (by decide) (by decide) (by decide) (g := (mkF m 9 #[.val (.ref ca), .val (.int (0 : Int32)), .val (.int (Int32.ofNat cs.length)), .val (.ref b14), .unset, .unset] [(.int (Int32.ofNat cs.length)), (.int (0 : Int32)), (.ref b14), (.int (0 : Int32)), (.ref ca)])) rfl (by rw [hml]; rfl) (argsL := [(.ref ca), (.int (0 : Int32)), (.ref b14), (.int (0 : Int32)), (.int (Int32.ofNat cs.length))]) (rest := []) opd_5 rfl rfl rfl (by show 2 * 0 + _ ≤ _; exact Nat.le_of_eq rfl) (hb hby d52_16_9)
  obtain ⟨rfl, N15, K15, V15⟩ := hQ15
  have NN15 := Fr.app N0 N15
  have KK15 : Keep h0 T15.heap [] := KK14.trans K15 (allS (Or.inr sz_b14) all0)
  refine og st15 ?_
  refine og (fun _ k => XS.istore X15.here hx rfl (hb hby d52_16_12) rfl (l' := #[.val (.ref ca), .val (.int (0 : Int32)), .val (.int (Int32.ofNat cs.length)), .val (.ref b14), .val (.int (Int32.ofNat cs.length)), .unset]) rfl k) ?_
  refine og (fun _ k => XS.iload X15.here hx rfl (hb hby d52_16_14) rfl k) ?_
  refine og (fun _ k => XS.iloadN X15.here hx rfl (hb hby d52_16_16) rfl k) ?_
  show OGo p e below _ T15 (mkF m 17 #[.val (.ref ca), .val (.int (0 : Int32)), .val (.int (Int32.ofNat cs.length)), .val (.ref b14), .val (.int (Int32.ofNat cs.length)), .unset] [(.int (Int32.ofNat cs.length)), (.int (Int32.ofNat cs.length))])
  refine og (fun _ k => XS.icmpYes X15.here hx rfl (pc0 := 17) (pc' := 57) rfl (hb hby d52_16_17) rfl (teq (rfl : (Int32.ofNat cs.length) = (Int32.ofNat cs.length))).1 (by decide) (by decide) k) ?_
  refine og (fun _ k => XS.aloadN X15.here hx rfl (hb hby d52_16_57) rfl rfl k) ?_
  show OGo p e below _ T15 (mkF m 58 #[.val (.ref ca), .val (.int (0 : Int32)), .val (.int (Int32.ofNat cs.length)), .val (.ref b14), .val (.int (Int32.ofNat cs.length)), .unset] [(.ref b14)])
  exact OGo.ret X15 hx (t := (.array .byte)) hret hlk rfl (Or.inr (Or.inr (Or.inr (Or.inr ⟨rfl, rfl, rfl⟩)))) (hb hby d52_16_58) (by decide) (by decide) ⟨b14, _, rfl, sz_b14, NN15, KK15, V15⟩
theorem d52_15_0 : DK jdk_52_method_15_code 0 (.iload_n 1) 1 := by decide +kernel
theorem d52_15_1 : DK jdk_52_method_15_code 1 (.aload_n 0) 1 := by decide +kernel
theorem d52_15_2 : DK jdk_52_method_15_code 2 .arraylength 1 := by decide +kernel
theorem d52_15_3 : DK jdk_52_method_15_code 3 .isub 1 := by decide +kernel
theorem d52_15_4 : DK jdk_52_method_15_code 4 (.bipush 31) 2 := by decide +kernel
theorem d52_15_6 : DK jdk_52_method_15_code 6 .iushr 1 := by decide +kernel
theorem d52_15_7 : DK jdk_52_method_15_code 7 .i2b 1 := by decide +kernel
theorem d52_15_8 : DK jdk_52_method_15_code 8 .ireturn 1 := by decide +kernel
theorem opl_rm_cfal : plainFor (⟨"java/lang/StringUTF16", "coderFromArrayLen", "([BI)B"⟩ : MethodName) = true := plainFor_of_name (by first | (simp [plainName, overriddenIn]; done) | decide +kernel)
theorem rm_cfal (l : Launch) (Z : State) (a0 : Array Value) (hw : ∀ d ∈ tables_1, d.before a0 Z = true) (ws : List Jvm.Cond) (d : Addr) (k : ClassId) (z : Int32) (us : List Value) (h0 : Heap) (V : Arv Z h0 d k .byte z us (.int (0 : Int32))) :
    Con l Z (⟨"java/lang/StringUTF16", "coderFromArrayLen", "([BI)B"⟩ : MethodName) jdk_52_method_15_code 2 (some .byte) ws ({ frames := 0, cells := 0, slots := 0, locals := 0 } : Room) #[(.ref d), (.int z)] h0 (fun v h L => v = some (.int (0 : Int32)) ∧ L = [] ∧ h = h0) := by
  refine Con.intro opl_rm_cfal ?_
  intro p e s m below meth c s₁ hx hby hml hown hret hlk hZ hnm X0 e0
  refine OGo.cast (g' := (mkF m 0 #[.val (.ref d), .val (.int z)] [])) (by first | (simp [entryFrame, mkF, argsToLocals, Value.category]; done) | rfl) ?_
  refine og (fun _ k => XS.iloadN X0.here hx rfl (hb hby d52_15_0) rfl k) ?_
  refine og (fun _ k => XS.aloadN X0.here hx rfl (hb hby d52_15_1) rfl rfl k) ?_
  refine og (fun _ k => alenV X0 hx hZ e0 V (g := (mkF m 2 #[.val (.ref d), .val (.int z)] [(.ref d), (.int z)])) rfl rfl (hb hby d52_15_2) _ k) ?_
  refine og (fun _ k => XS.isub X0.here hx rfl (hb hby d52_15_3) rfl k) ?_
  refine og (fun _ k => XS.bipush X0.here hx rfl (hb hby d52_15_4) k) ?_
  refine og (fun _ k => XS.iushr X0.here hx rfl (hb hby d52_15_6) rfl k) ?_
  refine og (fun _ k => XS.i2b X0.here hx rfl (hb hby d52_15_7) rfl k) ?_
  show OGo p e below _ s₁ (mkF m 8 #[.val (.ref d), .val (.int z)] [(.int ((((z - z).toUInt32 >>> ((31 : Int32) &&& 31).toUInt32).toInt32).toInt8.toInt32))])
  rw [own_cfal]
  show OGo p e below _ s₁ (mkF m 8 #[.val (.ref d), .val (.int z)] [(.int (0 : Int32))])
  exact OGo.ret X0 hx (t := .byte) hret hlk rfl (Or.inl ⟨rfl, by simp, _, rfl⟩) (hb hby d52_15_8) (by decide) (by decide) ⟨rfl, rfl, e0⟩
theorem d42_149_0 : DK jdk_42_method_149_code 0 (.aload_n 0) 1 := by decide +kernel
theorem d42_149_1 : DK jdk_42_method_149_code 1 (.invokespecial 1) 3 := by decide +kernel
theorem d42_149_4 : DK jdk_42_method_149_code 4 (.iload_n 3) 1 := by decide +kernel
theorem d42_149_5 : DK jdk_42_method_149_code 5 (.ifCond .ne 22) 3 := by decide +kernel
theorem d42_149_27 : DK jdk_42_method_149_code 27 (.getstatic 38) 3 := by decide +kernel
theorem d42_149_30 : DK jdk_42_method_149_code 30 (.ifCond .eq 28) 3 := by decide +kernel
theorem d42_149_33 : DK jdk_42_method_149_code 33 (.aload_n 1) 1 := by decide +kernel
theorem d42_149_34 : DK jdk_42_method_149_code 34 (.iload_n 2) 1 := by decide +kernel
theorem d42_149_35 : DK jdk_42_method_149_code 35 (.iload_n 3) 1 := by decide +kernel
theorem opd_6 : parseMethodDescriptor "([CII)[B" = some ⟨[(.array .char), .int, .int], some (.array .byte)⟩ := by decide +kernel
theorem d42_149_36 : DK jdk_42_method_149_code 36 (.invokestatic 177) 3 := by decide +kernel
theorem d42_149_39 : DK jdk_42_method_149_code 39 (.astore 5) 2 := by decide +kernel
theorem d42_149_41 : DK jdk_42_method_149_code 41 (.aload_n 0) 1 := by decide +kernel
theorem d42_149_42 : DK jdk_42_method_149_code 42 (.aload 5) 2 := by decide +kernel
theorem d42_149_44 : DK jdk_42_method_149_code 44 (.iload_n 3) 1 := by decide +kernel
theorem opd_7 : parseMethodDescriptor "([BI)B" = some ⟨[(.array .byte), .int], some .byte⟩ := by decide +kernel
theorem d42_149_45 : DK jdk_42_method_149_code 45 (.invokestatic 47) 3 := by decide +kernel
theorem d42_149_48 : DK jdk_42_method_149_code 48 (.putfield 15) 3 := by decide +kernel
theorem d42_149_51 : DK jdk_42_method_149_code 51 (.aload_n 0) 1 := by decide +kernel
theorem d42_149_52 : DK jdk_42_method_149_code 52 (.aload 5) 2 := by decide +kernel
theorem d42_149_54 : DK jdk_42_method_149_code 54 (.putfield 9) 3 := by decide +kernel
theorem d42_149_57 : DK jdk_42_method_149_code 57 .return_ 1 := by decide +kernel
theorem opl_rm_new4 : plainFor (⟨"java/lang/String", "<init>", "([CIILjava/lang/Void;)V"⟩ : MethodName) = true := plainFor_of_name (by first | (simp [plainName, overriddenIn]; done) | decide +kernel)
theorem rm_new4 (l : Launch) (Z : State) (a0 : Array Value) (hw : ∀ d ∈ tables_1, d.before a0 Z = true) (ws : List Jvm.Cond) (a : Addr) (ca : Addr) (kc : ClassId) (cs : List Int32) (zc : Int32) (wf : Value) (n0 : Nat) (h0 : Heap) (SS : own_SS Z zc wf) (O : Old Z n0 h0) (Vc : Arv Z h0 ca kc .char (Int32.ofNat cs.length) (cs.map Value.int) (.int (0 : Int32))) (hp : own_ok8 cs) (hbl : cs.length < 2147483648) (hcap : cs.length ≤ 10) (E : Exa Z h0 a "java/lang/String") (Fc : Fld Z h0 a "java/lang/String" "coder" "B" (.int (0 : Int32))) (Fv : Fld Z h0 a "java/lang/String" "value" "[B" .null) (g_a : n0 ≤ a) (hne : ¬ (Int32.ofNat cs.length) = 0) (nca : ca ≠ a) :
    Con l Z (⟨"java/lang/String", "<init>", "([CIILjava/lang/Void;)V"⟩ : MethodName) jdk_42_method_149_code 6 none ws ({ frames := 2, cells := 1, slots := 10, locals := 35 } : Room) #[(.ref a), (.ref ca), (.int (0 : Int32)), (.int (Int32.ofNat cs.length)), .null] h0 (fun v h L => v = none ∧ Fr n0 L ∧ Keep h0 h [a] ∧ ∃ r k', h0.size ≤ r ∧ STI Z h a r k' (own_b8 cs)) := by
  refine Con.intro opl_rm_new4 ?_
  intro p e s m below meth c s₁ hx hby hml hown hret hlk hZ hnm X0 e0
  have SS' := SS
  obtain ⟨hzc, SC, hwf, SF⟩ := SS
  have Z0 : n0 ≤ h0.size := O.1 ▸ O.2.1
  have N0 := Fr.nil n0
  refine OGo.cast (g' := (mkF m 0 #[.val (.ref a), .val (.ref ca), .val (.int (0 : Int32)), .val (.int (Int32.ofNat cs.length)), .val .null, .unset] [])) (by first | (simp [entryFrame, mkF, argsToLocals, Value.category]; done) | rfl) ?_
  refine og (fun _ k => XS.aloadN X0.here hx rfl (hb hby d42_149_0) rfl rfl k) ?_
  obtain ⟨T16, X16, e16, st16⟩ := initO X0 hx hZ hown (own_g hw 54 rfl) (own_g hw 55 rfl) (own_g hw 56 rfl) e0 (g := (mkF m 1 #[.val (.ref a), .val (.ref ca), .val (.int (0 : Int32)), .val (.int (Int32.ofNat cs.length)), .val .null, .unset] [(.ref a)])) rfl (by rw [hml]; rfl) rfl (hb hby d42_149_1) (by decide) (W := 0) (by show 2 * 0 + _ ≤ _; exact Nat.le_of_eq rfl) (by decide)
  refine og st16 ?_
  refine og (fun _ k => XS.iloadN X16.here hx rfl (hb hby d42_149_4) rfl k) ?_
  show OGo p e below _ T16 (mkF m 5 #[.val (.ref a), .val (.ref ca), .val (.int (0 : Int32)), .val (.int (Int32.ofNat cs.length)), .val .null, .unset] [(.int (Int32.ofNat cs.length))])
  refine og (fun _ k => XS.ifYes X16.here hx rfl (pc0 := 5) (pc' := 27) rfl (hb hby d42_149_5) rfl ((if0 _ _).trans (feq hne).2) (by decide) (by decide) k) ?_
  obtain ⟨T17, X17, e17, st17⟩ := getS2 X16 hx hZ hown (host := "") (Or.inl (own_g hw 28 rfl)) Via.refl e16 (SC.ext O.2) (g := (mkF m 27 #[.val (.ref a), .val (.ref ca), .val (.int (0 : Int32)), .val (.int (Int32.ofNat cs.length)), .val .null, .unset] [])) rfl (hb hby d42_149_27)
  refine og st17 ?_
  show OGo p e below _ T17 (mkF m 30 #[.val (.ref a), .val (.ref ca), .val (.int (0 : Int32)), .val (.int (Int32.ofNat cs.length)), .val .null, .unset] [(.int zc)])
  refine og (fun _ k => XS.ifNo X17.here hx rfl (hb hby d42_149_30) rfl ((if0 _ _).trans (feq hzc).1) k) ?_
  refine og (fun _ k => XS.aloadN X17.here hx rfl (hb hby d42_149_33) rfl rfl k) ?_
  refine og (fun _ k => XS.iloadN X17.here hx rfl (hb hby d42_149_34) rfl k) ?_
  refine og (fun _ k => XS.iloadN X17.here hx rfl (hb hby d42_149_35) rfl k) ?_
  obtain ⟨v18, T18, L18, X18, hQ18, st18⟩ := scall X17 hx hZ hown (own_g hw 79 rfl) (own_g hw 80 rfl) (own_g hw 81 rfl) (own_g hw 82 rfl) (by decide) (W := 0) (rm_cmp3 l Z a0 hw [] ca kc cs zc wf n0 h0 SS' O Vc hp hbl hcap) e17 (by decide) (by decide) (by decide) (by decide) (g := (mkF m 36 #[.val (.ref a), .val (.ref ca), .val (.int (0 : Int32)), .val (.int (Int32.ofNat cs.length)), .val .null, .unset] [(.int (Int32.ofNat cs.length)), (.int (0 : Int32)), (.ref ca)])) rfl (by rw [hml]; rfl) (argsL := [(.ref ca), (.int (0 : Int32)), (.int (Int32.ofNat cs.length))]) (rest := []) opd_6 rfl rfl rfl (by show 2 * 0 + _ ≤ _; exact Nat.le_of_eq rfl) (hb hby d42_149_36)
  obtain ⟨r18, kr18, rfl, sr18, N18, K18, V18⟩ := hQ18
  have NN18 := Fr.app N0 N18
  have KK18 : Keep h0 T18.heap [a] := (Keep.refl h0 [a]).trans K18 all0
  have sz_r18 : h0.size ≤ r18 := Nat.le_trans (Keep.refl h0 [a]).1 sr18
  refine og st18 ?_
  refine og (fun _ k => XS.astore X18.here hx rfl (hb hby d42_149_39) rfl rfl (l' := #[.val (.ref a), .val (.ref ca), .val (.int (0 : Int32)), .val (.int (Int32.ofNat cs.length)), .val .null, .val (.ref r18)]) rfl k) ?_
  refine og (fun _ k => XS.aloadN X18.here hx rfl (hb hby d42_149_41) rfl rfl k) ?_
  refine og (fun _ k => XS.aload X18.here hx rfl (hb hby d42_149_42) rfl rfl k) ?_
  refine og (fun _ k => XS.iloadN X18.here hx rfl (hb hby d42_149_44) rfl k) ?_
  obtain ⟨v19, T19, L19, X19, hQ19, st19⟩ := scall X18 hx hZ hown (own_g hw 86 rfl) (own_g hw 87 rfl) (own_g hw 81 rfl) (own_g hw 88 rfl) (by decide) (W := 1) (rm_cfal l Z a0 hw [] r18 kr18 (Int32.ofNat cs.length) (own_b8 cs) T18.heap V18) rfl (by decide) (by decide) (by decide) (by decide) (g := (mkF m 45 #[.val (.ref a), .val (.ref ca), .val (.int (0 : Int32)), .val (.int (Int32.ofNat cs.length)), .val .null, .val (.ref r18)] [(.int (Int32.ofNat cs.length)), (.ref r18), (.ref a)])) rfl (by rw [hml]; rfl) (argsL := [(.ref r18), (.int (Int32.ofNat cs.length))]) (rest := [(.ref a)]) opd_7 rfl rfl rfl (by show 2 * 0 + _ ≤ _; exact Nat.le_of_eq rfl) (hb hby d42_149_45)
  obtain ⟨rfl, rfl, e19⟩ := hQ19
  rw [List.append_nil] at X19
  refine og st19 ?_
  obtain ⟨T20, h20, X20, e20, W20, st20⟩ := putFN X19 hx hZ hown (own_g hw 29 rfl) Via.refl e19 (Fc.keep K18 nin0) (E.keep K18) (Or.inr ⟨(own_g hw 15 rfl), rfl, hnm⟩) (own_g hw 12 rfl) (ty := .byte) (v' := (.int (0 : Int32))) (by decide) rfl rfl (g := (mkF m 48 #[.val (.ref a), .val (.ref ca), .val (.int (0 : Int32)), .val (.int (Int32.ofNat cs.length)), .val .null, .val (.ref r18)] [(.int (0 : Int32)), (.ref a)])) rfl rfl (hb hby d42_149_48)
  have Fw20 := (Fc.keep K18 nin0).same W20
  have N20 := Fr.snoc X20 NN18 g_a
  have KK20 : Keep h0 h20 [a] := KK18.wr W20 (Or.inl (List.mem_of_getElem? (i := 0) rfl))
  refine og st20 ?_
  refine og (fun _ k => XS.aloadN X20.here hx rfl (hb hby d42_149_51) rfl rfl k) ?_
  refine og (fun _ k => XS.aload X20.here hx rfl (hb hby d42_149_52) rfl rfl k) ?_
  have q22 := ((Fv.keep K18 nin0).other W20 (Or.inr (slot_ne (Or.inr (own_g hw 14 rfl)) (Or.inr (own_g hw 15 rfl)) (by decide) (t := (.array .byte)) (t' := .byte) (by decide) (by decide))))
  obtain ⟨T21, h21, X21, e21, W21, st21⟩ := putF X20 hx hZ hown (host := "") (Or.inl (own_g hw 30 rfl)) Via.refl e20 q22 ((E.keep K18).wr W20) (Or.inr ⟨(own_g hw 14 rfl), rfl, hnm⟩) (own_g hw 12 rfl) (ty := (.array .byte)) (by decide) rfl rfl (g := (mkF m 54 #[.val (.ref a), .val (.ref ca), .val (.int (0 : Int32)), .val (.int (Int32.ofNat cs.length)), .val .null, .val (.ref r18)] [(.ref r18), (.ref a)])) rfl rfl (hb hby d42_149_54)
  have Fw21 := q22.same W21
  have N21 := Fr.snoc X21 N20 g_a
  have KK21 : Keep h0 h21 [a] := KK20.wr W21 (Or.inl (List.mem_of_getElem? (i := 0) rfl))
  refine og st21 ?_
  have q23 := (Fw20.other W21 (Or.inr (slot_ne (Or.inr (own_g hw 15 rfl)) (Or.inr (own_g hw 14 rfl)) (by decide) (t := .byte) (t' := (.array .byte)) (by decide) (by decide))))
  have ne24 : r18 ≠ a := (Ne.symm (Nat.ne_of_lt (Nat.lt_of_lt_of_le E.lt sz_r18)))
  show OGo p e below _ T21 (mkF m 57 #[.val (.ref a), .val (.ref ca), .val (.int (0 : Int32)), .val (.int (Int32.ofNat cs.length)), .val .null, .val (.ref r18)] [])
  exact OGo.retV X21 hx hret hlk (hb hby d42_149_57) (by decide) (by decide) (by rw [e21]; exact ⟨rfl, N21, KK21, r18, _, sz_r18, ⟨(((E.keep K18).wr W20).wr W21), q23, Fw21, by rw [own_b8_len]; exact ((V18.other W20 ne24).other W21 ne24)⟩⟩)
theorem d42_3_0 : DK jdk_42_method_3_code 0 (.aload_n 0) 1 := by decide +kernel
theorem d42_3_1 : DK jdk_42_method_3_code 1 (.aload_n 1) 1 := by decide +kernel
theorem d42_3_2 : DK jdk_42_method_3_code 2 (.iconst 0) 1 := by decide +kernel
theorem d42_3_3 : DK jdk_42_method_3_code 3 (.aload_n 1) 1 := by decide +kernel
theorem d42_3_4 : DK jdk_42_method_3_code 4 .arraylength 1 := by decide +kernel
theorem d42_3_5 : DK jdk_42_method_3_code 5 .aconst_null 1 := by decide +kernel
theorem opd_8 : parseMethodDescriptor "([CIILjava/lang/Void;)V" = some ⟨[(.array .char), .int, .int, (.object "java/lang/Void")], none⟩ := by decide +kernel
theorem d42_3_6 : DK jdk_42_method_3_code 6 (.invokespecial 27) 3 := by decide +kernel
theorem d42_3_9 : DK jdk_42_method_3_code 9 .return_ 1 := by decide +kernel
theorem opl_rm_new1 : plainFor (⟨"java/lang/String", "<init>", "([C)V"⟩ : MethodName) = true := plainFor_of_name (by first | (simp [plainName, overriddenIn]; done) | decide +kernel)
theorem rm_new1 (l : Launch) (Z : State) (a0 : Array Value) (hw : ∀ d ∈ tables_1, d.before a0 Z = true) (ws : List Jvm.Cond) (a : Addr) (ca : Addr) (kc : ClassId) (cs : List Int32) (zc : Int32) (wf : Value) (n0 : Nat) (h0 : Heap) (SS : own_SS Z zc wf) (O : Old Z n0 h0) (Vc : Arv Z h0 ca kc .char (Int32.ofNat cs.length) (cs.map Value.int) (.int (0 : Int32))) (hp : own_ok8 cs) (hbl : cs.length < 2147483648) (hcap : cs.length ≤ 10) (E : Exa Z h0 a "java/lang/String") (Fc : Fld Z h0 a "java/lang/String" "coder" "B" (.int (0 : Int32))) (Fv : Fld Z h0 a "java/lang/String" "value" "[B" .null) (g_a : n0 ≤ a) (hne : ¬ (Int32.ofNat cs.length) = 0) (nca : ca ≠ a) :
    Con l Z (⟨"java/lang/String", "<init>", "([C)V"⟩ : MethodName) jdk_42_method_3_code 2 none ws ({ frames := 3, cells := 1, slots := 10, locals := 52 } : Room) #[(.ref a), (.ref ca)] h0 (fun v h L => v = none ∧ Fr n0 L ∧ Keep h0 h [a] ∧ ∃ r k', h0.size ≤ r ∧ STI Z h a r k' (own_b8 cs)) := by
  refine Con.intro opl_rm_new1 ?_
  intro p e s m below meth c s₁ hx hby hml hown hret hlk hZ hnm X0 e0
  have SS' := SS
  obtain ⟨hzc, SC, hwf, SF⟩ := SS
  have Z0 : n0 ≤ h0.size := O.1 ▸ O.2.1
  have N0 := Fr.nil n0
  refine OGo.cast (g' := (mkF m 0 #[.val (.ref a), .val (.ref ca)] [])) (by first | (simp [entryFrame, mkF, argsToLocals, Value.category]; done) | rfl) ?_
  refine og (fun _ k => XS.aloadN X0.here hx rfl (hb hby d42_3_0) rfl rfl k) ?_
  refine og (fun _ k => XS.aloadN X0.here hx rfl (hb hby d42_3_1) rfl rfl k) ?_
  refine og (fun _ k => XS.iconst X0.here hx rfl (hb hby d42_3_2) k) ?_
  refine og (fun _ k => XS.aloadN X0.here hx rfl (hb hby d42_3_3) rfl rfl k) ?_
  refine og (fun _ k => alenV X0 hx hZ e0 Vc (g := (mkF m 4 #[.val (.ref a), .val (.ref ca)] [(.ref ca), (.int (0 : Int32)), (.ref ca), (.ref a)])) rfl rfl (hb hby d42_3_4) _ k) ?_
  refine og (fun _ k => XS.aconstNull X0.here hx rfl (hb hby d42_3_5) k) ?_
  obtain ⟨v25, T25, L25, X25, hQ25, st25⟩ := icall X0 hx hZ rfl hown (own_g hw 50 rfl) (own_g hw 51 rfl) (own_g hw 11 rfl) (own_g hw 53 rfl) (by decide) (W := 0) (rm_new4 l Z a0 hw [] a ca kc cs zc wf n0 h0 SS' O Vc hp hbl hcap E Fc Fv g_a hne nca) e0 (by decide) (by decide) (by decide) (by decide) (g := (mkF m 6 #[.val (.ref a), .val (.ref ca)] [.null, (.int (Int32.ofNat cs.length)), (.int (0 : Int32)), (.ref ca), (.ref a)])) rfl (by rw [hml]; rfl) (a := a) (argsL := [(.ref ca), (.int (0 : Int32)), (.int (Int32.ofNat cs.length)), .null]) (rest := []) opd_8 rfl rfl rfl (by show 2 * 0 + _ ≤ _; exact Nat.le_of_eq rfl) (hb hby d42_3_6)
  obtain ⟨rfl, N25, K25, r25, kr25, sr25, I25⟩ := hQ25
  have NN25 := Fr.app N0 N25
  have KK25 : Keep h0 T25.heap [a] := (Keep.refl h0 [a]).trans K25 (allS (Or.inl (List.mem_of_getElem? (i := 0) rfl)) all0)
  refine og st25 ?_
  show OGo p e below _ T25 (mkF m 9 #[.val (.ref a), .val (.ref ca)] [])
  exact OGo.retV X25 hx hret hlk (hb hby d42_3_9) (by decide) (by decide) ⟨rfl, NN25, KK25, r25, _, sr25, I25⟩
theorem d42_149_8 : DK jdk_42_method_149_code 8 (.aload_n 0) 1 := by decide +kernel
theorem d42_149_9 : DK jdk_42_method_149_code 9 (.ldc 7) 2 := by decide +kernel
theorem d42_149_11 : DK jdk_42_method_149_code 11 (.getfield 9) 3 := by decide +kernel
theorem d42_149_14 : DK jdk_42_method_149_code 14 (.putfield 9) 3 := by decide +kernel
theorem d42_149_17 : DK jdk_42_method_149_code 17 (.aload_n 0) 1 := by decide +kernel
theorem d42_149_18 : DK jdk_42_method_149_code 18 (.ldc 7) 2 := by decide +kernel
theorem d42_149_20 : DK jdk_42_method_149_code 20 (.getfield 15) 3 := by decide +kernel
theorem d42_149_23 : DK jdk_42_method_149_code 23 (.putfield 15) 3 := by decide +kernel
theorem d42_149_26 : DK jdk_42_method_149_code 26 .return_ 1 := by decide +kernel
theorem opl_rm_new4e : plainFor (⟨"java/lang/String", "<init>", "([CIILjava/lang/Void;)V"⟩ : MethodName) = true := plainFor_of_name (by first | (simp [plainName, overriddenIn]; done) | decide +kernel)
theorem rm_new4e (l : Launch) (Z : State) (a0 : Array Value) (hw : ∀ d ∈ tables_1, d.before a0 Z = true) (ws : List Jvm.Cond) (a ca : Addr) (zc : Int32) (wf : Value) (n0 : Nat) (h0 : Heap) (SS : own_SS Z zc wf) (O : Old Z n0 h0) (E : Exa Z h0 a "java/lang/String") (Fc : Fld Z h0 a "java/lang/String" "coder" "B" (.int (0 : Int32))) (Fv : Fld Z h0 a "java/lang/String" "value" "[B" .null) (g_a : n0 ≤ a) :
    ConH l Z own_EL (⟨"java/lang/String", "<init>", "([CIILjava/lang/Void;)V"⟩ : MethodName) jdk_42_method_149_code 6 none ws ({ frames := 1, cells := 4, slots := 8, locals := 12 } : Room) #[(.ref a), (.ref ca), (.int (0 : Int32)), (.int (0 : Int32)), .null] h0 (fun v h L => v = none ∧ Fr n0 L ∧ Keep h0 h [a] ∧ ∃ r k', STI Z h a r k' []) := by
  refine ConH.intro opl_rm_new4e ?_
  intro p e s m below meth c s₁ hx hby hml hown hret hlk hZ hnm X0 e0 hs0 hS0 H0 R0
  obtain ⟨hzc, SC, hwf, SF⟩ := SS
  have Z0 : n0 ≤ h0.size := O.1 ▸ O.2.1
  have N0 := Fr.nil n0
  refine OGo.cast (g' := (mkF m 0 #[.val (.ref a), .val (.ref ca), .val (.int (0 : Int32)), .val (.int (0 : Int32)), .val .null, .unset] [])) (by first | (simp [entryFrame, mkF, argsToLocals, Value.category]; done) | rfl) ?_
  refine og (fun _ k => XS.aloadN X0.here hx rfl (hb hby d42_149_0) rfl rfl k) ?_
  obtain ⟨T26, X26, e26, st26⟩ := initO X0 hx hZ hown (own_g hw 54 rfl) (own_g hw 55 rfl) (own_g hw 56 rfl) e0 (g := (mkF m 1 #[.val (.ref a), .val (.ref ca), .val (.int (0 : Int32)), .val (.int (0 : Int32)), .val .null, .unset] [(.ref a)])) rfl (by rw [hml]; rfl) rfl (hb hby d42_149_1) (by decide) (W := 0) (by show 2 * 0 + _ ≤ _; exact Nat.le_of_eq rfl) (by decide)
  refine og st26 ?_
  refine og (fun _ k => XS.iloadN X26.here hx rfl (hb hby d42_149_4) rfl k) ?_
  show OGo p e below _ T26 (mkF m 5 #[.val (.ref a), .val (.ref ca), .val (.int (0 : Int32)), .val (.int (0 : Int32)), .val .null, .unset] [(.int (0 : Int32))])
  refine og (fun _ k => XS.ifNo X26.here hx rfl (hb hby d42_149_5) rfl ((if0 _ _).trans (teq (rfl : (0 : Int32) = 0)).2) k) ?_
  refine og (fun _ k => XS.aloadN X26.here hx rfl (hb hby d42_149_8) rfl rfl k) ?_
  obtain ⟨a27, T27, h27, kk27, d27, kd27, X27, e27, E27, hS27, hk27, hZ27, hown27, A27, C27, F27, V27, lt27, ltd27, CR27, Li27, sf27, st27⟩ := ldcCH X26 hx hZ hown (own_g hw 57 rfl) (own_wS hw) e26 hS0 (Nat.zero_le _) (own_hEL hw) (List.mem_of_getElem? (i := 3) rfl) H0 (vs := []) (z := (0 : Int32)) (by decide) (by decide) (by decide) (g := (mkF m 9 #[.val (.ref a), .val (.ref ca), .val (.int (0 : Int32)), .val (.int (0 : Int32)), .val .null, .unset] [(.ref a)])) rfl (hb hby d42_149_9) (n := 0) (by decide) (by decide) (by decide) (by decide)
  have KK27 : Keep h0 h27 [a] := (Keep.refl h0 [a]).ext E27
  have H27 := CR27.1
  have R27 := CHr.trans R0 CR27
  refine og st27 ?_
  obtain ⟨T28, X28, e28, st28⟩ := getF X27 hx hZ27 hown27 (host := "") (Or.inl (own_g hw 30 rfl)) Via.refl e27 F27 (g := (mkF m 11 #[.val (.ref a), .val (.ref ca), .val (.int (0 : Int32)), .val (.int (0 : Int32)), .val .null, .unset] [(.ref a27), (.ref a)])) rfl rfl (hb hby d42_149_11)
  refine og st28 ?_
  obtain ⟨T29, h29, X29, e29, W29, st29⟩ := putF X28 hx hZ27 hown27 (host := "") (Or.inl (own_g hw 30 rfl)) Via.refl e28 (Fv.ext E27) (E.ext E27) (Or.inr ⟨(own_g hw 14 rfl), rfl, hnm⟩) (own_g hw 12 rfl) (ty := (.array .byte)) (by decide) rfl rfl (g := (mkF m 14 #[.val (.ref a), .val (.ref ca), .val (.int (0 : Int32)), .val (.int (0 : Int32)), .val .null, .unset] [(.ref d27), (.ref a)])) rfl rfl (hb hby d42_149_14)
  have Fw29 := (Fv.ext E27).same W29
  have q30 := (CHr.safe CR27 E.lt (own_safeNull hZ.alike E Fv))
  have N29 := Fr.snoc X29 N0 g_a
  have KK29 : Keep h0 h29 [a] := KK27.wr W29 (Or.inl (List.mem_of_getElem? (i := 0) rfl))
  have H29 := CHv.wr W29 q30 H27
  have R29 := CHr.trans R27 (CHr.wr W29 q30 H27)
  refine og st29 ?_
  refine og (fun _ k => XS.aloadN X29.here hx rfl (hb hby d42_149_17) rfl rfl k) ?_
  obtain ⟨a31, T31, h31, kk31, d31, kd31, X31, e31, E31, hS31, hk31, hZ31, hown31, A31, C31, F31, V31, lt31, ltd31, CR31, Li31, sf31, st31⟩ := ldcCH X29 hx hZ27 hown27 (own_g hw 57 rfl) (own_wS hw) e29 hS27 (Nat.le_trans hk27 (Nat.le_of_eq W29.size.symm)) (own_hEL hw) (List.mem_of_getElem? (i := 3) rfl) H29 (vs := []) (z := (0 : Int32)) (by decide) (by decide) (by decide) (g := (mkF m 18 #[.val (.ref a), .val (.ref ca), .val (.int (0 : Int32)), .val (.int (0 : Int32)), .val .null, .unset] [(.ref a)])) rfl (hb hby d42_149_18) (n := 0) (by decide) (by decide) (by decide) (by decide)
  have KK31 : Keep h0 h31 [a] := KK29.ext E31
  have H31 := CR31.1
  have R31 := CHr.trans R29 CR31
  refine og st31 ?_
  obtain ⟨T32, X32, e32, st32⟩ := getF X31 hx hZ31 hown31 (host := "") (Or.inl (own_g hw 29 rfl)) Via.refl e31 C31 (g := (mkF m 20 #[.val (.ref a), .val (.ref ca), .val (.int (0 : Int32)), .val (.int (0 : Int32)), .val .null, .unset] [(.ref a31), (.ref a)])) rfl rfl (hb hby d42_149_20)
  refine og st32 ?_
  have q34 := (((Fc.ext E27).other W29 (Or.inr (slot_ne (Or.inr (own_g hw 15 rfl)) (Or.inr (own_g hw 14 rfl)) (by decide) (t := .byte) (t' := (.array .byte)) (by decide) (by decide)))).ext E31)
  obtain ⟨T33, h33, X33, e33, W33, st33⟩ := putFN X32 hx hZ31 hown31 (own_g hw 29 rfl) Via.refl e32 q34 (((E.ext E27).wr W29).ext E31) (Or.inr ⟨(own_g hw 15 rfl), rfl, hnm⟩) (own_g hw 12 rfl) (ty := .byte) (v' := (.int (0 : Int32))) (by decide) rfl rfl (g := (mkF m 23 #[.val (.ref a), .val (.ref ca), .val (.int (0 : Int32)), .val (.int (0 : Int32)), .val .null, .unset] [(.int (0 : Int32)), (.ref a)])) rfl rfl (hb hby d42_149_23)
  have Fw33 := q34.same W33
  have q35 := (CHr.safe CR31 ((E.ext E27).wr W29).lt (Safe.wr W29 q30 H27 q30))
  have N33 := Fr.snoc X33 N29 g_a
  have KK33 : Keep h0 h33 [a] := KK31.wr W33 (Or.inl (List.mem_of_getElem? (i := 0) rfl))
  have H33 := CHv.wr W33 q35 H31
  have R33 := CHr.trans R31 (CHr.wr W33 q35 H31)
  refine og st33 ?_
  have q36 := ((Fw29.ext E31).other W33 (Or.inr (slot_ne (Or.inr (own_g hw 14 rfl)) (Or.inr (own_g hw 15 rfl)) (by decide) (t := (.array .byte)) (t' := .byte) (by decide) (by decide))))
  have q37 := (((V27.other W29 (Ne.symm (sf27 _ q30).2)).ext E31).other W33 (Ne.symm (sf27 _ q30).2))
  show OGo p e below _ T33 (mkF m 26 #[.val (.ref a), .val (.ref ca), .val (.int (0 : Int32)), .val (.int (0 : Int32)), .val .null, .unset] [])
  exact OGo.retHV X33 hx hZ31 (own_hEL hw) hs0 e33 hS31 (Nat.le_trans hk31 (Nat.le_of_eq W33.size.symm)) H33 R33 hret hlk (hb hby d42_149_26) (by decide) (by decide) ⟨rfl, N33, KK33, d27, _, ⟨((((E.ext E27).wr W29).ext E31).wr W33), Fw33, q36, q37⟩⟩
theorem opl_rm_new1e : plainFor (⟨"java/lang/String", "<init>", "([C)V"⟩ : MethodName) = true := plainFor_of_name (by first | (simp [plainName, overriddenIn]; done) | decide +kernel)
theorem rm_new1e (l : Launch) (Z : State) (a0 : Array Value) (hw : ∀ d ∈ tables_1, d.before a0 Z = true) (ws : List Jvm.Cond) (a ca : Addr) (kc : ClassId) (vs : List Value) (zc : Int32) (wf : Value) (n0 : Nat) (h0 : Heap) (SS : own_SS Z zc wf) (O : Old Z n0 h0) (E : Exa Z h0 a "java/lang/String") (Fc : Fld Z h0 a "java/lang/String" "coder" "B" (.int (0 : Int32))) (Fv : Fld Z h0 a "java/lang/String" "value" "[B" .null) (g_a : n0 ≤ a) (Vc : Arv Z h0 ca kc .char (0 : Int32) vs (.int (0 : Int32))) :
    ConH l Z own_EL (⟨"java/lang/String", "<init>", "([C)V"⟩ : MethodName) jdk_42_method_3_code 2 none ws ({ frames := 2, cells := 4, slots := 8, locals := 29 } : Room) #[(.ref a), (.ref ca)] h0 (fun v h L => v = none ∧ Fr n0 L ∧ Keep h0 h [a] ∧ ∃ r k', STI Z h a r k' []) := by
  refine ConH.intro opl_rm_new1e ?_
  intro p e s m below meth c s₁ hx hby hml hown hret hlk hZ hnm X0 e0 hs0 hS0 H0 R0
  have SS' := SS
  obtain ⟨hzc, SC, hwf, SF⟩ := SS
  have Z0 : n0 ≤ h0.size := O.1 ▸ O.2.1
  have N0 := Fr.nil n0
  refine OGo.cast (g' := (mkF m 0 #[.val (.ref a), .val (.ref ca)] [])) (by first | (simp [entryFrame, mkF, argsToLocals, Value.category]; done) | rfl) ?_
  refine og (fun _ k => XS.aloadN X0.here hx rfl (hb hby d42_3_0) rfl rfl k) ?_
  refine og (fun _ k => XS.aloadN X0.here hx rfl (hb hby d42_3_1) rfl rfl k) ?_
  refine og (fun _ k => XS.iconst X0.here hx rfl (hb hby d42_3_2) k) ?_
  refine og (fun _ k => XS.aloadN X0.here hx rfl (hb hby d42_3_3) rfl rfl k) ?_
  refine og (fun _ k => alenV X0 hx hZ e0 Vc (g := (mkF m 4 #[.val (.ref a), .val (.ref ca)] [(.ref ca), (.int (0 : Int32)), (.ref ca), (.ref a)])) rfl rfl (hb hby d42_3_4) _ k) ?_
  refine og (fun _ k => XS.aconstNull X0.here hx rfl (hb hby d42_3_5) k) ?_
  obtain ⟨v38, T38, L38, kk38, X38, hS38, hk38, hZ38, hown38, CR38, hQ38, st38⟩ := icallH X0 hx hZ rfl hown (own_hEL hw) hS0 (Nat.zero_le _) H0 (own_g hw 50 rfl) (own_g hw 51 rfl) (own_g hw 11 rfl) (own_g hw 53 rfl) (by decide) (W := 0) (rm_new4e l Z a0 hw [] a ca zc wf n0 h0 SS' O E Fc Fv g_a) e0 (by decide) (by decide) (by decide) (by decide) (g := (mkF m 6 #[.val (.ref a), .val (.ref ca)] [.null, (.int (0 : Int32)), (.int (0 : Int32)), (.ref ca), (.ref a)])) rfl (by rw [hml]; rfl) (a := a) (argsL := [(.ref ca), (.int (0 : Int32)), (.int (0 : Int32)), .null]) (rest := []) opd_8 rfl rfl rfl (by show 2 * 0 + _ ≤ _; exact Nat.le_of_eq rfl) (hb hby d42_3_6)
  obtain ⟨rfl, N38, K38, r38, kr38, I38⟩ := hQ38
  have NN38 := Fr.app N0 N38
  have KK38 : Keep h0 T38.heap [a] := (Keep.refl h0 [a]).trans K38 (allS (Or.inl (List.mem_of_getElem? (i := 0) rfl)) all0)
  have H38 := CR38.1
  have R38 := CHr.trans R0 CR38
  refine og st38 ?_
  show OGo p e below _ T38 (mkF m 9 #[.val (.ref a), .val (.ref ca)] [])
  exact OGo.retHV X38 hx hZ38 (own_hEL hw) hs0 rfl hS38 hk38 H38 R38 hret hlk (hb hby d42_3_9) (by decide) (by decide) ⟨rfl, NN38, KK38, r38, _, I38⟩
def own_l7 : List Value := []
theorem own_n7 : own_l7.length = 0 := rfl
def own_l9 : List Value := [(.int (98 : Int32)), (.int (101 : Int32)), (.int (97 : Int32)), (.int (114 : Int32)), (.int (101 : Int32)), (.int (114 : Int32))]
theorem own_n9 : own_l9.length = 6 := rfl
def own_l17 : List Value := [(.int (66 : Int32)), (.int (69 : Int32)), (.int (65 : Int32)), (.int (82 : Int32)), (.int (69 : Int32)), (.int (82 : Int32))]
theorem own_n17 : own_l17.length = 6 := rfl
def own_l110 : List Value := [(.int (66 : Int32)), (.int (101 : Int32)), (.int (97 : Int32)), (.int (114 : Int32)), (.int (101 : Int32)), (.int (114 : Int32))]
theorem own_n110 : own_l110.length = 6 := rfl
def own_l151 : List Value := []
theorem own_n151 : own_l151.length = 0 := rfl
theorem own_at9 {i : Nat} (h : i < 6) : own_l9.getD i (.int (0 : Int32)) = .int (own_lows.getD i 0) := by rcases (by omega : i = 0 ∨ i = 1 ∨ i = 2 ∨ i = 3 ∨ i = 4 ∨ i = 5) with rfl | rfl | rfl | rfl | rfl | rfl <;> rfl
theorem own_at17 {i : Nat} (h : i < 6) : own_l17.getD i (.int (0 : Int32)) = .int (own_ups.getD i 0) := by rcases (by omega : i = 0 ∨ i = 1 ∨ i = 2 ∨ i = 3 ∨ i = 4 ∨ i = 5) with rfl | rfl | rfl | rfl | rfl | rfl <;> rfl
theorem own_m9 {i : Nat} (h : i < 6) : (own_lows.getD i 0 &&& 255) = own_lows.getD i 0 := by rcases (by omega : i = 0 ∨ i = 1 ∨ i = 2 ∨ i = 3 ∨ i = 4 ∨ i = 5) with rfl | rfl | rfl | rfl | rfl | rfl <;> decide
theorem own_m17 {i : Nat} (h : i < 6) : (own_ups.getD i 0 &&& 255) = own_ups.getD i 0 := by rcases (by omega : i = 0 ∨ i = 1 ∨ i = 2 ∨ i = 3 ∨ i = 4 ∨ i = 5) with rfl | rfl | rfl | rfl | rfl | rfl <;> decide
def own_bea : List Int32 := [66, 101, 97, 114, 101, 114]
theorem own_land (r : Int32) : ∃ j : Nat, j < 8 ∧ (r &&& 7) = Int32.ofNat j := by
  have q := c_and r 7 (by decide)
  have e1 : (7 : Int32).toInt = 7 := rfl
  refine ⟨(r &&& 7).toInt.toNat, by omega, Int32.toInt_inj.mp ?_⟩
  rw [own_toInt (by omega)]; omega
theorem d_method_2_0 : DK method_2_code 0 (.lload_n 0) 1 := by decide +kernel
theorem d_method_2_1 : DK method_2_code 1 (.bipush 8) 2 := by decide +kernel
theorem d_method_2_3 : DK method_2_code 3 (.iload_n 2) 1 := by decide +kernel
theorem d_method_2_4 : DK method_2_code 4 .imul 1 := by decide +kernel
theorem d_method_2_5 : DK method_2_code 5 .lushr 1 := by decide +kernel
theorem d_method_2_6 : DK method_2_code 6 (.ldc2_w 7) 3 := by decide +kernel
theorem d_method_2_9 : DK method_2_code 9 .land 1 := by decide +kernel
theorem d_method_2_10 : DK method_2_code 10 .l2i 1 := by decide +kernel
theorem d_method_2_11 : DK method_2_code 11 .i2c 1 := by decide +kernel
theorem d_method_2_12 : DK method_2_code 12 .ireturn 1 := by decide +kernel
theorem opl_rm_raw : plainFor (⟨"com/example/provisa/provisa/server/BearerTokensPresentedTokenPinLaw", "raw", "(JI)C"⟩ : MethodName) = true := plainFor_of_name (by first | (simp [plainName, overriddenIn]; done) | decide +kernel)
theorem rm_raw (l : Launch) (Z : State) (a0 : Array Value) (hw : ∀ d ∈ tables_1, d.before a0 Z = true) (ws : List Jvm.Cond) (a : Int64) (kk : Int32) (h0 : Heap)  :
    Con l Z (⟨"com/example/provisa/provisa/server/BearerTokensPresentedTokenPinLaw", "raw", "(JI)C"⟩ : MethodName) method_2_code 3 (some .char) ws ({ frames := 0, cells := 0, slots := 0, locals := 0 } : Room) #[(.long a), (.int kk)] h0 (fun v h L => ∃ x, v = some (.int x) ∧ own_c8 x ∧ L = [] ∧ h = h0) := by
  refine Con.intro opl_rm_raw ?_
  intro p e s m below meth c s₁ hx hby hml hown hret hlk hZ hnm X0 e0
  refine OGo.cast (g' := (mkF m 0 #[.val (.long a), .second, .val (.int kk)] [])) (by first | (simp [entryFrame, mkF, argsToLocals, Value.category]; done) | rfl) ?_
  refine og (fun _ k => XS.lloadN X0.here hx rfl (hb hby d_method_2_0) rfl k) ?_
  refine og (fun _ k => XS.bipush X0.here hx rfl (hb hby d_method_2_1) k) ?_
  refine og (fun _ k => XS.iloadN X0.here hx rfl (hb hby d_method_2_3) rfl k) ?_
  refine og (fun _ k => XS.imul X0.here hx rfl (hb hby d_method_2_4) rfl k) ?_
  refine og (fun _ k => XS.lushr X0.here hx rfl (hb hby d_method_2_5) rfl k) ?_
  refine og (fun _ k => Jvm.Stand.ldc2J X0 hx hown (mvT hZ (own_g hw 9 rfl)) rfl (hb hby d_method_2_6) k) ?_
  refine og (fun _ k => XS.land X0.here hx rfl (hb hby d_method_2_9) rfl k) ?_
  refine og (fun _ k => XS.l2i X0.here hx rfl (hb hby d_method_2_10) rfl k) ?_
  refine og (fun _ k => XS.i2c X0.here hx rfl (hb hby d_method_2_11) rfl k) ?_
  obtain ⟨x, ex, hx8, hnx⟩ := own_raw8 ((a.toUInt64 >>> (((8 : Int32) * kk) &&& 0x3f).toInt64.toUInt64).toInt64)
  show OGo p e below _ s₁ (mkF m 12 #[.val (.long a), .second, .val (.int kk)] [(.int (((((a.toUInt64 >>> (((8 : Int32) * kk) &&& 0x3f).toInt64.toUInt64).toInt64) &&& (255 : Int64)).toInt32).toUInt32.toUInt16.toUInt32.toInt32))])
  rw [show (((((a.toUInt64 >>> (((8 : Int32) * kk) &&& 0x3f).toInt64.toUInt64).toInt64) &&& (255 : Int64)).toInt32).toUInt32.toUInt16.toUInt32.toInt32) = x from ex]
  show OGo p e below _ s₁ (mkF m 12 #[.val (.long a), .second, .val (.int kk)] [(.int x)])
  exact OGo.ret X0 hx (t := .char) hret hlk hnx (Or.inl ⟨rfl, by simp, _, rfl⟩) (hb hby d_method_2_12) (by decide) (by decide) ⟨x, rfl, hx8, rfl, e0⟩
theorem d_method_5_0 : DK method_5_code 0 (.iload_n 1) 1 := by decide +kernel
theorem d_method_5_1 : DK method_5_code 1 (.ifCond .eq 8) 3 := by decide +kernel
theorem d_method_5_9 : DK method_5_code 9 (.lload 4) 2 := by decide +kernel
theorem d_method_5_11 : DK method_5_code 11 (.iload_n 0) 1 := by decide +kernel
theorem opd_9 : parseMethodDescriptor "(JI)C" = some ⟨[.long, .int], some .char⟩ := by decide +kernel
theorem d_method_5_12 : DK method_5_code 12 (.invokestatic 19) 3 := by decide +kernel
theorem d_method_5_15 : DK method_5_code 15 .ireturn 1 := by decide +kernel
theorem d_method_5_4 : DK method_5_code 4 (.iload_n 2) 1 := by decide +kernel
theorem d_method_5_5 : DK method_5_code 5 (.iload_n 0) 1 := by decide +kernel
theorem d_method_5_6 : DK method_5_code 6 (.if_icmp .ne 10) 3 := by decide +kernel
theorem d_method_5_16 : DK method_5_code 16 (.iload_n 3) 1 := by decide +kernel
theorem d_method_5_17 : DK method_5_code 17 (.bipush 8) 2 := by decide +kernel
theorem d_method_5_19 : DK method_5_code 19 (.iload_n 0) 1 := by decide +kernel
theorem d_method_5_20 : DK method_5_code 20 .iadd 1 := by decide +kernel
theorem d_method_5_21 : DK method_5_code 21 .iushr 1 := by decide +kernel
theorem d_method_5_22 : DK method_5_code 22 (.iconst 1) 1 := by decide +kernel
theorem d_method_5_23 : DK method_5_code 23 .iand 1 := by decide +kernel
theorem d_method_5_24 : DK method_5_code 24 (.ifCond .eq 12) 3 := by decide +kernel
theorem d_method_5_36 : DK method_5_code 36 (.ldc 9) 2 := by decide +kernel
theorem d_method_5_38 : DK method_5_code 38 (.iload_n 0) 1 := by decide +kernel
theorem opd_10 : parseMethodDescriptor "(I)C" = some ⟨[.int], some .char⟩ := by decide +kernel
theorem d_method_5_39 : DK method_5_code 39 (.invokevirtual 11) 3 := by decide +kernel
theorem d_method_5_42 : DK method_5_code 42 .ireturn 1 := by decide +kernel
theorem d_method_5_27 : DK method_5_code 27 (.ldc 17) 2 := by decide +kernel
theorem d_method_5_29 : DK method_5_code 29 (.iload_n 0) 1 := by decide +kernel
theorem d_method_5_30 : DK method_5_code 30 (.invokevirtual 11) 3 := by decide +kernel
theorem d_method_5_33 : DK method_5_code 33 (.goto 9) 3 := by decide +kernel
theorem opl_rm_head : plainFor (⟨"com/example/provisa/provisa/server/BearerTokensPresentedTokenPinLaw", "head", "(IZIIJ)C"⟩ : MethodName) = true := plainFor_of_name (by first | (simp [plainName, overriddenIn]; done) | decide +kernel)
theorem rm_head (l : Launch) (Z : State) (a0 : Array Value) (hw : ∀ d ∈ tables_1, d.before a0 Z = true) (ws : List Jvm.Cond) (i : Nat) (sch br mode : Int32) (a : Int64) (zc : Int32) (wf : Value) (n0 : Nat) (h0 : Heap) (SS : own_SS Z zc wf) (O : Old Z n0 h0) (hi : i < 6) :
    ConH l Z own_EL (⟨"com/example/provisa/provisa/server/BearerTokensPresentedTokenPinLaw", "head", "(IZIIJ)C"⟩ : MethodName) method_5_code 6 (some .char) ws ({ frames := 4, cells := 2, slots := 28, locals := 53 } : Room) #[(.int (Int32.ofNat (i))), (.int sch), (.int br), (.int mode), (.long a)] h0 (fun v h L => ∃ x, v = some (.int x) ∧ own_c8 x ∧ Fr n0 L ∧ Keep h0 h []) := by
  refine ConH.intro opl_rm_head ?_
  intro p e s m below meth c s₁ hx hby hml hown hret hlk hZ hnm X0 e0 hs0 hS0 H0 R0
  have SS' := SS
  obtain ⟨hzc, SC, hwf, SF⟩ := SS
  have Z0 : n0 ≤ h0.size := O.1 ▸ O.2.1
  have N0 := Fr.nil n0
  refine OGo.cast (g' := (mkF m 0 #[.val (.int (Int32.ofNat (i))), .val (.int sch), .val (.int br), .val (.int mode), .val (.long a), .second] [])) (by first | (simp [entryFrame, mkF, argsToLocals, Value.category]; done) | rfl) ?_
  refine og (fun _ k => XS.iloadN X0.here hx rfl (hb hby d_method_5_0) rfl k) ?_
  by_cases q1 : sch = 0
  case pos =>
    show OGo p e below _ s₁ (mkF m 1 #[.val (.int (Int32.ofNat (i))), .val (.int sch), .val (.int br), .val (.int mode), .val (.long a), .second] [(.int sch)])
    refine og (fun _ k => XS.ifYes X0.here hx rfl (pc0 := 1) (pc' := 9) rfl (hb hby d_method_5_1) rfl ((if0 _ _).trans (teq q1).1) (by decide) (by decide) k) ?_
    refine og (fun _ k => XS.lload X0.here hx rfl (hb hby d_method_5_9) rfl k) ?_
    refine og (fun _ k => XS.iloadN X0.here hx rfl (hb hby d_method_5_11) rfl k) ?_
    obtain ⟨v39, T39, L39, X39, hQ39, st39⟩ := scall X0 hx hZ hown (own_g hw 6 rfl) (own_g hw 7 rfl) (own_g hw 4 rfl) (own_g hw 8 rfl) (by decide) (W := 0) (rm_raw l Z a0 hw [] a (Int32.ofNat i) h0 ) e0 (by decide) (by decide) (by decide) (by decide) (g := (mkF m 12 #[.val (.int (Int32.ofNat (i))), .val (.int sch), .val (.int br), .val (.int mode), .val (.long a), .second] [(.int (Int32.ofNat (i))), (.long a)])) rfl (by rw [hml]; rfl) (argsL := [(.long a), (.int (Int32.ofNat (i)))]) (rest := []) opd_9 rfl rfl rfl (by show 2 * 0 + _ ≤ _; exact Nat.le_of_eq rfl) (hb hby d_method_5_12)
    obtain ⟨x39, rfl, hc39, rfl, e39⟩ := hQ39
    rw [List.append_nil] at X39
    refine og st39 ?_
    show OGo p e below _ T39 (mkF m 15 #[.val (.int (Int32.ofNat (i))), .val (.int sch), .val (.int br), .val (.int mode), .val (.long a), .second] [(.int x39)])
    exact OGo.retH X39 hx hZ (own_hEL hw) hs0 e39 hS0 (Nat.zero_le _) H0 R0 (t := .char) hret hlk (own_narc8 hc39) (Or.inl ⟨rfl, by simp, _, rfl⟩) (hb hby d_method_5_15) (by decide) (by decide) ⟨x39, rfl, hc39, N0, (Keep.refl h0 [])⟩
  show OGo p e below _ s₁ (mkF m 1 #[.val (.int (Int32.ofNat (i))), .val (.int sch), .val (.int br), .val (.int mode), .val (.long a), .second] [(.int sch)])
  refine og (fun _ k => XS.ifNo X0.here hx rfl (hb hby d_method_5_1) rfl ((if0 _ _).trans (feq q1).1) k) ?_
  refine og (fun _ k => XS.iloadN X0.here hx rfl (hb hby d_method_5_4) rfl k) ?_
  refine og (fun _ k => XS.iloadN X0.here hx rfl (hb hby d_method_5_5) rfl k) ?_
  by_cases q2 : br = Int32.ofNat i
  case pos =>
    show OGo p e below _ s₁ (mkF m 6 #[.val (.int (Int32.ofNat (i))), .val (.int sch), .val (.int br), .val (.int mode), .val (.long a), .second] [(.int (Int32.ofNat (i))), (.int br)])
    refine og (fun _ k => XS.icmpNo X0.here hx rfl (hb hby d_method_5_6) rfl (teq q2).2 k) ?_
    refine og (fun _ k => XS.lload X0.here hx rfl (hb hby d_method_5_9) rfl k) ?_
    refine og (fun _ k => XS.iloadN X0.here hx rfl (hb hby d_method_5_11) rfl k) ?_
    obtain ⟨v40, T40, L40, X40, hQ40, st40⟩ := scall X0 hx hZ hown (own_g hw 6 rfl) (own_g hw 7 rfl) (own_g hw 4 rfl) (own_g hw 8 rfl) (by decide) (W := 0) (rm_raw l Z a0 hw [] a (Int32.ofNat i) h0 ) e0 (by decide) (by decide) (by decide) (by decide) (g := (mkF m 12 #[.val (.int (Int32.ofNat (i))), .val (.int sch), .val (.int br), .val (.int mode), .val (.long a), .second] [(.int (Int32.ofNat (i))), (.long a)])) rfl (by rw [hml]; rfl) (argsL := [(.long a), (.int (Int32.ofNat (i)))]) (rest := []) opd_9 rfl rfl rfl (by show 2 * 0 + _ ≤ _; exact Nat.le_of_eq rfl) (hb hby d_method_5_12)
    obtain ⟨x40, rfl, hc40, rfl, e40⟩ := hQ40
    rw [List.append_nil] at X40
    refine og st40 ?_
    show OGo p e below _ T40 (mkF m 15 #[.val (.int (Int32.ofNat (i))), .val (.int sch), .val (.int br), .val (.int mode), .val (.long a), .second] [(.int x40)])
    exact OGo.retH X40 hx hZ (own_hEL hw) hs0 e40 hS0 (Nat.zero_le _) H0 R0 (t := .char) hret hlk (own_narc8 hc40) (Or.inl ⟨rfl, by simp, _, rfl⟩) (hb hby d_method_5_15) (by decide) (by decide) ⟨x40, rfl, hc40, N0, (Keep.refl h0 [])⟩
  show OGo p e below _ s₁ (mkF m 6 #[.val (.int (Int32.ofNat (i))), .val (.int sch), .val (.int br), .val (.int mode), .val (.long a), .second] [(.int (Int32.ofNat (i))), (.int br)])
  refine og (fun _ k => XS.icmpYes X0.here hx rfl (pc0 := 6) (pc' := 16) rfl (hb hby d_method_5_6) rfl (feq q2).2 (by decide) (by decide) k) ?_
  refine og (fun _ k => XS.iloadN X0.here hx rfl (hb hby d_method_5_16) rfl k) ?_
  refine og (fun _ k => XS.bipush X0.here hx rfl (hb hby d_method_5_17) k) ?_
  refine og (fun _ k => XS.iloadN X0.here hx rfl (hb hby d_method_5_19) rfl k) ?_
  refine og (fun _ k => XS.iadd X0.here hx rfl (hb hby d_method_5_20) rfl k) ?_
  refine og (fun _ k => XS.iushr X0.here hx rfl (hb hby d_method_5_21) rfl k) ?_
  refine og (fun _ k => XS.iconst X0.here hx rfl (hb hby d_method_5_22) k) ?_
  refine og (fun _ k => XS.iand X0.here hx rfl (hb hby d_method_5_23) rfl k) ?_
  by_cases q3 : (((mode.toUInt32 >>> (((8 : Int32) + (Int32.ofNat (i))) &&& 31).toUInt32).toInt32) &&& (1 : Int32)) = 0
  case pos =>
    show OGo p e below _ s₁ (mkF m 24 #[.val (.int (Int32.ofNat (i))), .val (.int sch), .val (.int br), .val (.int mode), .val (.long a), .second] [(.int (((mode.toUInt32 >>> (((8 : Int32) + (Int32.ofNat (i))) &&& 31).toUInt32).toInt32) &&& (1 : Int32)))])
    refine og (fun _ k => XS.ifYes X0.here hx rfl (pc0 := 24) (pc' := 36) rfl (hb hby d_method_5_24) rfl ((if0 _ _).trans (teq q3).1) (by decide) (by decide) k) ?_
    obtain ⟨a41, T41, h41, kk41, d41, kd41, X41, e41, E41, hS41, hk41, hZ41, hown41, A41, C41, F41, V41, lt41, ltd41, CR41, Li41, sf41, st41⟩ := ldcCH X0 hx hZ hown (own_g hw 10 rfl) (own_wS hw) e0 hS0 (Nat.zero_le _) (own_hEL hw) (List.mem_of_getElem? (i := 1) rfl) H0 (vs := [(.int (98 : Int32)), (.int (101 : Int32)), (.int (97 : Int32)), (.int (114 : Int32)), (.int (101 : Int32)), (.int (114 : Int32))]) (z := (6 : Int32)) (by decide) (by decide) (by decide) (g := (mkF m 36 #[.val (.int (Int32.ofNat (i))), .val (.int sch), .val (.int br), .val (.int mode), .val (.long a), .second] [])) rfl (hb hby d_method_5_36) (n := 24) (by decide) (by decide) (by decide) (by decide)
    have KK41 : Keep h0 h41 [] := (Keep.refl h0 []).ext E41
    have H41 := CR41.1
    have R41 := CHr.trans R0 CR41
    refine og st41 ?_
    have LV41 : Arv Z h41 d41 kd41 .byte (Int32.ofNat own_l9.length) own_l9 (.int (0 : Int32)) := V41
    refine og (fun _ k => XS.iloadN X41.here hx rfl (hb hby d_method_5_38) rfl k) ?_
    obtain ⟨v42, T42, L42, X42, hQ42, st42⟩ := vcall X41 hx hZ41 hown41 (own_g hw 18 rfl) (own_g hw 19 rfl) (own_g hw 21 rfl) rfl (own_g hw 21 rfl) (own_g hw 20 rfl) (own_g hw 11 rfl) (own_g hw 22 rfl) (by decide) (W := 0) (rm_charAt l Z a0 hw [] a41 d41 kd41 own_l9 (Int32.ofNat i) (own_lows.getD i 0) zc wf n0 h41 SS' (O.ext E41) ⟨A41, C41, F41, LV41⟩ (own_nn (by omega)) ((own_lt (b := 6) (by omega) (by decide)).mpr (by omega)) (by rw [own_cl (by omega)]; exact own_at9 hi)) e41 (by decide) (by decide) (by decide) (by decide) (g := (mkF m 39 #[.val (.int (Int32.ofNat (i))), .val (.int sch), .val (.int br), .val (.int mode), .val (.long a), .second] [(.int (Int32.ofNat (i))), (.ref a41)])) rfl (by rw [hml]; rfl) A41 (argsL := [(.int (Int32.ofNat (i)))]) (rest := []) opd_10 rfl rfl rfl (by show 2 * 0 + _ ≤ _; exact Nat.le_of_eq rfl) (hb hby d_method_5_39)
    obtain ⟨rfl, rfl, e42⟩ := hQ42
    rw [List.append_nil] at X42
    refine og st42 ?_
    show OGo p e below _ T42 (mkF m 42 #[.val (.int (Int32.ofNat (i))), .val (.int sch), .val (.int br), .val (.int mode), .val (.long a), .second] [(.int ((own_lows.getD i 0) &&& 255))])
    exact OGo.retH X42 hx hZ41 (own_hEL hw) hs0 e42 hS41 hk41 H41 R41 (t := .char) hret hlk (own_nar255 _) (Or.inl ⟨rfl, by simp, _, rfl⟩) (hb hby d_method_5_42) (by decide) (by decide) ⟨_, rfl, own_and255 _, N0, KK41⟩
  show OGo p e below _ s₁ (mkF m 24 #[.val (.int (Int32.ofNat (i))), .val (.int sch), .val (.int br), .val (.int mode), .val (.long a), .second] [(.int (((mode.toUInt32 >>> (((8 : Int32) + (Int32.ofNat (i))) &&& 31).toUInt32).toInt32) &&& (1 : Int32)))])
  refine og (fun _ k => XS.ifNo X0.here hx rfl (hb hby d_method_5_24) rfl ((if0 _ _).trans (feq q3).1) k) ?_
  obtain ⟨a43, T43, h43, kk43, d43, kd43, X43, e43, E43, hS43, hk43, hZ43, hown43, A43, C43, F43, V43, lt43, ltd43, CR43, Li43, sf43, st43⟩ := ldcCH X0 hx hZ hown (own_g hw 99 rfl) (own_wS hw) e0 hS0 (Nat.zero_le _) (own_hEL hw) (List.mem_of_getElem? (i := 2) rfl) H0 (vs := [(.int (66 : Int32)), (.int (69 : Int32)), (.int (65 : Int32)), (.int (82 : Int32)), (.int (69 : Int32)), (.int (82 : Int32))]) (z := (6 : Int32)) (by decide) (by decide) (by decide) (g := (mkF m 27 #[.val (.int (Int32.ofNat (i))), .val (.int sch), .val (.int br), .val (.int mode), .val (.long a), .second] [])) rfl (hb hby d_method_5_27) (n := 24) (by decide) (by decide) (by decide) (by decide)
  have KK43 : Keep h0 h43 [] := (Keep.refl h0 []).ext E43
  have H43 := CR43.1
  have R43 := CHr.trans R0 CR43
  refine og st43 ?_
  have LV43 : Arv Z h43 d43 kd43 .byte (Int32.ofNat own_l17.length) own_l17 (.int (0 : Int32)) := V43
  refine og (fun _ k => XS.iloadN X43.here hx rfl (hb hby d_method_5_29) rfl k) ?_
  obtain ⟨v44, T44, L44, X44, hQ44, st44⟩ := vcall X43 hx hZ43 hown43 (own_g hw 18 rfl) (own_g hw 19 rfl) (own_g hw 21 rfl) rfl (own_g hw 21 rfl) (own_g hw 20 rfl) (own_g hw 11 rfl) (own_g hw 22 rfl) (by decide) (W := 0) (rm_charAt l Z a0 hw [] a43 d43 kd43 own_l17 (Int32.ofNat i) (own_ups.getD i 0) zc wf n0 h43 SS' (O.ext E43) ⟨A43, C43, F43, LV43⟩ (own_nn (by omega)) ((own_lt (b := 6) (by omega) (by decide)).mpr (by omega)) (by rw [own_cl (by omega)]; exact own_at17 hi)) e43 (by decide) (by decide) (by decide) (by decide) (g := (mkF m 30 #[.val (.int (Int32.ofNat (i))), .val (.int sch), .val (.int br), .val (.int mode), .val (.long a), .second] [(.int (Int32.ofNat (i))), (.ref a43)])) rfl (by rw [hml]; rfl) A43 (argsL := [(.int (Int32.ofNat (i)))]) (rest := []) opd_10 rfl rfl rfl (by show 2 * 0 + _ ≤ _; exact Nat.le_of_eq rfl) (hb hby d_method_5_30)
  obtain ⟨rfl, rfl, e44⟩ := hQ44
  rw [List.append_nil] at X44
  refine og st44 ?_
  refine og (fun _ k => XS.goto X44.here hx rfl (pc0 := 33) (pc' := 42) rfl (hb hby d_method_5_33) (by decide) (by decide) k) ?_
  show OGo p e below _ T44 (mkF m 42 #[.val (.int (Int32.ofNat (i))), .val (.int sch), .val (.int br), .val (.int mode), .val (.long a), .second] [(.int ((own_ups.getD i 0) &&& 255))])
  exact OGo.retH X44 hx hZ43 (own_hEL hw) hs0 e44 hS43 hk43 H43 R43 (t := .char) hret hlk (own_nar255 _) (Or.inl ⟨rfl, by simp, _, rfl⟩) (hb hby d_method_5_42) (by decide) (by decide) ⟨_, rfl, own_and255 _, N0, KK43⟩
theorem d_method_6_0 : DK method_6_code 0 (.iload_n 1) 1 := by decide +kernel
theorem d_method_6_1 : DK method_6_code 1 (.iload_n 2) 1 := by decide +kernel
theorem d_method_6_2 : DK method_6_code 2 .iushr 1 := by decide +kernel
theorem d_method_6_3 : DK method_6_code 3 (.iconst 1) 1 := by decide +kernel
theorem d_method_6_4 : DK method_6_code 4 .iand 1 := by decide +kernel
theorem d_method_6_5 : DK method_6_code 5 (.ifCond .ne 5) 3 := by decide +kernel
theorem d_method_6_8 : DK method_6_code 8 (.iload_n 0) 1 := by decide +kernel
theorem d_method_6_9 : DK method_6_code 9 .ireturn 1 := by decide +kernel
theorem d_method_6_10 : DK method_6_code 10 (.bipush 8) 2 := by decide +kernel
theorem d_method_6_12 : DK method_6_code 12 (.newarray .char) 2 := by decide +kernel
theorem d_method_6_14 : DK method_6_code 14 .dup 1 := by decide +kernel
theorem d_method_6_15 : DK method_6_code 15 (.iconst 0) 1 := by decide +kernel
theorem d_method_6_16 : DK method_6_code 16 (.bipush 32) 2 := by decide +kernel
theorem d_method_6_18 : DK method_6_code 18 .castore 1 := by decide +kernel
theorem d_method_6_19 : DK method_6_code 19 .dup 1 := by decide +kernel
theorem d_method_6_20 : DK method_6_code 20 (.iconst 1) 1 := by decide +kernel
theorem d_method_6_21 : DK method_6_code 21 (.bipush 9) 2 := by decide +kernel
theorem d_method_6_23 : DK method_6_code 23 .castore 1 := by decide +kernel
theorem d_method_6_24 : DK method_6_code 24 .dup 1 := by decide +kernel
theorem d_method_6_25 : DK method_6_code 25 (.iconst 2) 1 := by decide +kernel
theorem d_method_6_26 : DK method_6_code 26 (.bipush 10) 2 := by decide +kernel
theorem d_method_6_28 : DK method_6_code 28 .castore 1 := by decide +kernel
theorem d_method_6_29 : DK method_6_code 29 .dup 1 := by decide +kernel
theorem d_method_6_30 : DK method_6_code 30 (.iconst 3) 1 := by decide +kernel
theorem d_method_6_31 : DK method_6_code 31 (.bipush 11) 2 := by decide +kernel
theorem d_method_6_33 : DK method_6_code 33 .castore 1 := by decide +kernel
theorem d_method_6_34 : DK method_6_code 34 .dup 1 := by decide +kernel
theorem d_method_6_35 : DK method_6_code 35 (.iconst 4) 1 := by decide +kernel
theorem d_method_6_36 : DK method_6_code 36 (.bipush 12) 2 := by decide +kernel
theorem d_method_6_38 : DK method_6_code 38 .castore 1 := by decide +kernel
theorem d_method_6_39 : DK method_6_code 39 .dup 1 := by decide +kernel
theorem d_method_6_40 : DK method_6_code 40 (.iconst 5) 1 := by decide +kernel
theorem d_method_6_41 : DK method_6_code 41 (.bipush 13) 2 := by decide +kernel
theorem d_method_6_43 : DK method_6_code 43 .castore 1 := by decide +kernel
theorem d_method_6_44 : DK method_6_code 44 .dup 1 := by decide +kernel
theorem d_method_6_45 : DK method_6_code 45 (.bipush 6) 2 := by decide +kernel
theorem d_method_6_47 : DK method_6_code 47 (.bipush 28) 2 := by decide +kernel
theorem d_method_6_49 : DK method_6_code 49 .castore 1 := by decide +kernel
theorem d_method_6_50 : DK method_6_code 50 .dup 1 := by decide +kernel
theorem d_method_6_51 : DK method_6_code 51 (.bipush 7) 2 := by decide +kernel
theorem d_method_6_53 : DK method_6_code 53 (.bipush 31) 2 := by decide +kernel
theorem d_method_6_55 : DK method_6_code 55 .castore 1 := by decide +kernel
theorem d_method_6_56 : DK method_6_code 56 (.astore_n 3) 1 := by decide +kernel
theorem d_method_6_57 : DK method_6_code 57 (.aload_n 3) 1 := by decide +kernel
theorem d_method_6_58 : DK method_6_code 58 (.iload_n 0) 1 := by decide +kernel
theorem d_method_6_59 : DK method_6_code 59 (.bipush 7) 2 := by decide +kernel
theorem d_method_6_61 : DK method_6_code 61 .iand 1 := by decide +kernel
theorem d_method_6_62 : DK method_6_code 62 .caload 1 := by decide +kernel
theorem d_method_6_63 : DK method_6_code 63 .ireturn 1 := by decide +kernel
theorem opl_rm_tail : plainFor (⟨"com/example/provisa/provisa/server/BearerTokensPresentedTokenPinLaw", "tail", "(CII)C"⟩ : MethodName) = true := plainFor_of_name (by first | (simp [plainName, overriddenIn]; done) | decide +kernel)
theorem rm_tail (l : Launch) (Z : State) (a0 : Array Value) (hw : ∀ d ∈ tables_1, d.before a0 Z = true) (ws : List Jvm.Cond) (r mode bit : Int32) (zc : Int32) (wf : Value) (n0 : Nat) (h0 : Heap) (SS : own_SS Z zc wf) (O : Old Z n0 h0) (hr : own_c8 r) :
    Con l Z (⟨"com/example/provisa/provisa/server/BearerTokensPresentedTokenPinLaw", "tail", "(CII)C"⟩ : MethodName) method_6_code 4 (some .char) ws ({ frames := 0, cells := 1, slots := 8, locals := 0 } : Room) #[(.int r), (.int mode), (.int bit)] h0 (fun v h L => ∃ x, v = some (.int x) ∧ own_c8 x ∧ Fr n0 L ∧ Keep h0 h []) := by
  refine Con.intro opl_rm_tail ?_
  intro p e s m below meth c s₁ hx hby hml hown hret hlk hZ hnm X0 e0
  obtain ⟨hzc, SC, hwf, SF⟩ := SS
  have Z0 : n0 ≤ h0.size := O.1 ▸ O.2.1
  have N0 := Fr.nil n0
  refine OGo.cast (g' := (mkF m 0 #[.val (.int r), .val (.int mode), .val (.int bit), .unset] [])) (by first | (simp [entryFrame, mkF, argsToLocals, Value.category]; done) | rfl) ?_
  refine og (fun _ k => XS.iloadN X0.here hx rfl (hb hby d_method_6_0) rfl k) ?_
  refine og (fun _ k => XS.iloadN X0.here hx rfl (hb hby d_method_6_1) rfl k) ?_
  refine og (fun _ k => XS.iushr X0.here hx rfl (hb hby d_method_6_2) rfl k) ?_
  refine og (fun _ k => XS.iconst X0.here hx rfl (hb hby d_method_6_3) k) ?_
  refine og (fun _ k => XS.iand X0.here hx rfl (hb hby d_method_6_4) rfl k) ?_
  by_cases q1 : (((mode.toUInt32 >>> (bit &&& 31).toUInt32).toInt32) &&& (1 : Int32)) = 0
  case pos =>
    show OGo p e below _ s₁ (mkF m 5 #[.val (.int r), .val (.int mode), .val (.int bit), .unset] [(.int (((mode.toUInt32 >>> (bit &&& 31).toUInt32).toInt32) &&& (1 : Int32)))])
    refine og (fun _ k => XS.ifNo X0.here hx rfl (hb hby d_method_6_5) rfl ((if0 _ _).trans (teq q1).2) k) ?_
    refine og (fun _ k => XS.iloadN X0.here hx rfl (hb hby d_method_6_8) rfl k) ?_
    show OGo p e below _ s₁ (mkF m 9 #[.val (.int r), .val (.int mode), .val (.int bit), .unset] [(.int r)])
    exact OGo.ret X0 hx (t := .char) hret hlk (own_narc8 hr) (Or.inl ⟨rfl, by simp, _, rfl⟩) (hb hby d_method_6_9) (by decide) (by decide) (by rw [e0]; exact ⟨r, rfl, hr, N0, Keep.refl _ _⟩)
  show OGo p e below _ s₁ (mkF m 5 #[.val (.int r), .val (.int mode), .val (.int bit), .unset] [(.int (((mode.toUInt32 >>> (bit &&& 31).toUInt32).toInt32) &&& (1 : Int32)))])
  refine og (fun _ k => XS.ifYes X0.here hx rfl (pc0 := 5) (pc' := 10) rfl (hb hby d_method_6_5) rfl ((if0 _ _).trans (feq q1).2) (by decide) (by decide) k) ?_
  refine og (fun _ k => XS.bipush X0.here hx rfl (hb hby d_method_6_10) k) ?_
  obtain ⟨T45, h45, k45, X45, e45, E45, A45, AE45, st45⟩ := newPE X0 hx hZ (own_g hw 1 rfl) e0 (g := (mkF m 12 #[.val (.int r), .val (.int mode), .val (.int bit), .unset] [(.int (8 : Int32))])) rfl (hb hby d_method_6_12) rfl (by decide) (cap := 8) (by decide) (by decide) (by decide) (by decide) (ad := "[C") (by decide)
  obtain ⟨b45, g45⟩ : ∃ z, z = h0.size := ⟨_, rfl⟩
  rw [← g45] at A45 AE45 st45
  have sz_b45 : h0.size ≤ b45 := Nat.le_trans (Keep.refl h0 []).1 (Nat.le_of_eq g45.symm)
  have KK45 : Keep h0 h45 [] := (Keep.refl h0 []).ext E45
  have V45 : Arv Z h45 b45 k45 .char (8 : Int32) [(.int (0 : Int32)), (.int (0 : Int32)), (.int (0 : Int32)), (.int (0 : Int32)), (.int (0 : Int32)), (.int (0 : Int32)), (.int (0 : Int32)), (.int (0 : Int32))] (.int (0 : Int32)) := (Arv.new A45 (by decide)).pad (pad_rep [] (.int (0 : Int32)) 8)
  refine og st45 ?_
  refine og (fun _ k => XS.dup X45.here hx rfl (hb hby d_method_6_14) rfl rfl k) ?_
  refine og (fun _ k => XS.iconst X45.here hx rfl (hb hby d_method_6_15) k) ?_
  refine og (fun _ k => XS.bipush X45.here hx rfl (hb hby d_method_6_16) k) ?_
  obtain ⟨T46, h46, X46, e46, W46, Vq46, st46⟩ := castoreV X45 hx hZ e45 V45 (j := (0 : Int32)) ⟨by decide, by decide⟩ (show (0 : Int32).toNatClampNeg < 8 by decide) (g := (mkF m 18 #[.val (.int r), .val (.int mode), .val (.int bit), .unset] [(.int (32 : Int32)), (.int (0 : Int32)), (.ref b45), (.ref b45)])) rfl rfl (hb hby d_method_6_18)
  have N46 := Fr.snoc X46 N0 (Nat.le_trans Z0 sz_b45)
  have KK46 : Keep h0 h46 [] := KK45.wr W46 (Or.inr sz_b45)
  have V46 : Arv Z h46 b45 k45 .char (8 : Int32) [(.int (32 : Int32)), (.int (0 : Int32)), (.int (0 : Int32)), (.int (0 : Int32)), (.int (0 : Int32)), (.int (0 : Int32)), (.int (0 : Int32)), (.int (0 : Int32))] (.int (0 : Int32)) := Vq46
  refine og st46 ?_
  refine og (fun _ k => XS.dup X46.here hx rfl (hb hby d_method_6_19) rfl rfl k) ?_
  refine og (fun _ k => XS.iconst X46.here hx rfl (hb hby d_method_6_20) k) ?_
  refine og (fun _ k => XS.bipush X46.here hx rfl (hb hby d_method_6_21) k) ?_
  obtain ⟨T47, h47, X47, e47, W47, Vq47, st47⟩ := castoreV X46 hx hZ e46 V46 (j := (1 : Int32)) ⟨by decide, by decide⟩ (show (1 : Int32).toNatClampNeg < 8 by decide) (g := (mkF m 23 #[.val (.int r), .val (.int mode), .val (.int bit), .unset] [(.int (9 : Int32)), (.int (1 : Int32)), (.ref b45), (.ref b45)])) rfl rfl (hb hby d_method_6_23)
  have N47 := Fr.snoc X47 N46 (Nat.le_trans Z0 sz_b45)
  have KK47 : Keep h0 h47 [] := KK46.wr W47 (Or.inr sz_b45)
  have V47 : Arv Z h47 b45 k45 .char (8 : Int32) [(.int (32 : Int32)), (.int (9 : Int32)), (.int (0 : Int32)), (.int (0 : Int32)), (.int (0 : Int32)), (.int (0 : Int32)), (.int (0 : Int32)), (.int (0 : Int32))] (.int (0 : Int32)) := Vq47
  refine og st47 ?_
  refine og (fun _ k => XS.dup X47.here hx rfl (hb hby d_method_6_24) rfl rfl k) ?_
  refine og (fun _ k => XS.iconst X47.here hx rfl (hb hby d_method_6_25) k) ?_
  refine og (fun _ k => XS.bipush X47.here hx rfl (hb hby d_method_6_26) k) ?_
  obtain ⟨T48, h48, X48, e48, W48, Vq48, st48⟩ := castoreV X47 hx hZ e47 V47 (j := (2 : Int32)) ⟨by decide, by decide⟩ (show (2 : Int32).toNatClampNeg < 8 by decide) (g := (mkF m 28 #[.val (.int r), .val (.int mode), .val (.int bit), .unset] [(.int (10 : Int32)), (.int (2 : Int32)), (.ref b45), (.ref b45)])) rfl rfl (hb hby d_method_6_28)
  have N48 := Fr.snoc X48 N47 (Nat.le_trans Z0 sz_b45)
  have KK48 : Keep h0 h48 [] := KK47.wr W48 (Or.inr sz_b45)
  have V48 : Arv Z h48 b45 k45 .char (8 : Int32) [(.int (32 : Int32)), (.int (9 : Int32)), (.int (10 : Int32)), (.int (0 : Int32)), (.int (0 : Int32)), (.int (0 : Int32)), (.int (0 : Int32)), (.int (0 : Int32))] (.int (0 : Int32)) := Vq48
  refine og st48 ?_
  refine og (fun _ k => XS.dup X48.here hx rfl (hb hby d_method_6_29) rfl rfl k) ?_
  refine og (fun _ k => XS.iconst X48.here hx rfl (hb hby d_method_6_30) k) ?_
  refine og (fun _ k => XS.bipush X48.here hx rfl (hb hby d_method_6_31) k) ?_
  obtain ⟨T49, h49, X49, e49, W49, Vq49, st49⟩ := castoreV X48 hx hZ e48 V48 (j := (3 : Int32)) ⟨by decide, by decide⟩ (show (3 : Int32).toNatClampNeg < 8 by decide) (g := (mkF m 33 #[.val (.int r), .val (.int mode), .val (.int bit), .unset] [(.int (11 : Int32)), (.int (3 : Int32)), (.ref b45), (.ref b45)])) rfl rfl (hb hby d_method_6_33)
  have N49 := Fr.snoc X49 N48 (Nat.le_trans Z0 sz_b45)
  have KK49 : Keep h0 h49 [] := KK48.wr W49 (Or.inr sz_b45)
  have V49 : Arv Z h49 b45 k45 .char (8 : Int32) [(.int (32 : Int32)), (.int (9 : Int32)), (.int (10 : Int32)), (.int (11 : Int32)), (.int (0 : Int32)), (.int (0 : Int32)), (.int (0 : Int32)), (.int (0 : Int32))] (.int (0 : Int32)) := Vq49
  refine og st49 ?_
  refine og (fun _ k => XS.dup X49.here hx rfl (hb hby d_method_6_34) rfl rfl k) ?_
  refine og (fun _ k => XS.iconst X49.here hx rfl (hb hby d_method_6_35) k) ?_
  refine og (fun _ k => XS.bipush X49.here hx rfl (hb hby d_method_6_36) k) ?_
  obtain ⟨T50, h50, X50, e50, W50, Vq50, st50⟩ := castoreV X49 hx hZ e49 V49 (j := (4 : Int32)) ⟨by decide, by decide⟩ (show (4 : Int32).toNatClampNeg < 8 by decide) (g := (mkF m 38 #[.val (.int r), .val (.int mode), .val (.int bit), .unset] [(.int (12 : Int32)), (.int (4 : Int32)), (.ref b45), (.ref b45)])) rfl rfl (hb hby d_method_6_38)
  have N50 := Fr.snoc X50 N49 (Nat.le_trans Z0 sz_b45)
  have KK50 : Keep h0 h50 [] := KK49.wr W50 (Or.inr sz_b45)
  have V50 : Arv Z h50 b45 k45 .char (8 : Int32) [(.int (32 : Int32)), (.int (9 : Int32)), (.int (10 : Int32)), (.int (11 : Int32)), (.int (12 : Int32)), (.int (0 : Int32)), (.int (0 : Int32)), (.int (0 : Int32))] (.int (0 : Int32)) := Vq50
  refine og st50 ?_
  refine og (fun _ k => XS.dup X50.here hx rfl (hb hby d_method_6_39) rfl rfl k) ?_
  refine og (fun _ k => XS.iconst X50.here hx rfl (hb hby d_method_6_40) k) ?_
  refine og (fun _ k => XS.bipush X50.here hx rfl (hb hby d_method_6_41) k) ?_
  obtain ⟨T51, h51, X51, e51, W51, Vq51, st51⟩ := castoreV X50 hx hZ e50 V50 (j := (5 : Int32)) ⟨by decide, by decide⟩ (show (5 : Int32).toNatClampNeg < 8 by decide) (g := (mkF m 43 #[.val (.int r), .val (.int mode), .val (.int bit), .unset] [(.int (13 : Int32)), (.int (5 : Int32)), (.ref b45), (.ref b45)])) rfl rfl (hb hby d_method_6_43)
  have N51 := Fr.snoc X51 N50 (Nat.le_trans Z0 sz_b45)
  have KK51 : Keep h0 h51 [] := KK50.wr W51 (Or.inr sz_b45)
  have V51 : Arv Z h51 b45 k45 .char (8 : Int32) [(.int (32 : Int32)), (.int (9 : Int32)), (.int (10 : Int32)), (.int (11 : Int32)), (.int (12 : Int32)), (.int (13 : Int32)), (.int (0 : Int32)), (.int (0 : Int32))] (.int (0 : Int32)) := Vq51
  refine og st51 ?_
  refine og (fun _ k => XS.dup X51.here hx rfl (hb hby d_method_6_44) rfl rfl k) ?_
  refine og (fun _ k => XS.bipush X51.here hx rfl (hb hby d_method_6_45) k) ?_
  refine og (fun _ k => XS.bipush X51.here hx rfl (hb hby d_method_6_47) k) ?_
  obtain ⟨T52, h52, X52, e52, W52, Vq52, st52⟩ := castoreV X51 hx hZ e51 V51 (j := (6 : Int32)) ⟨by decide, by decide⟩ (show (6 : Int32).toNatClampNeg < 8 by decide) (g := (mkF m 49 #[.val (.int r), .val (.int mode), .val (.int bit), .unset] [(.int (28 : Int32)), (.int (6 : Int32)), (.ref b45), (.ref b45)])) rfl rfl (hb hby d_method_6_49)
  have N52 := Fr.snoc X52 N51 (Nat.le_trans Z0 sz_b45)
  have KK52 : Keep h0 h52 [] := KK51.wr W52 (Or.inr sz_b45)
  have V52 : Arv Z h52 b45 k45 .char (8 : Int32) [(.int (32 : Int32)), (.int (9 : Int32)), (.int (10 : Int32)), (.int (11 : Int32)), (.int (12 : Int32)), (.int (13 : Int32)), (.int (28 : Int32)), (.int (0 : Int32))] (.int (0 : Int32)) := Vq52
  refine og st52 ?_
  refine og (fun _ k => XS.dup X52.here hx rfl (hb hby d_method_6_50) rfl rfl k) ?_
  refine og (fun _ k => XS.bipush X52.here hx rfl (hb hby d_method_6_51) k) ?_
  refine og (fun _ k => XS.bipush X52.here hx rfl (hb hby d_method_6_53) k) ?_
  obtain ⟨T53, h53, X53, e53, W53, Vq53, st53⟩ := castoreV X52 hx hZ e52 V52 (j := (7 : Int32)) ⟨by decide, by decide⟩ (show (7 : Int32).toNatClampNeg < 8 by decide) (g := (mkF m 55 #[.val (.int r), .val (.int mode), .val (.int bit), .unset] [(.int (31 : Int32)), (.int (7 : Int32)), (.ref b45), (.ref b45)])) rfl rfl (hb hby d_method_6_55)
  have N53 := Fr.snoc X53 N52 (Nat.le_trans Z0 sz_b45)
  have KK53 : Keep h0 h53 [] := KK52.wr W53 (Or.inr sz_b45)
  have V53 : Arv Z h53 b45 k45 .char (8 : Int32) [(.int (32 : Int32)), (.int (9 : Int32)), (.int (10 : Int32)), (.int (11 : Int32)), (.int (12 : Int32)), (.int (13 : Int32)), (.int (28 : Int32)), (.int (31 : Int32))] (.int (0 : Int32)) := Vq53
  refine og st53 ?_
  refine og (fun _ k => XS.astoreN X53.here hx rfl (hb hby d_method_6_56) rfl rfl (l' := #[.val (.int r), .val (.int mode), .val (.int bit), .val (.ref b45)]) rfl k) ?_
  refine og (fun _ k => XS.aloadN X53.here hx rfl (hb hby d_method_6_57) rfl rfl k) ?_
  refine og (fun _ k => XS.iloadN X53.here hx rfl (hb hby d_method_6_58) rfl k) ?_
  refine og (fun _ k => XS.bipush X53.here hx rfl (hb hby d_method_6_59) k) ?_
  refine og (fun _ k => XS.iand X53.here hx rfl (hb hby d_method_6_61) rfl k) ?_
  obtain ⟨j, hj, ej⟩ := own_land r
  show OGo p e below _ T53 (mkF m 62 #[.val (.int r), .val (.int mode), .val (.int bit), .val (.ref b45)] [(.int (r &&& (7 : Int32))), (.ref b45)])
  rw [ej]
  obtain ⟨x, exx, hx8⟩ : ∃ x, ([(.int (32 : Int32)), (.int (9 : Int32)), (.int (10 : Int32)), (.int (11 : Int32)), (.int (12 : Int32)), (.int (13 : Int32)), (.int (28 : Int32)), (.int (31 : Int32))] : List Value).getD j (.int (0 : Int32)) = .int x ∧ own_c8 x := by rcases (by omega : j = 0 ∨ j = 1 ∨ j = 2 ∨ j = 3 ∨ j = 4 ∨ j = 5 ∨ j = 6 ∨ j = 7) with rfl | rfl | rfl | rfl | rfl | rfl | rfl | rfl <;> exact ⟨_, rfl, by unfold own_c8; decide⟩
  have hat : ([(.int (32 : Int32)), (.int (9 : Int32)), (.int (10 : Int32)), (.int (11 : Int32)), (.int (12 : Int32)), (.int (13 : Int32)), (.int (28 : Int32)), (.int (31 : Int32))] : List Value).getD (Int32.ofNat j).toNatClampNeg (.int (0 : Int32)) = .int x := by rw [own_cl (by omega)]; exact exx
  refine og (fun _ k => caloadV X53 hx hZ e53 V53 ⟨own_nn (by omega), (own_lt (b := 8) (by omega) (by decide)).mpr hj⟩ hat (g := (mkF m 62 #[.val (.int r), .val (.int mode), .val (.int bit), .val (.ref b45)] [(.int (Int32.ofNat j)), (.ref b45)])) rfl rfl (hb hby d_method_6_62) _ k) ?_
  show OGo p e below _ T53 (mkF m 63 #[.val (.int r), .val (.int mode), .val (.int bit), .val (.ref b45)] [(.int x)])
  exact OGo.ret X53 hx (t := .char) hret hlk (own_narc8 hx8) (Or.inl ⟨rfl, by simp, _, rfl⟩) (hb hby d_method_6_63) (by decide) (by decide) (by rw [e53]; exact ⟨x, rfl, hx8, N53, KK53⟩)
theorem d_method_4_0 : DK method_4_code 0 (.iload_n 0) 1 := by decide +kernel
theorem d_method_4_1 : DK method_4_code 1 (.ldc 9) 2 := by decide +kernel
theorem d_method_4_3 : DK method_4_code 3 (.iload_n 1) 1 := by decide +kernel
theorem d_method_4_4 : DK method_4_code 4 (.invokevirtual 11) 3 := by decide +kernel
theorem d_method_4_7 : DK method_4_code 7 (.if_icmp .eq 13) 3 := by decide +kernel
theorem d_method_4_20 : DK method_4_code 20 (.iconst 1) 1 := by decide +kernel
theorem d_method_4_21 : DK method_4_code 21 (.goto 4) 3 := by decide +kernel
theorem d_method_4_25 : DK method_4_code 25 .ireturn 1 := by decide +kernel
theorem d_method_4_10 : DK method_4_code 10 (.iload_n 0) 1 := by decide +kernel
theorem d_method_4_11 : DK method_4_code 11 (.ldc 17) 2 := by decide +kernel
theorem d_method_4_13 : DK method_4_code 13 (.iload_n 1) 1 := by decide +kernel
theorem d_method_4_14 : DK method_4_code 14 (.invokevirtual 11) 3 := by decide +kernel
theorem d_method_4_17 : DK method_4_code 17 (.if_icmp .ne 7) 3 := by decide +kernel
theorem d_method_4_24 : DK method_4_code 24 (.iconst 0) 1 := by decide +kernel
theorem opl_rm_ciA : plainFor (⟨"com/example/provisa/provisa/server/BearerTokensPresentedTokenPinLaw", "ci", "(CI)Z"⟩ : MethodName) = true := plainFor_of_name (by first | (simp [plainName, overriddenIn]; done) | decide +kernel)
theorem rm_ciA (l : Launch) (Z : State) (a0 : Array Value) (hw : ∀ d ∈ tables_1, d.before a0 Z = true) (ws : List Jvm.Cond) (x : Int32) (i : Nat) (zc : Int32) (wf : Value) (n0 : Nat) (h0 : Heap) (SS : own_SS Z zc wf) (O : Old Z n0 h0) (hi : i < 6) :
    ConP l Z own_EL (⟨"com/example/provisa/provisa/server/BearerTokensPresentedTokenPinLaw", "ci", "(CI)Z"⟩ : MethodName) method_4_code 2 (some .boolean) ws ({ frames := 4, cells := 4, slots := 56, locals := 54 } : Room) #[(.int x), (.int (Int32.ofNat (i)))] h0 (fun _ => True) (fun v h L vm => v = some (.int (if own_cib i x then 1 else 0)) ∧ Fr n0 L ∧ Keep h0 h [] ∧ ∃ a9 d9 k9, STI Z h a9 d9 k9 own_l9 ∧ Lit (Z.setVm vm) "com/example/provisa/provisa/server/BearerTokensPresentedTokenPinLaw" 9 a9) := by
  refine ConP.intro opl_rm_ciA ?_
  intro p e s m below meth c s₁ hx hby hml hown hret hlk hZ hnm X0 e0 hs0 hS0 H0 R0 hPv
  have SS' := SS
  obtain ⟨hzc, SC, hwf, SF⟩ := SS
  have Z0 : n0 ≤ h0.size := O.1 ▸ O.2.1
  have N0 := Fr.nil n0
  refine OGo.cast (g' := (mkF m 0 #[.val (.int x), .val (.int (Int32.ofNat (i)))] [])) (by first | (simp [entryFrame, mkF, argsToLocals, Value.category]; done) | rfl) ?_
  refine og (fun _ k => XS.iloadN X0.here hx rfl (hb hby d_method_4_0) rfl k) ?_
  obtain ⟨a54, T54, h54, kk54, d54, kd54, X54, e54, E54, hS54, hk54, hZ54, hown54, A54, C54, F54, V54, lt54, ltd54, CR54, Li54, sf54, WW54, st54⟩ := own_ldcW X0 hx hZ hown (own_g hw 10 rfl) (own_wS hw) e0 hS0 (Nat.zero_le _) (own_hEL hw) (List.mem_of_getElem? (i := 1) rfl) H0 (vs := [(.int (98 : Int32)), (.int (101 : Int32)), (.int (97 : Int32)), (.int (114 : Int32)), (.int (101 : Int32)), (.int (114 : Int32))]) (z := (6 : Int32)) (by decide) (by decide) (by decide) (g := (mkF m 1 #[.val (.int x), .val (.int (Int32.ofNat (i)))] [(.int x)])) rfl (hb hby d_method_4_1) (n := 24) (by decide) (by decide) (by decide) (by decide)
  have KK54 : Keep h0 h54 [] := (Keep.refl h0 []).ext E54
  have H54 := CR54.1
  have R54 := CHr.trans R0 CR54
  refine og st54 ?_
  have LV54 : Arv Z h54 d54 kd54 .byte (Int32.ofNat own_l9.length) own_l9 (.int (0 : Int32)) := V54
  refine og (fun _ k => XS.iloadN X54.here hx rfl (hb hby d_method_4_3) rfl k) ?_
  obtain ⟨v55, T55, L55, X55, hQ55, st55⟩ := vcall X54 hx hZ54 hown54 (own_g hw 18 rfl) (own_g hw 19 rfl) (own_g hw 21 rfl) rfl (own_g hw 21 rfl) (own_g hw 20 rfl) (own_g hw 11 rfl) (own_g hw 22 rfl) (by decide) (W := 1) (rm_charAt l Z a0 hw [] a54 d54 kd54 own_l9 (Int32.ofNat i) (own_lows.getD i 0) zc wf n0 h54 SS' (O.ext E54) ⟨A54, C54, F54, LV54⟩ (own_nn (by omega)) ((own_lt (b := 6) (by omega) (by decide)).mpr (by omega)) (by rw [own_cl (by omega)]; exact own_at9 hi)) e54 (by decide) (by decide) (by decide) (by decide) (g := (mkF m 4 #[.val (.int x), .val (.int (Int32.ofNat (i)))] [(.int (Int32.ofNat (i))), (.ref a54), (.int x)])) rfl (by rw [hml]; rfl) A54 (argsL := [(.int (Int32.ofNat (i)))]) (rest := [(.int x)]) opd_10 rfl rfl rfl (by show 2 * 0 + _ ≤ _; exact Nat.le_of_eq rfl) (hb hby d_method_4_4)
  obtain ⟨rfl, rfl, e55⟩ := hQ55
  rw [List.append_nil] at X55
  refine og st55 ?_
  show OGo p e below _ T55 (mkF m 7 #[.val (.int x), .val (.int (Int32.ofNat (i)))] [(.int ((own_lows.getD i 0) &&& 255)), (.int x)])
  rw [own_m9 hi]
  by_cases q1 : x = own_lows.getD i 0
  case pos =>
    show OGo p e below _ T55 (mkF m 7 #[.val (.int x), .val (.int (Int32.ofNat (i)))] [(.int (own_lows.getD i 0)), (.int x)])
    refine og (fun _ k => XS.icmpYes X55.here hx rfl (pc0 := 7) (pc' := 20) rfl (hb hby d_method_4_7) rfl (teq q1).1 (by decide) (by decide) k) ?_
    refine og (fun _ k => XS.iconst X55.here hx rfl (hb hby d_method_4_20) k) ?_
    refine og (fun _ k => XS.goto X55.here hx rfl (pc0 := 21) (pc' := 25) rfl (hb hby d_method_4_21) (by decide) (by decide) k) ?_
    show OGo p e below _ T55 (mkF m 25 #[.val (.int x), .val (.int (Int32.ofNat (i)))] [(.int (1 : Int32))])
    exact OGo.retP X55 hx hZ54 (own_hEL hw) hs0 e55 hS54 hk54 H54 R54 (t := .boolean) hret hlk rfl (Or.inl ⟨rfl, by simp, _, rfl⟩) (hb hby d_method_4_25) (by decide) (by decide) ⟨by rw [if_pos (Or.inl q1)], N0, KK54, a54, d54, _, ⟨A54, C54, F54, LV54⟩, (Lit.stays (s := s) (vm0 := T54.vm) (show Lit (s.setVm T54.vm) _ _ _ from Li54) X55.warmed.wide)⟩
  show OGo p e below _ T55 (mkF m 7 #[.val (.int x), .val (.int (Int32.ofNat (i)))] [(.int (own_lows.getD i 0)), (.int x)])
  refine og (fun _ k => XS.icmpNo X55.here hx rfl (hb hby d_method_4_7) rfl (feq q1).1 k) ?_
  refine og (fun _ k => XS.iloadN X55.here hx rfl (hb hby d_method_4_10) rfl k) ?_
  obtain ⟨a56, T56, h56, kk56, d56, kd56, X56, e56, E56, hS56, hk56, hZ56, hown56, A56, C56, F56, V56, lt56, ltd56, CR56, Li56, sf56, WW56, st56⟩ := own_ldcW X55 hx hZ54 hown54 (own_g hw 99 rfl) (own_wS hw) e55 hS54 hk54 (own_hEL hw) (List.mem_of_getElem? (i := 2) rfl) H54 (vs := [(.int (66 : Int32)), (.int (69 : Int32)), (.int (65 : Int32)), (.int (82 : Int32)), (.int (69 : Int32)), (.int (82 : Int32))]) (z := (6 : Int32)) (by decide) (by decide) (by decide) (g := (mkF m 11 #[.val (.int x), .val (.int (Int32.ofNat (i)))] [(.int x)])) rfl (hb hby d_method_4_11) (n := 24) (by decide) (by decide) (by decide) (by decide)
  have KK56 : Keep h0 h56 [] := KK54.ext E56
  have H56 := CR56.1
  have R56 := CHr.trans R54 CR56
  refine og st56 ?_
  have LV56 : Arv Z h56 d56 kd56 .byte (Int32.ofNat own_l17.length) own_l17 (.int (0 : Int32)) := V56
  refine og (fun _ k => XS.iloadN X56.here hx rfl (hb hby d_method_4_13) rfl k) ?_
  obtain ⟨v57, T57, L57, X57, hQ57, st57⟩ := vcall X56 hx hZ56 hown56 (own_g hw 18 rfl) (own_g hw 19 rfl) (own_g hw 21 rfl) rfl (own_g hw 21 rfl) (own_g hw 20 rfl) (own_g hw 11 rfl) (own_g hw 22 rfl) (by decide) (W := 1) (rm_charAt l Z a0 hw [] a56 d56 kd56 own_l17 (Int32.ofNat i) (own_ups.getD i 0) zc wf n0 h56 SS' ((O.ext E54).ext E56) ⟨A56, C56, F56, LV56⟩ (own_nn (by omega)) ((own_lt (b := 6) (by omega) (by decide)).mpr (by omega)) (by rw [own_cl (by omega)]; exact own_at17 hi)) e56 (by decide) (by decide) (by decide) (by decide) (g := (mkF m 14 #[.val (.int x), .val (.int (Int32.ofNat (i)))] [(.int (Int32.ofNat (i))), (.ref a56), (.int x)])) rfl (by rw [hml]; rfl) A56 (argsL := [(.int (Int32.ofNat (i)))]) (rest := [(.int x)]) opd_10 rfl rfl rfl (by show 2 * 0 + _ ≤ _; exact Nat.le_of_eq rfl) (hb hby d_method_4_14)
  obtain ⟨rfl, rfl, e57⟩ := hQ57
  rw [List.append_nil] at X57
  refine og st57 ?_
  show OGo p e below _ T57 (mkF m 17 #[.val (.int x), .val (.int (Int32.ofNat (i)))] [(.int ((own_ups.getD i 0) &&& 255)), (.int x)])
  rw [own_m17 hi]
  by_cases q2 : x = own_ups.getD i 0
  case pos =>
    show OGo p e below _ T57 (mkF m 17 #[.val (.int x), .val (.int (Int32.ofNat (i)))] [(.int (own_ups.getD i 0)), (.int x)])
    refine og (fun _ k => XS.icmpNo X57.here hx rfl (hb hby d_method_4_17) rfl (teq q2).2 k) ?_
    refine og (fun _ k => XS.iconst X57.here hx rfl (hb hby d_method_4_20) k) ?_
    refine og (fun _ k => XS.goto X57.here hx rfl (pc0 := 21) (pc' := 25) rfl (hb hby d_method_4_21) (by decide) (by decide) k) ?_
    show OGo p e below _ T57 (mkF m 25 #[.val (.int x), .val (.int (Int32.ofNat (i)))] [(.int (1 : Int32))])
    exact OGo.retP X57 hx hZ56 (own_hEL hw) hs0 e57 hS56 hk56 H56 R56 (t := .boolean) hret hlk rfl (Or.inl ⟨rfl, by simp, _, rfl⟩) (hb hby d_method_4_25) (by decide) (by decide) ⟨by rw [if_pos (Or.inr q2)], N0, KK56, a54, d54, _, ⟨(A54.ext E56), (C54.ext E56), (F54.ext E56), (LV54.ext E56)⟩, (Lit.stays (s := s) (vm0 := T56.vm) (show Lit (s.setVm T56.vm) _ _ _ from (Lit.stays (s := s) (vm0 := T54.vm) Li54 WW56)) X57.warmed.wide)⟩
  show OGo p e below _ T57 (mkF m 17 #[.val (.int x), .val (.int (Int32.ofNat (i)))] [(.int (own_ups.getD i 0)), (.int x)])
  refine og (fun _ k => XS.icmpYes X57.here hx rfl (pc0 := 17) (pc' := 24) rfl (hb hby d_method_4_17) rfl (feq q2).2 (by decide) (by decide) k) ?_
  refine og (fun _ k => XS.iconst X57.here hx rfl (hb hby d_method_4_24) k) ?_
  show OGo p e below _ T57 (mkF m 25 #[.val (.int x), .val (.int (Int32.ofNat (i)))] [(.int (0 : Int32))])
  exact OGo.retP X57 hx hZ56 (own_hEL hw) hs0 e57 hS56 hk56 H56 R56 (t := .boolean) hret hlk rfl (Or.inl ⟨rfl, by simp, _, rfl⟩) (hb hby d_method_4_25) (by decide) (by decide) ⟨by rw [if_neg (fun h => h.elim q1 q2)], N0, KK56, a54, d54, _, ⟨(A54.ext E56), (C54.ext E56), (F54.ext E56), (LV54.ext E56)⟩, (Lit.stays (s := s) (vm0 := T56.vm) (show Lit (s.setVm T56.vm) _ _ _ from (Lit.stays (s := s) (vm0 := T54.vm) Li54 WW56)) X57.warmed.wide)⟩
theorem opl_rm_ciB : plainFor (⟨"com/example/provisa/provisa/server/BearerTokensPresentedTokenPinLaw", "ci", "(CI)Z"⟩ : MethodName) = true := plainFor_of_name (by first | (simp [plainName, overriddenIn]; done) | decide +kernel)
theorem rm_ciB (l : Launch) (Z : State) (a0 : Array Value) (hw : ∀ d ∈ tables_1, d.before a0 Z = true) (ws : List Jvm.Cond) (x : Int32) (i : Nat) (a9 d9 : Addr) (k9 : ClassId) (zc : Int32) (wf : Value) (n0 : Nat) (h0 : Heap) (SS : own_SS Z zc wf) (O : Old Z n0 h0) (hi : i < 6) (I9 : STI Z h0 a9 d9 k9 own_l9) :
    ConP l Z own_EL (⟨"com/example/provisa/provisa/server/BearerTokensPresentedTokenPinLaw", "ci", "(CI)Z"⟩ : MethodName) method_4_code 2 (some .boolean) ws ({ frames := 4, cells := 2, slots := 28, locals := 54 } : Room) #[(.int x), (.int (Int32.ofNat (i)))] h0 (fun vm => Lit (Z.setVm vm) "com/example/provisa/provisa/server/BearerTokensPresentedTokenPinLaw" 9 a9) (fun v h L vm => v = some (.int (if own_cib i x then 1 else 0)) ∧ Fr n0 L ∧ Keep h0 h []) := by
  refine ConP.intro opl_rm_ciB ?_
  intro p e s m below meth c s₁ hx hby hml hown hret hlk hZ hnm X0 e0 hs0 hS0 H0 R0 hPv
  have SS' := SS
  obtain ⟨hzc, SC, hwf, SF⟩ := SS
  have Z0 : n0 ≤ h0.size := O.1 ▸ O.2.1
  have N0 := Fr.nil n0
  obtain ⟨I9E, I9C, I9F, I9V⟩ := I9
  refine OGo.cast (g' := (mkF m 0 #[.val (.int x), .val (.int (Int32.ofNat (i)))] [])) (by first | (simp [entryFrame, mkF, argsToLocals, Value.category]; done) | rfl) ?_
  refine og (fun _ k => XS.iloadN X0.here hx rfl (hb hby d_method_4_0) rfl k) ?_
  refine og (ldcAgain X0 hx hZ hown (own_g hw 10 rfl) (show Lit (s.setVm s.vm) _ _ _ from hPv) (g := (mkF m 1 #[.val (.int x), .val (.int (Int32.ofNat (i)))] [(.int x)])) rfl (hb hby d_method_4_1)) ?_
  refine og (fun _ k => XS.iloadN X0.here hx rfl (hb hby d_method_4_3) rfl k) ?_
  obtain ⟨v58, T58, L58, X58, hQ58, st58⟩ := vcall X0 hx hZ hown (own_g hw 18 rfl) (own_g hw 19 rfl) (own_g hw 21 rfl) rfl (own_g hw 21 rfl) (own_g hw 20 rfl) (own_g hw 11 rfl) (own_g hw 22 rfl) (by decide) (W := 1) (rm_charAt l Z a0 hw [] a9 d9 k9 own_l9 (Int32.ofNat i) (own_lows.getD i 0) zc wf n0 h0 SS' O ⟨I9E, I9C, I9F, I9V⟩ (own_nn (by omega)) ((own_lt (b := 6) (by omega) (by decide)).mpr (by omega)) (by rw [own_cl (by omega)]; exact own_at9 hi)) e0 (by decide) (by decide) (by decide) (by decide) (g := (mkF m 4 #[.val (.int x), .val (.int (Int32.ofNat (i)))] [(.int (Int32.ofNat (i))), (.ref a9), (.int x)])) rfl (by rw [hml]; rfl) I9E (argsL := [(.int (Int32.ofNat (i)))]) (rest := [(.int x)]) opd_10 rfl rfl rfl (by show 2 * 0 + _ ≤ _; exact Nat.le_of_eq rfl) (hb hby d_method_4_4)
  obtain ⟨rfl, rfl, e58⟩ := hQ58
  rw [List.append_nil] at X58
  refine og st58 ?_
  show OGo p e below _ T58 (mkF m 7 #[.val (.int x), .val (.int (Int32.ofNat (i)))] [(.int ((own_lows.getD i 0) &&& 255)), (.int x)])
  rw [own_m9 hi]
  by_cases q1 : x = own_lows.getD i 0
  case pos =>
    show OGo p e below _ T58 (mkF m 7 #[.val (.int x), .val (.int (Int32.ofNat (i)))] [(.int (own_lows.getD i 0)), (.int x)])
    refine og (fun _ k => XS.icmpYes X58.here hx rfl (pc0 := 7) (pc' := 20) rfl (hb hby d_method_4_7) rfl (teq q1).1 (by decide) (by decide) k) ?_
    refine og (fun _ k => XS.iconst X58.here hx rfl (hb hby d_method_4_20) k) ?_
    refine og (fun _ k => XS.goto X58.here hx rfl (pc0 := 21) (pc' := 25) rfl (hb hby d_method_4_21) (by decide) (by decide) k) ?_
    show OGo p e below _ T58 (mkF m 25 #[.val (.int x), .val (.int (Int32.ofNat (i)))] [(.int (1 : Int32))])
    exact OGo.retP X58 hx hZ (own_hEL hw) hs0 e58 hS0 (Nat.zero_le _) H0 R0 (t := .boolean) hret hlk rfl (Or.inl ⟨rfl, by simp, _, rfl⟩) (hb hby d_method_4_25) (by decide) (by decide) ⟨by rw [if_pos (Or.inl q1)], N0, (Keep.refl h0 [])⟩
  show OGo p e below _ T58 (mkF m 7 #[.val (.int x), .val (.int (Int32.ofNat (i)))] [(.int (own_lows.getD i 0)), (.int x)])
  refine og (fun _ k => XS.icmpNo X58.here hx rfl (hb hby d_method_4_7) rfl (feq q1).1 k) ?_
  refine og (fun _ k => XS.iloadN X58.here hx rfl (hb hby d_method_4_10) rfl k) ?_
  obtain ⟨a59, T59, h59, kk59, d59, kd59, X59, e59, E59, hS59, hk59, hZ59, hown59, A59, C59, F59, V59, lt59, ltd59, CR59, Li59, sf59, WW59, st59⟩ := own_ldcW X58 hx hZ hown (own_g hw 99 rfl) (own_wS hw) e58 hS0 (Nat.zero_le _) (own_hEL hw) (List.mem_of_getElem? (i := 2) rfl) H0 (vs := [(.int (66 : Int32)), (.int (69 : Int32)), (.int (65 : Int32)), (.int (82 : Int32)), (.int (69 : Int32)), (.int (82 : Int32))]) (z := (6 : Int32)) (by decide) (by decide) (by decide) (g := (mkF m 11 #[.val (.int x), .val (.int (Int32.ofNat (i)))] [(.int x)])) rfl (hb hby d_method_4_11) (n := 24) (by decide) (by decide) (by decide) (by decide)
  have KK59 : Keep h0 h59 [] := (Keep.refl h0 []).ext E59
  have H59 := CR59.1
  have R59 := CHr.trans R0 CR59
  refine og st59 ?_
  have LV59 : Arv Z h59 d59 kd59 .byte (Int32.ofNat own_l17.length) own_l17 (.int (0 : Int32)) := V59
  refine og (fun _ k => XS.iloadN X59.here hx rfl (hb hby d_method_4_13) rfl k) ?_
  obtain ⟨v60, T60, L60, X60, hQ60, st60⟩ := vcall X59 hx hZ59 hown59 (own_g hw 18 rfl) (own_g hw 19 rfl) (own_g hw 21 rfl) rfl (own_g hw 21 rfl) (own_g hw 20 rfl) (own_g hw 11 rfl) (own_g hw 22 rfl) (by decide) (W := 1) (rm_charAt l Z a0 hw [] a59 d59 kd59 own_l17 (Int32.ofNat i) (own_ups.getD i 0) zc wf n0 h59 SS' (O.ext E59) ⟨A59, C59, F59, LV59⟩ (own_nn (by omega)) ((own_lt (b := 6) (by omega) (by decide)).mpr (by omega)) (by rw [own_cl (by omega)]; exact own_at17 hi)) e59 (by decide) (by decide) (by decide) (by decide) (g := (mkF m 14 #[.val (.int x), .val (.int (Int32.ofNat (i)))] [(.int (Int32.ofNat (i))), (.ref a59), (.int x)])) rfl (by rw [hml]; rfl) A59 (argsL := [(.int (Int32.ofNat (i)))]) (rest := [(.int x)]) opd_10 rfl rfl rfl (by show 2 * 0 + _ ≤ _; exact Nat.le_of_eq rfl) (hb hby d_method_4_14)
  obtain ⟨rfl, rfl, e60⟩ := hQ60
  rw [List.append_nil] at X60
  refine og st60 ?_
  show OGo p e below _ T60 (mkF m 17 #[.val (.int x), .val (.int (Int32.ofNat (i)))] [(.int ((own_ups.getD i 0) &&& 255)), (.int x)])
  rw [own_m17 hi]
  by_cases q2 : x = own_ups.getD i 0
  case pos =>
    show OGo p e below _ T60 (mkF m 17 #[.val (.int x), .val (.int (Int32.ofNat (i)))] [(.int (own_ups.getD i 0)), (.int x)])
    refine og (fun _ k => XS.icmpNo X60.here hx rfl (hb hby d_method_4_17) rfl (teq q2).2 k) ?_
    refine og (fun _ k => XS.iconst X60.here hx rfl (hb hby d_method_4_20) k) ?_
    refine og (fun _ k => XS.goto X60.here hx rfl (pc0 := 21) (pc' := 25) rfl (hb hby d_method_4_21) (by decide) (by decide) k) ?_
    show OGo p e below _ T60 (mkF m 25 #[.val (.int x), .val (.int (Int32.ofNat (i)))] [(.int (1 : Int32))])
    exact OGo.retP X60 hx hZ59 (own_hEL hw) hs0 e60 hS59 hk59 H59 R59 (t := .boolean) hret hlk rfl (Or.inl ⟨rfl, by simp, _, rfl⟩) (hb hby d_method_4_25) (by decide) (by decide) ⟨by rw [if_pos (Or.inr q2)], N0, KK59⟩
  show OGo p e below _ T60 (mkF m 17 #[.val (.int x), .val (.int (Int32.ofNat (i)))] [(.int (own_ups.getD i 0)), (.int x)])
  refine og (fun _ k => XS.icmpYes X60.here hx rfl (pc0 := 17) (pc' := 24) rfl (hb hby d_method_4_17) rfl (feq q2).2 (by decide) (by decide) k) ?_
  refine og (fun _ k => XS.iconst X60.here hx rfl (hb hby d_method_4_24) k) ?_
  show OGo p e below _ T60 (mkF m 25 #[.val (.int x), .val (.int (Int32.ofNat (i)))] [(.int (0 : Int32))])
  exact OGo.retP X60 hx hZ59 (own_hEL hw) hs0 e60 hS59 hk59 H59 R59 (t := .boolean) hret hlk rfl (Or.inl ⟨rfl, by simp, _, rfl⟩) (hb hby d_method_4_25) (by decide) (by decide) ⟨by rw [if_neg (fun h => h.elim q1 q2)], N0, KK59⟩
theorem d_method_3_0 : DK method_3_code 0 (.iload_n 0) 1 := by decide +kernel
theorem d_method_3_1 : DK method_3_code 1 (.bipush 32) 2 := by decide +kernel
theorem d_method_3_3 : DK method_3_code 3 (.if_icmp .eq 27) 3 := by decide +kernel
theorem d_method_3_30 : DK method_3_code 30 (.iconst 1) 1 := by decide +kernel
theorem d_method_3_31 : DK method_3_code 31 (.goto 4) 3 := by decide +kernel
theorem d_method_3_35 : DK method_3_code 35 .ireturn 1 := by decide +kernel
theorem d_method_3_6 : DK method_3_code 6 (.iload_n 0) 1 := by decide +kernel
theorem d_method_3_7 : DK method_3_code 7 (.bipush 9) 2 := by decide +kernel
theorem d_method_3_9 : DK method_3_code 9 (.if_icmp .lt 9) 3 := by decide +kernel
theorem d_method_3_18 : DK method_3_code 18 (.iload_n 0) 1 := by decide +kernel
theorem d_method_3_19 : DK method_3_code 19 (.bipush 28) 2 := by decide +kernel
theorem d_method_3_21 : DK method_3_code 21 (.if_icmp .lt 13) 3 := by decide +kernel
theorem d_method_3_34 : DK method_3_code 34 (.iconst 0) 1 := by decide +kernel
theorem d_method_3_24 : DK method_3_code 24 (.iload_n 0) 1 := by decide +kernel
theorem d_method_3_25 : DK method_3_code 25 (.bipush 31) 2 := by decide +kernel
theorem d_method_3_27 : DK method_3_code 27 (.if_icmp .gt 7) 3 := by decide +kernel
theorem d_method_3_12 : DK method_3_code 12 (.iload_n 0) 1 := by decide +kernel
theorem d_method_3_13 : DK method_3_code 13 (.bipush 13) 2 := by decide +kernel
theorem d_method_3_15 : DK method_3_code 15 (.if_icmp .le 15) 3 := by decide +kernel
theorem opl_rm_ws : plainFor (⟨"com/example/provisa/provisa/server/BearerTokensPresentedTokenPinLaw", "ws", "(C)Z"⟩ : MethodName) = true := plainFor_of_name (by first | (simp [plainName, overriddenIn]; done) | decide +kernel)
theorem rm_ws (l : Launch) (Z : State) (a0 : Array Value) (hw : ∀ d ∈ tables_1, d.before a0 Z = true) (ws : List Jvm.Cond) (x : Int32) (h0 : Heap)  :
    Con l Z (⟨"com/example/provisa/provisa/server/BearerTokensPresentedTokenPinLaw", "ws", "(C)Z"⟩ : MethodName) method_3_code 1 (some .boolean) ws ({ frames := 0, cells := 0, slots := 0, locals := 0 } : Room) #[(.int x)] h0 (fun v h L => v = some (.int (if own_wsb x then 1 else 0)) ∧ L = [] ∧ h = h0) := by
  refine Con.intro opl_rm_ws ?_
  intro p e s m below meth c s₁ hx hby hml hown hret hlk hZ hnm X0 e0
  refine OGo.cast (g' := (mkF m 0 #[.val (.int x)] [])) (by first | (simp [entryFrame, mkF, argsToLocals, Value.category]; done) | rfl) ?_
  refine og (fun _ k => XS.iloadN X0.here hx rfl (hb hby d_method_3_0) rfl k) ?_
  refine og (fun _ k => XS.bipush X0.here hx rfl (hb hby d_method_3_1) k) ?_
  by_cases q1 : x = 32
  case pos =>
    show OGo p e below _ s₁ (mkF m 3 #[.val (.int x)] [(.int (32 : Int32)), (.int x)])
    refine og (fun _ k => XS.icmpYes X0.here hx rfl (pc0 := 3) (pc' := 30) rfl (hb hby d_method_3_3) rfl (teq q1).1 (by decide) (by decide) k) ?_
    refine og (fun _ k => XS.iconst X0.here hx rfl (hb hby d_method_3_30) k) ?_
    refine og (fun _ k => XS.goto X0.here hx rfl (pc0 := 31) (pc' := 35) rfl (hb hby d_method_3_31) (by decide) (by decide) k) ?_
    show OGo p e below _ s₁ (mkF m 35 #[.val (.int x)] [(.int (1 : Int32))])
    exact OGo.ret X0 hx (t := .boolean) hret hlk rfl (Or.inl ⟨rfl, by simp, _, rfl⟩) (hb hby d_method_3_35) (by decide) (by decide) ⟨by rw [show own_wsb x = true from (by unfold own_wsb; simp [q1])]; rfl, rfl, e0⟩
  show OGo p e below _ s₁ (mkF m 3 #[.val (.int x)] [(.int (32 : Int32)), (.int x)])
  refine og (fun _ k => XS.icmpNo X0.here hx rfl (hb hby d_method_3_3) rfl (feq q1).1 k) ?_
  refine og (fun _ k => XS.iloadN X0.here hx rfl (hb hby d_method_3_6) rfl k) ?_
  refine og (fun _ k => XS.bipush X0.here hx rfl (hb hby d_method_3_7) k) ?_
  by_cases q2 : x < 9
  case pos =>
    show OGo p e below _ s₁ (mkF m 9 #[.val (.int x)] [(.int (9 : Int32)), (.int x)])
    refine og (fun _ k => XS.icmpYes X0.here hx rfl (pc0 := 9) (pc' := 18) rfl (hb hby d_method_3_9) rfl (tlt q2).1 (by decide) (by decide) k) ?_
    refine og (fun _ k => XS.iloadN X0.here hx rfl (hb hby d_method_3_18) rfl k) ?_
    refine og (fun _ k => XS.bipush X0.here hx rfl (hb hby d_method_3_19) k) ?_
    by_cases q4 : x < 28
    case pos =>
      show OGo p e below _ s₁ (mkF m 21 #[.val (.int x)] [(.int (28 : Int32)), (.int x)])
      refine og (fun _ k => XS.icmpYes X0.here hx rfl (pc0 := 21) (pc' := 34) rfl (hb hby d_method_3_21) rfl (tlt q4).1 (by decide) (by decide) k) ?_
      refine og (fun _ k => XS.iconst X0.here hx rfl (hb hby d_method_3_34) k) ?_
      show OGo p e below _ s₁ (mkF m 35 #[.val (.int x)] [(.int (0 : Int32))])
      exact OGo.ret X0 hx (t := .boolean) hret hlk rfl (Or.inl ⟨rfl, by simp, _, rfl⟩) (hb hby d_method_3_35) (by decide) (by decide) ⟨by rw [show own_wsb x = false from (by unfold own_wsb; simp [q1, q2, q4])]; rfl, rfl, e0⟩
    show OGo p e below _ s₁ (mkF m 21 #[.val (.int x)] [(.int (28 : Int32)), (.int x)])
    refine og (fun _ k => XS.icmpNo X0.here hx rfl (hb hby d_method_3_21) rfl (flt q4).1 k) ?_
    refine og (fun _ k => XS.iloadN X0.here hx rfl (hb hby d_method_3_24) rfl k) ?_
    refine og (fun _ k => XS.bipush X0.here hx rfl (hb hby d_method_3_25) k) ?_
    by_cases q5 : (31 : Int32) < x
    case pos =>
      show OGo p e below _ s₁ (mkF m 27 #[.val (.int x)] [(.int (31 : Int32)), (.int x)])
      refine og (fun _ k => XS.icmpYes X0.here hx rfl (pc0 := 27) (pc' := 34) rfl (hb hby d_method_3_27) rfl (tlt q5).2.2.1 (by decide) (by decide) k) ?_
      refine og (fun _ k => XS.iconst X0.here hx rfl (hb hby d_method_3_34) k) ?_
      show OGo p e below _ s₁ (mkF m 35 #[.val (.int x)] [(.int (0 : Int32))])
      exact OGo.ret X0 hx (t := .boolean) hret hlk rfl (Or.inl ⟨rfl, by simp, _, rfl⟩) (hb hby d_method_3_35) (by decide) (by decide) ⟨by rw [show own_wsb x = false from (by unfold own_wsb; simp [q1, q2, q4, q5])]; rfl, rfl, e0⟩
    show OGo p e below _ s₁ (mkF m 27 #[.val (.int x)] [(.int (31 : Int32)), (.int x)])
    refine og (fun _ k => XS.icmpNo X0.here hx rfl (hb hby d_method_3_27) rfl (flt q5).2.2.1 k) ?_
    refine og (fun _ k => XS.iconst X0.here hx rfl (hb hby d_method_3_30) k) ?_
    refine og (fun _ k => XS.goto X0.here hx rfl (pc0 := 31) (pc' := 35) rfl (hb hby d_method_3_31) (by decide) (by decide) k) ?_
    show OGo p e below _ s₁ (mkF m 35 #[.val (.int x)] [(.int (1 : Int32))])
    exact OGo.ret X0 hx (t := .boolean) hret hlk rfl (Or.inl ⟨rfl, by simp, _, rfl⟩) (hb hby d_method_3_35) (by decide) (by decide) ⟨by rw [show own_wsb x = true from (by unfold own_wsb; simp [q4, q5])]; rfl, rfl, e0⟩
  show OGo p e below _ s₁ (mkF m 9 #[.val (.int x)] [(.int (9 : Int32)), (.int x)])
  refine og (fun _ k => XS.icmpNo X0.here hx rfl (hb hby d_method_3_9) rfl (flt q2).1 k) ?_
  refine og (fun _ k => XS.iloadN X0.here hx rfl (hb hby d_method_3_12) rfl k) ?_
  refine og (fun _ k => XS.bipush X0.here hx rfl (hb hby d_method_3_13) k) ?_
  by_cases q3 : (13 : Int32) < x
  case pos =>
    show OGo p e below _ s₁ (mkF m 15 #[.val (.int x)] [(.int (13 : Int32)), (.int x)])
    refine og (fun _ k => XS.icmpNo X0.here hx rfl (hb hby d_method_3_15) rfl (tlt q3).2.2.2 k) ?_
    refine og (fun _ k => XS.iloadN X0.here hx rfl (hb hby d_method_3_18) rfl k) ?_
    refine og (fun _ k => XS.bipush X0.here hx rfl (hb hby d_method_3_19) k) ?_
    by_cases q4 : x < 28
    case pos =>
      show OGo p e below _ s₁ (mkF m 21 #[.val (.int x)] [(.int (28 : Int32)), (.int x)])
      refine og (fun _ k => XS.icmpYes X0.here hx rfl (pc0 := 21) (pc' := 34) rfl (hb hby d_method_3_21) rfl (tlt q4).1 (by decide) (by decide) k) ?_
      refine og (fun _ k => XS.iconst X0.here hx rfl (hb hby d_method_3_34) k) ?_
      show OGo p e below _ s₁ (mkF m 35 #[.val (.int x)] [(.int (0 : Int32))])
      exact OGo.ret X0 hx (t := .boolean) hret hlk rfl (Or.inl ⟨rfl, by simp, _, rfl⟩) (hb hby d_method_3_35) (by decide) (by decide) ⟨by rw [show own_wsb x = false from (by unfold own_wsb; simp [q1, q2, q3, q4])]; rfl, rfl, e0⟩
    show OGo p e below _ s₁ (mkF m 21 #[.val (.int x)] [(.int (28 : Int32)), (.int x)])
    refine og (fun _ k => XS.icmpNo X0.here hx rfl (hb hby d_method_3_21) rfl (flt q4).1 k) ?_
    refine og (fun _ k => XS.iloadN X0.here hx rfl (hb hby d_method_3_24) rfl k) ?_
    refine og (fun _ k => XS.bipush X0.here hx rfl (hb hby d_method_3_25) k) ?_
    by_cases q5 : (31 : Int32) < x
    case pos =>
      show OGo p e below _ s₁ (mkF m 27 #[.val (.int x)] [(.int (31 : Int32)), (.int x)])
      refine og (fun _ k => XS.icmpYes X0.here hx rfl (pc0 := 27) (pc' := 34) rfl (hb hby d_method_3_27) rfl (tlt q5).2.2.1 (by decide) (by decide) k) ?_
      refine og (fun _ k => XS.iconst X0.here hx rfl (hb hby d_method_3_34) k) ?_
      show OGo p e below _ s₁ (mkF m 35 #[.val (.int x)] [(.int (0 : Int32))])
      exact OGo.ret X0 hx (t := .boolean) hret hlk rfl (Or.inl ⟨rfl, by simp, _, rfl⟩) (hb hby d_method_3_35) (by decide) (by decide) ⟨by rw [show own_wsb x = false from (by unfold own_wsb; simp [q1, q2, q3, q4, q5])]; rfl, rfl, e0⟩
    show OGo p e below _ s₁ (mkF m 27 #[.val (.int x)] [(.int (31 : Int32)), (.int x)])
    refine og (fun _ k => XS.icmpNo X0.here hx rfl (hb hby d_method_3_27) rfl (flt q5).2.2.1 k) ?_
    refine og (fun _ k => XS.iconst X0.here hx rfl (hb hby d_method_3_30) k) ?_
    refine og (fun _ k => XS.goto X0.here hx rfl (pc0 := 31) (pc' := 35) rfl (hb hby d_method_3_31) (by decide) (by decide) k) ?_
    show OGo p e below _ s₁ (mkF m 35 #[.val (.int x)] [(.int (1 : Int32))])
    exact OGo.ret X0 hx (t := .boolean) hret hlk rfl (Or.inl ⟨rfl, by simp, _, rfl⟩) (hb hby d_method_3_35) (by decide) (by decide) ⟨by rw [show own_wsb x = true from (by unfold own_wsb; simp [q4, q5])]; rfl, rfl, e0⟩
  show OGo p e below _ s₁ (mkF m 15 #[.val (.int x)] [(.int (13 : Int32)), (.int x)])
  refine og (fun _ k => XS.icmpYes X0.here hx rfl (pc0 := 15) (pc' := 30) rfl (hb hby d_method_3_15) rfl (flt q3).2.2.2 (by decide) (by decide) k) ?_
  refine og (fun _ k => XS.iconst X0.here hx rfl (hb hby d_method_3_30) k) ?_
  refine og (fun _ k => XS.goto X0.here hx rfl (pc0 := 31) (pc' := 35) rfl (hb hby d_method_3_31) (by decide) (by decide) k) ?_
  show OGo p e below _ s₁ (mkF m 35 #[.val (.int x)] [(.int (1 : Int32))])
  exact OGo.ret X0 hx (t := .boolean) hret hlk rfl (Or.inl ⟨rfl, by simp, _, rfl⟩) (hb hby d_method_3_35) (by decide) (by decide) ⟨by rw [show own_wsb x = true from (by unfold own_wsb; simp [q2, q3])]; rfl, rfl, e0⟩
theorem d116_22_0 : DK jdk_116_method_22_code 0 (.iload_n 0) 1 := by decide +kernel
theorem d116_22_1 : DK jdk_116_method_22_code 1 (.iload_n 1) 1 := by decide +kernel
theorem d116_22_2 : DK jdk_116_method_22_code 2 (.if_icmp .ne 5) 3 := by decide +kernel
theorem d116_22_5 : DK jdk_116_method_22_code 5 (.iconst 1) 1 := by decide +kernel
theorem d116_22_6 : DK jdk_116_method_22_code 6 .ireturn 1 := by decide +kernel
theorem d116_22_7 : DK jdk_116_method_22_code 7 (.iload_n 0) 1 := by decide +kernel
theorem d116_22_8 : DK jdk_116_method_22_code 8 (.sipush 223) 3 := by decide +kernel
theorem d116_22_11 : DK jdk_116_method_22_code 11 .iand 1 := by decide +kernel
theorem d116_22_12 : DK jdk_116_method_22_code 12 (.istore_n 2) 1 := by decide +kernel
theorem d116_22_13 : DK jdk_116_method_22_code 13 (.iload_n 2) 1 := by decide +kernel
theorem d116_22_14 : DK jdk_116_method_22_code 14 (.bipush 65) 2 := by decide +kernel
theorem d116_22_16 : DK jdk_116_method_22_code 16 (.if_icmp .ge 5) 3 := by decide +kernel
theorem d116_22_21 : DK jdk_116_method_22_code 21 (.iload_n 2) 1 := by decide +kernel
theorem d116_22_22 : DK jdk_116_method_22_code 22 (.bipush 90) 2 := by decide +kernel
theorem d116_22_24 : DK jdk_116_method_22_code 24 (.if_icmp .le 24) 3 := by decide +kernel
theorem d116_22_48 : DK jdk_116_method_22_code 48 (.iload_n 2) 1 := by decide +kernel
theorem d116_22_49 : DK jdk_116_method_22_code 49 (.iload_n 1) 1 := by decide +kernel
theorem d116_22_50 : DK jdk_116_method_22_code 50 (.sipush 223) 3 := by decide +kernel
theorem d116_22_53 : DK jdk_116_method_22_code 53 .iand 1 := by decide +kernel
theorem d116_22_54 : DK jdk_116_method_22_code 54 (.if_icmp .ne 7) 3 := by decide +kernel
theorem d116_22_57 : DK jdk_116_method_22_code 57 (.iconst 1) 1 := by decide +kernel
theorem d116_22_58 : DK jdk_116_method_22_code 58 (.goto 4) 3 := by decide +kernel
theorem d116_22_62 : DK jdk_116_method_22_code 62 .ireturn 1 := by decide +kernel
theorem d116_22_19 : DK jdk_116_method_22_code 19 (.iconst 0) 1 := by decide +kernel
theorem d116_22_20 : DK jdk_116_method_22_code 20 .ireturn 1 := by decide +kernel
theorem d116_22_27 : DK jdk_116_method_22_code 27 (.iload_n 2) 1 := by decide +kernel
theorem d116_22_28 : DK jdk_116_method_22_code 28 (.sipush 192) 3 := by decide +kernel
theorem d116_22_31 : DK jdk_116_method_22_code 31 (.if_icmp .lt 30) 3 := by decide +kernel
theorem d116_22_61 : DK jdk_116_method_22_code 61 (.iconst 0) 1 := by decide +kernel
theorem d116_22_34 : DK jdk_116_method_22_code 34 (.iload_n 2) 1 := by decide +kernel
theorem d116_22_35 : DK jdk_116_method_22_code 35 (.sipush 222) 3 := by decide +kernel
theorem d116_22_38 : DK jdk_116_method_22_code 38 (.if_icmp .gt 23) 3 := by decide +kernel
theorem d116_22_41 : DK jdk_116_method_22_code 41 (.iload_n 2) 1 := by decide +kernel
theorem d116_22_42 : DK jdk_116_method_22_code 42 (.sipush 215) 3 := by decide +kernel
theorem d116_22_45 : DK jdk_116_method_22_code 45 (.if_icmp .eq 16) 3 := by decide +kernel
theorem opl_rm_eic : plainFor (⟨"java/lang/CharacterDataLatin1", "equalsIgnoreCase", "(BB)Z"⟩ : MethodName) = true := plainFor_of_name (by first | (simp [plainName, overriddenIn]; done) | decide +kernel)
theorem rm_eic (l : Launch) (Z : State) (a0 : Array Value) (hw : ∀ d ∈ tables_1, d.before a0 Z = true) (ws : List Jvm.Cond) (b1 b2 : Int32) (h0 : Heap) (hb2 : ¬ (b2 &&& 223) < 65 ∧ ¬ (90 : Int32) < (b2 &&& 223)) :
    Con l Z (⟨"java/lang/CharacterDataLatin1", "equalsIgnoreCase", "(BB)Z"⟩ : MethodName) jdk_116_method_22_code 3 (some .boolean) ws ({ frames := 0, cells := 0, slots := 0, locals := 0 } : Room) #[(.int b1), (.int b2)] h0 (fun v h L => v = some (.int (if b1 = b2 ∨ (b1 &&& 223) = (b2 &&& 223) then 1 else 0)) ∧ L = [] ∧ h = h0) := by
  refine Con.intro opl_rm_eic ?_
  intro p e s m below meth c s₁ hx hby hml hown hret hlk hZ hnm X0 e0
  refine OGo.cast (g' := (mkF m 0 #[.val (.int b1), .val (.int b2), .unset] [])) (by first | (simp [entryFrame, mkF, argsToLocals, Value.category]; done) | rfl) ?_
  refine og (fun _ k => XS.iloadN X0.here hx rfl (hb hby d116_22_0) rfl k) ?_
  refine og (fun _ k => XS.iloadN X0.here hx rfl (hb hby d116_22_1) rfl k) ?_
  by_cases q1 : b1 = b2
  case pos =>
    show OGo p e below _ s₁ (mkF m 2 #[.val (.int b1), .val (.int b2), .unset] [(.int b2), (.int b1)])
    refine og (fun _ k => XS.icmpNo X0.here hx rfl (hb hby d116_22_2) rfl (teq q1).2 k) ?_
    refine og (fun _ k => XS.iconst X0.here hx rfl (hb hby d116_22_5) k) ?_
    show OGo p e below _ s₁ (mkF m 6 #[.val (.int b1), .val (.int b2), .unset] [(.int (1 : Int32))])
    exact OGo.ret X0 hx (t := .boolean) hret hlk rfl (Or.inl ⟨rfl, by simp, _, rfl⟩) (hb hby d116_22_6) (by decide) (by decide) ⟨by rw [if_pos (Or.inl q1)], rfl, e0⟩
  show OGo p e below _ s₁ (mkF m 2 #[.val (.int b1), .val (.int b2), .unset] [(.int b2), (.int b1)])
  refine og (fun _ k => XS.icmpYes X0.here hx rfl (pc0 := 2) (pc' := 7) rfl (hb hby d116_22_2) rfl (feq q1).2 (by decide) (by decide) k) ?_
  refine og (fun _ k => XS.iloadN X0.here hx rfl (hb hby d116_22_7) rfl k) ?_
  refine og (fun _ k => XS.sipush X0.here hx rfl (hb hby d116_22_8) k) ?_
  refine og (fun _ k => XS.iand X0.here hx rfl (hb hby d116_22_11) rfl k) ?_
  refine og (fun _ k => XS.istoreN X0.here hx rfl (hb hby d116_22_12) rfl (l' := #[.val (.int b1), .val (.int b2), .val (.int (b1 &&& (223 : Int32)))]) rfl k) ?_
  refine og (fun _ k => XS.iloadN X0.here hx rfl (hb hby d116_22_13) rfl k) ?_
  refine og (fun _ k => XS.bipush X0.here hx rfl (hb hby d116_22_14) k) ?_
  by_cases q2 : (b1 &&& 223) = (b2 &&& 223)
  case pos =>
    show OGo p e below _ s₁ (mkF m 16 #[.val (.int b1), .val (.int b2), .val (.int (b1 &&& (223 : Int32)))] [(.int (65 : Int32)), (.int (b1 &&& (223 : Int32)))])
    refine og (fun _ k => XS.icmpYes X0.here hx rfl (pc0 := 16) (pc' := 21) rfl (hb hby d116_22_16) rfl (flt (by rw [q2]; exact hb2.1)).2.1 (by decide) (by decide) k) ?_
    refine og (fun _ k => XS.iloadN X0.here hx rfl (hb hby d116_22_21) rfl k) ?_
    refine og (fun _ k => XS.bipush X0.here hx rfl (hb hby d116_22_22) k) ?_
    show OGo p e below _ s₁ (mkF m 24 #[.val (.int b1), .val (.int b2), .val (.int (b1 &&& (223 : Int32)))] [(.int (90 : Int32)), (.int (b1 &&& (223 : Int32)))])
    refine og (fun _ k => XS.icmpYes X0.here hx rfl (pc0 := 24) (pc' := 48) rfl (hb hby d116_22_24) rfl (flt (by rw [q2]; exact hb2.2)).2.2.2 (by decide) (by decide) k) ?_
    refine og (fun _ k => XS.iloadN X0.here hx rfl (hb hby d116_22_48) rfl k) ?_
    refine og (fun _ k => XS.iloadN X0.here hx rfl (hb hby d116_22_49) rfl k) ?_
    refine og (fun _ k => XS.sipush X0.here hx rfl (hb hby d116_22_50) k) ?_
    refine og (fun _ k => XS.iand X0.here hx rfl (hb hby d116_22_53) rfl k) ?_
    show OGo p e below _ s₁ (mkF m 54 #[.val (.int b1), .val (.int b2), .val (.int (b1 &&& (223 : Int32)))] [(.int (b2 &&& (223 : Int32))), (.int (b1 &&& (223 : Int32)))])
    refine og (fun _ k => XS.icmpNo X0.here hx rfl (hb hby d116_22_54) rfl (teq q2).2 k) ?_
    refine og (fun _ k => XS.iconst X0.here hx rfl (hb hby d116_22_57) k) ?_
    refine og (fun _ k => XS.goto X0.here hx rfl (pc0 := 58) (pc' := 62) rfl (hb hby d116_22_58) (by decide) (by decide) k) ?_
    show OGo p e below _ s₁ (mkF m 62 #[.val (.int b1), .val (.int b2), .val (.int (b1 &&& (223 : Int32)))] [(.int (1 : Int32))])
    exact OGo.ret X0 hx (t := .boolean) hret hlk rfl (Or.inl ⟨rfl, by simp, _, rfl⟩) (hb hby d116_22_62) (by decide) (by decide) ⟨by rw [if_pos (Or.inr q2)], rfl, e0⟩
  by_cases a1 : (b1 &&& (223 : Int32)) < 65
  case pos =>
    show OGo p e below _ s₁ (mkF m 16 #[.val (.int b1), .val (.int b2), .val (.int (b1 &&& (223 : Int32)))] [(.int (65 : Int32)), (.int (b1 &&& (223 : Int32)))])
    refine og (fun _ k => XS.icmpNo X0.here hx rfl (hb hby d116_22_16) rfl (tlt a1).2.1 k) ?_
    refine og (fun _ k => XS.iconst X0.here hx rfl (hb hby d116_22_19) k) ?_
    show OGo p e below _ s₁ (mkF m 20 #[.val (.int b1), .val (.int b2), .val (.int (b1 &&& (223 : Int32)))] [(.int (0 : Int32))])
    exact OGo.ret X0 hx (t := .boolean) hret hlk rfl (Or.inl ⟨rfl, by simp, _, rfl⟩) (hb hby d116_22_20) (by decide) (by decide) ⟨by rw [if_neg (fun h => h.elim q1 q2)], rfl, e0⟩
  show OGo p e below _ s₁ (mkF m 16 #[.val (.int b1), .val (.int b2), .val (.int (b1 &&& (223 : Int32)))] [(.int (65 : Int32)), (.int (b1 &&& (223 : Int32)))])
  refine og (fun _ k => XS.icmpYes X0.here hx rfl (pc0 := 16) (pc' := 21) rfl (hb hby d116_22_16) rfl (flt a1).2.1 (by decide) (by decide) k) ?_
  refine og (fun _ k => XS.iloadN X0.here hx rfl (hb hby d116_22_21) rfl k) ?_
  refine og (fun _ k => XS.bipush X0.here hx rfl (hb hby d116_22_22) k) ?_
  by_cases a2 : (90 : Int32) < (b1 &&& (223 : Int32))
  case pos =>
    show OGo p e below _ s₁ (mkF m 24 #[.val (.int b1), .val (.int b2), .val (.int (b1 &&& (223 : Int32)))] [(.int (90 : Int32)), (.int (b1 &&& (223 : Int32)))])
    refine og (fun _ k => XS.icmpNo X0.here hx rfl (hb hby d116_22_24) rfl (tlt a2).2.2.2 k) ?_
    refine og (fun _ k => XS.iloadN X0.here hx rfl (hb hby d116_22_27) rfl k) ?_
    refine og (fun _ k => XS.sipush X0.here hx rfl (hb hby d116_22_28) k) ?_
    by_cases a3 : (b1 &&& (223 : Int32)) < 192
    case pos =>
      show OGo p e below _ s₁ (mkF m 31 #[.val (.int b1), .val (.int b2), .val (.int (b1 &&& (223 : Int32)))] [(.int (192 : Int32)), (.int (b1 &&& (223 : Int32)))])
      refine og (fun _ k => XS.icmpYes X0.here hx rfl (pc0 := 31) (pc' := 61) rfl (hb hby d116_22_31) rfl (tlt a3).1 (by decide) (by decide) k) ?_
      refine og (fun _ k => XS.iconst X0.here hx rfl (hb hby d116_22_61) k) ?_
      show OGo p e below _ s₁ (mkF m 62 #[.val (.int b1), .val (.int b2), .val (.int (b1 &&& (223 : Int32)))] [(.int (0 : Int32))])
      exact OGo.ret X0 hx (t := .boolean) hret hlk rfl (Or.inl ⟨rfl, by simp, _, rfl⟩) (hb hby d116_22_62) (by decide) (by decide) ⟨by rw [if_neg (fun h => h.elim q1 q2)], rfl, e0⟩
    show OGo p e below _ s₁ (mkF m 31 #[.val (.int b1), .val (.int b2), .val (.int (b1 &&& (223 : Int32)))] [(.int (192 : Int32)), (.int (b1 &&& (223 : Int32)))])
    refine og (fun _ k => XS.icmpNo X0.here hx rfl (hb hby d116_22_31) rfl (flt a3).1 k) ?_
    refine og (fun _ k => XS.iloadN X0.here hx rfl (hb hby d116_22_34) rfl k) ?_
    refine og (fun _ k => XS.sipush X0.here hx rfl (hb hby d116_22_35) k) ?_
    by_cases a4 : (222 : Int32) < (b1 &&& (223 : Int32))
    case pos =>
      show OGo p e below _ s₁ (mkF m 38 #[.val (.int b1), .val (.int b2), .val (.int (b1 &&& (223 : Int32)))] [(.int (222 : Int32)), (.int (b1 &&& (223 : Int32)))])
      refine og (fun _ k => XS.icmpYes X0.here hx rfl (pc0 := 38) (pc' := 61) rfl (hb hby d116_22_38) rfl (tlt a4).2.2.1 (by decide) (by decide) k) ?_
      refine og (fun _ k => XS.iconst X0.here hx rfl (hb hby d116_22_61) k) ?_
      show OGo p e below _ s₁ (mkF m 62 #[.val (.int b1), .val (.int b2), .val (.int (b1 &&& (223 : Int32)))] [(.int (0 : Int32))])
      exact OGo.ret X0 hx (t := .boolean) hret hlk rfl (Or.inl ⟨rfl, by simp, _, rfl⟩) (hb hby d116_22_62) (by decide) (by decide) ⟨by rw [if_neg (fun h => h.elim q1 q2)], rfl, e0⟩
    show OGo p e below _ s₁ (mkF m 38 #[.val (.int b1), .val (.int b2), .val (.int (b1 &&& (223 : Int32)))] [(.int (222 : Int32)), (.int (b1 &&& (223 : Int32)))])
    refine og (fun _ k => XS.icmpNo X0.here hx rfl (hb hby d116_22_38) rfl (flt a4).2.2.1 k) ?_
    refine og (fun _ k => XS.iloadN X0.here hx rfl (hb hby d116_22_41) rfl k) ?_
    refine og (fun _ k => XS.sipush X0.here hx rfl (hb hby d116_22_42) k) ?_
    by_cases a5 : (b1 &&& (223 : Int32)) = 215
    case pos =>
      show OGo p e below _ s₁ (mkF m 45 #[.val (.int b1), .val (.int b2), .val (.int (b1 &&& (223 : Int32)))] [(.int (215 : Int32)), (.int (b1 &&& (223 : Int32)))])
      refine og (fun _ k => XS.icmpYes X0.here hx rfl (pc0 := 45) (pc' := 61) rfl (hb hby d116_22_45) rfl (teq a5).1 (by decide) (by decide) k) ?_
      refine og (fun _ k => XS.iconst X0.here hx rfl (hb hby d116_22_61) k) ?_
      show OGo p e below _ s₁ (mkF m 62 #[.val (.int b1), .val (.int b2), .val (.int (b1 &&& (223 : Int32)))] [(.int (0 : Int32))])
      exact OGo.ret X0 hx (t := .boolean) hret hlk rfl (Or.inl ⟨rfl, by simp, _, rfl⟩) (hb hby d116_22_62) (by decide) (by decide) ⟨by rw [if_neg (fun h => h.elim q1 q2)], rfl, e0⟩
    show OGo p e below _ s₁ (mkF m 45 #[.val (.int b1), .val (.int b2), .val (.int (b1 &&& (223 : Int32)))] [(.int (215 : Int32)), (.int (b1 &&& (223 : Int32)))])
    refine og (fun _ k => XS.icmpNo X0.here hx rfl (hb hby d116_22_45) rfl (feq a5).1 k) ?_
    refine og (fun _ k => XS.iloadN X0.here hx rfl (hb hby d116_22_48) rfl k) ?_
    refine og (fun _ k => XS.iloadN X0.here hx rfl (hb hby d116_22_49) rfl k) ?_
    refine og (fun _ k => XS.sipush X0.here hx rfl (hb hby d116_22_50) k) ?_
    refine og (fun _ k => XS.iand X0.here hx rfl (hb hby d116_22_53) rfl k) ?_
    show OGo p e below _ s₁ (mkF m 54 #[.val (.int b1), .val (.int b2), .val (.int (b1 &&& (223 : Int32)))] [(.int (b2 &&& (223 : Int32))), (.int (b1 &&& (223 : Int32)))])
    refine og (fun _ k => XS.icmpYes X0.here hx rfl (pc0 := 54) (pc' := 61) rfl (hb hby d116_22_54) rfl (feq q2).2 (by decide) (by decide) k) ?_
    refine og (fun _ k => XS.iconst X0.here hx rfl (hb hby d116_22_61) k) ?_
    show OGo p e below _ s₁ (mkF m 62 #[.val (.int b1), .val (.int b2), .val (.int (b1 &&& (223 : Int32)))] [(.int (0 : Int32))])
    exact OGo.ret X0 hx (t := .boolean) hret hlk rfl (Or.inl ⟨rfl, by simp, _, rfl⟩) (hb hby d116_22_62) (by decide) (by decide) ⟨by rw [if_neg (fun h => h.elim q1 q2)], rfl, e0⟩
  show OGo p e below _ s₁ (mkF m 24 #[.val (.int b1), .val (.int b2), .val (.int (b1 &&& (223 : Int32)))] [(.int (90 : Int32)), (.int (b1 &&& (223 : Int32)))])
  refine og (fun _ k => XS.icmpYes X0.here hx rfl (pc0 := 24) (pc' := 48) rfl (hb hby d116_22_24) rfl (flt a2).2.2.2 (by decide) (by decide) k) ?_
  refine og (fun _ k => XS.iloadN X0.here hx rfl (hb hby d116_22_48) rfl k) ?_
  refine og (fun _ k => XS.iloadN X0.here hx rfl (hb hby d116_22_49) rfl k) ?_
  refine og (fun _ k => XS.sipush X0.here hx rfl (hb hby d116_22_50) k) ?_
  refine og (fun _ k => XS.iand X0.here hx rfl (hb hby d116_22_53) rfl k) ?_
  show OGo p e below _ s₁ (mkF m 54 #[.val (.int b1), .val (.int b2), .val (.int (b1 &&& (223 : Int32)))] [(.int (b2 &&& (223 : Int32))), (.int (b1 &&& (223 : Int32)))])
  refine og (fun _ k => XS.icmpYes X0.here hx rfl (pc0 := 54) (pc' := 61) rfl (hb hby d116_22_54) rfl (feq q2).2 (by decide) (by decide) k) ?_
  refine og (fun _ k => XS.iconst X0.here hx rfl (hb hby d116_22_61) k) ?_
  show OGo p e below _ s₁ (mkF m 62 #[.val (.int b1), .val (.int b2), .val (.int (b1 &&& (223 : Int32)))] [(.int (0 : Int32))])
  exact OGo.ret X0 hx (t := .boolean) hret hlk rfl (Or.inl ⟨rfl, by simp, _, rfl⟩) (hb hby d116_22_62) (by decide) (by decide) ⟨by rw [if_neg (fun h => h.elim q1 q2)], rfl, e0⟩
theorem own_b8at {cs : List Int32} {i : Nat} {d : Value} (h : i < cs.length) : (own_b8 cs).getD i d = .int (cs.getD i 0).toInt8.toInt32 := by
  simp [own_b8, List.getD, h]
theorem own_okat {cs : List Int32} {i : Nat} (h : i < cs.length) (o : own_ok8 cs) : own_c8 (cs.getD i 0) := o _ (by simp [List.getD, h])
theorem own_eicx {x : Int32} {i : Nat} (h : own_c8 x) (hi : i < 6) : own_cib i x ↔ (x.toInt8.toInt32 = own_bea.getD i 0 ∨ (x.toInt8.toInt32 &&& 223) = (own_bea.getD i 0 &&& 223)) := by
  obtain ⟨n, hn, rfl⟩ := own_c8n h
  exact own_eic n hn i hi
abbrev own_bear (cs : List Int32) : Prop := own_cib 0 (cs.getD 0 0) ∧ own_cib 1 (cs.getD 1 0) ∧ own_cib 2 (cs.getD 2 0) ∧ own_cib 3 (cs.getD 3 0) ∧ own_cib 4 (cs.getD 4 0) ∧ own_cib 5 (cs.getD 5 0)
theorem d43_30_0 : DK jdk_43_method_30_code 0 (.iload_n 1) 1 := by decide +kernel
theorem d43_30_1 : DK jdk_43_method_30_code 1 (.iload 4) 2 := by decide +kernel
theorem d43_30_3 : DK jdk_43_method_30_code 3 .iadd 1 := by decide +kernel
theorem d43_30_4 : DK jdk_43_method_30_code 4 (.istore 5) 2 := by decide +kernel
theorem d43_30_6 : DK jdk_43_method_30_code 6 (.iload_n 1) 1 := by decide +kernel
theorem d43_30_7 : DK jdk_43_method_30_code 7 (.iload 5) 2 := by decide +kernel
theorem d43_30_9 : DK jdk_43_method_30_code 9 (.if_icmp .ge 34) 3 := by decide +kernel
theorem d43_30_12 : DK jdk_43_method_30_code 12 (.aload_n 0) 1 := by decide +kernel
theorem d43_30_13 : DK jdk_43_method_30_code 13 (.iload_n 1) 1 := by decide +kernel
theorem d43_30_14 : DK jdk_43_method_30_code 14 (.iinc 1 1) 3 := by decide +kernel
theorem d43_30_17 : DK jdk_43_method_30_code 17 .baload 1 := by decide +kernel
theorem d43_30_18 : DK jdk_43_method_30_code 18 (.istore 6) 2 := by decide +kernel
theorem d43_30_20 : DK jdk_43_method_30_code 20 (.aload_n 2) 1 := by decide +kernel
theorem d43_30_21 : DK jdk_43_method_30_code 21 (.iload_n 3) 1 := by decide +kernel
theorem d43_30_22 : DK jdk_43_method_30_code 22 (.iinc 3 1) 3 := by decide +kernel
theorem d43_30_25 : DK jdk_43_method_30_code 25 .baload 1 := by decide +kernel
theorem d43_30_26 : DK jdk_43_method_30_code 26 (.istore 7) 2 := by decide +kernel
theorem d43_30_28 : DK jdk_43_method_30_code 28 (.iload 6) 2 := by decide +kernel
theorem d43_30_30 : DK jdk_43_method_30_code 30 (.iload 7) 2 := by decide +kernel
theorem opd_11 : parseMethodDescriptor "(BB)Z" = some ⟨[.byte, .byte], some .boolean⟩ := by decide +kernel
theorem d43_30_32 : DK jdk_43_method_30_code 32 (.invokestatic 153) 3 := by decide +kernel
theorem d43_30_35 : DK jdk_43_method_30_code 35 (.ifCond .eq 6) 3 := by decide +kernel
theorem d43_30_41 : DK jdk_43_method_30_code 41 (.iconst 0) 1 := by decide +kernel
theorem d43_30_42 : DK jdk_43_method_30_code 42 .ireturn 1 := by decide +kernel
theorem d43_30_38 : DK jdk_43_method_30_code 38 (.goto (-32)) 3 := by decide +kernel
theorem d43_30_43 : DK jdk_43_method_30_code 43 (.iconst 1) 1 := by decide +kernel
theorem d43_30_44 : DK jdk_43_method_30_code 44 .ireturn 1 := by decide +kernel
theorem opl_rm_rmci : plainFor (⟨"java/lang/StringLatin1", "regionMatchesCI", "([BI[BII)Z"⟩ : MethodName) = true := plainFor_of_name (by first | (simp [plainName, overriddenIn]; done) | decide +kernel)
theorem rm_rmci (l : Launch) (Z : State) (a0 : Array Value) (hw : ∀ d ∈ tables_1, d.before a0 Z = true) (ws : List Jvm.Cond) (d1 d2 : Addr) (k1 k2 : ClassId) (cs : List Int32) (h0 : Heap) (V1 : Arv Z h0 d1 k1 .byte (Int32.ofNat cs.length) (own_b8 cs) (.int (0 : Int32))) (V2 : Arv Z h0 d2 k2 .byte (6 : Int32) own_l110 (.int (0 : Int32))) (hok : own_ok8 cs) (h6 : 6 ≤ cs.length) (h10 : cs.length ≤ 10) :
    Con l Z (⟨"java/lang/StringLatin1", "regionMatchesCI", "([BI[BII)Z"⟩ : MethodName) jdk_43_method_30_code 8 (some .boolean) ws ({ frames := 1, cells := 0, slots := 0, locals := 14 } : Room) #[(.ref d1), (.int (0 : Int32)), (.ref d2), (.int (0 : Int32)), (.int (6 : Int32))] h0 (fun v h L => v = some (.int (if own_bear cs then 1 else 0)) ∧ L = [] ∧ h = h0) := by
  refine Con.intro opl_rm_rmci ?_
  intro p e s m below meth c s₁ hx hby hml hown hret hlk hZ hnm X0 e0
  refine OGo.cast (g' := (mkF m 0 #[.val (.ref d1), .val (.int (0 : Int32)), .val (.ref d2), .val (.int (0 : Int32)), .val (.int (6 : Int32)), .unset, .unset, .unset] [])) (by first | (simp [entryFrame, mkF, argsToLocals, Value.category]; done) | rfl) ?_
  refine og (fun _ k => XS.iloadN X0.here hx rfl (hb hby d43_30_0) rfl k) ?_
  refine og (fun _ k => XS.iload X0.here hx rfl (hb hby d43_30_1) rfl k) ?_
  refine og (fun _ k => XS.iadd X0.here hx rfl (hb hby d43_30_3) rfl k) ?_
  show OGo p e below _ s₁ (mkF m 4 #[.val (.ref d1), .val (.int (0 : Int32)), .val (.ref d2), .val (.int (0 : Int32)), .val (.int (6 : Int32)), .unset, .unset, .unset] [(.int ((0 : Int32) + (6 : Int32)))])
  rw [show ((0 : Int32) + (6 : Int32)) = (6 : Int32) from by decide]
  refine og (fun _ k => XS.istore X0.here hx rfl (hb hby d43_30_4) rfl (l' := #[.val (.ref d1), .val (.int (0 : Int32)), .val (.ref d2), .val (.int (0 : Int32)), .val (.int (6 : Int32)), .val (.int (6 : Int32)), .unset, .unset]) rfl k) ?_
  refine og (fun _ k => XS.iloadN X0.here hx rfl (hb hby d43_30_6) rfl k) ?_
  refine og (fun _ k => XS.iload X0.here hx rfl (hb hby d43_30_7) rfl k) ?_
  show OGo p e below _ s₁ (mkF m 9 #[.val (.ref d1), .val (.int (0 : Int32)), .val (.ref d2), .val (.int (0 : Int32)), .val (.int (6 : Int32)), .val (.int (6 : Int32)), .unset, .unset] [(.int (6 : Int32)), (.int (0 : Int32))])
  refine og (fun _ k => XS.icmpNo X0.here hx rfl (hb hby d43_30_9) rfl (tlt (by decide : (0 : Int32) < 6)).2.1 k) ?_
  refine og (fun _ k => XS.aloadN X0.here hx rfl (hb hby d43_30_12) rfl rfl k) ?_
  refine og (fun _ k => XS.iloadN X0.here hx rfl (hb hby d43_30_13) rfl k) ?_
  refine og (fun _ k => XS.iinc X0.here hx rfl (hb hby d43_30_14) rfl (l' := #[.val (.ref d1), .val (.int ((0 : Int32) + (1 : Int32))), .val (.ref d2), .val (.int (0 : Int32)), .val (.int (6 : Int32)), .val (.int (6 : Int32)), .unset, .unset]) rfl k) ?_
  show OGo p e below _ s₁ (mkF m 17 #[.val (.ref d1), .val (.int ((0 : Int32) + (1 : Int32))), .val (.ref d2), .val (.int (0 : Int32)), .val (.int (6 : Int32)), .val (.int (6 : Int32)), .unset, .unset] [(.int (0 : Int32)), (.ref d1)])
  rw [show ((0 : Int32) + (1 : Int32)) = (1 : Int32) from by decide]
  refine og (fun _ k => baloadV X0 hx hZ e0 V1 ⟨by decide, (own_lt (a := 0) (by decide) (by omega)).mpr (by omega)⟩ (own_b8at (show 0 < cs.length by omega)) (g := (mkF m 17 #[.val (.ref d1), .val (.int (1 : Int32)), .val (.ref d2), .val (.int (0 : Int32)), .val (.int (6 : Int32)), .val (.int (6 : Int32)), .unset, .unset] [(.int (0 : Int32)), (.ref d1)])) rfl rfl (hb hby d43_30_17) _ k) ?_
  refine og (fun _ k => XS.istore X0.here hx rfl (hb hby d43_30_18) rfl (l' := #[.val (.ref d1), .val (.int (1 : Int32)), .val (.ref d2), .val (.int (0 : Int32)), .val (.int (6 : Int32)), .val (.int (6 : Int32)), .val (.int (cs.getD 0 0).toInt8.toInt32), .unset]) rfl k) ?_
  refine og (fun _ k => XS.aloadN X0.here hx rfl (hb hby d43_30_20) rfl rfl k) ?_
  refine og (fun _ k => XS.iloadN X0.here hx rfl (hb hby d43_30_21) rfl k) ?_
  refine og (fun _ k => XS.iinc X0.here hx rfl (hb hby d43_30_22) rfl (l' := #[.val (.ref d1), .val (.int (1 : Int32)), .val (.ref d2), .val (.int ((0 : Int32) + (1 : Int32))), .val (.int (6 : Int32)), .val (.int (6 : Int32)), .val (.int (cs.getD 0 0).toInt8.toInt32), .unset]) rfl k) ?_
  show OGo p e below _ s₁ (mkF m 25 #[.val (.ref d1), .val (.int (1 : Int32)), .val (.ref d2), .val (.int ((0 : Int32) + (1 : Int32))), .val (.int (6 : Int32)), .val (.int (6 : Int32)), .val (.int (cs.getD 0 0).toInt8.toInt32), .unset] [(.int (0 : Int32)), (.ref d2)])
  rw [show ((0 : Int32) + (1 : Int32)) = (1 : Int32) from by decide]
  refine og (fun _ k => baloadV X0 hx hZ e0 V2 ⟨by decide, by decide⟩ rfl (g := (mkF m 25 #[.val (.ref d1), .val (.int (1 : Int32)), .val (.ref d2), .val (.int (1 : Int32)), .val (.int (6 : Int32)), .val (.int (6 : Int32)), .val (.int (cs.getD 0 0).toInt8.toInt32), .unset] [(.int (0 : Int32)), (.ref d2)])) rfl rfl (hb hby d43_30_25) _ k) ?_
  refine og (fun _ k => XS.istore X0.here hx rfl (hb hby d43_30_26) rfl (l' := #[.val (.ref d1), .val (.int (1 : Int32)), .val (.ref d2), .val (.int (1 : Int32)), .val (.int (6 : Int32)), .val (.int (6 : Int32)), .val (.int (cs.getD 0 0).toInt8.toInt32), .val (.int (66 : Int32))]) rfl k) ?_
  refine og (fun _ k => XS.iload X0.here hx rfl (hb hby d43_30_28) rfl k) ?_
  refine og (fun _ k => XS.iload X0.here hx rfl (hb hby d43_30_30) rfl k) ?_
  obtain ⟨v61, T61, L61, X61, hQ61, st61⟩ := scall X0 hx hZ hown (own_g hw 92 rfl) (own_g hw 93 rfl) (own_g hw 94 rfl) (own_g hw 95 rfl) (by decide) (W := 0) (rm_eic l Z a0 hw [] (cs.getD 0 0).toInt8.toInt32 (66 : Int32) h0 (by decide)) e0 (by decide) (by decide) (by decide) (by decide) (g := (mkF m 32 #[.val (.ref d1), .val (.int (1 : Int32)), .val (.ref d2), .val (.int (1 : Int32)), .val (.int (6 : Int32)), .val (.int (6 : Int32)), .val (.int (cs.getD 0 0).toInt8.toInt32), .val (.int (66 : Int32))] [(.int (66 : Int32)), (.int (cs.getD 0 0).toInt8.toInt32)])) rfl (by rw [hml]; rfl) (argsL := [(.int (cs.getD 0 0).toInt8.toInt32), (.int (66 : Int32))]) (rest := []) opd_11 rfl rfl rfl (by show 2 * 0 + _ ≤ _; exact Nat.le_of_eq rfl) (hb hby d43_30_32)
  obtain ⟨rfl, rfl, e61⟩ := hQ61
  rw [List.append_nil] at X61
  refine og st61 ?_
  have c0 : own_cib 0 (cs.getD 0 0) ↔ ((cs.getD 0 0).toInt8.toInt32 = (66 : Int32) ∨ ((cs.getD 0 0).toInt8.toInt32 &&& 223) = ((66 : Int32) &&& 223)) := own_eicx (own_okat (by omega) hok) (by decide)
  by_cases q0 : own_cib 0 (cs.getD 0 0)
  case neg =>
    show OGo p e below _ T61 (mkF m 35 #[.val (.ref d1), .val (.int (1 : Int32)), .val (.ref d2), .val (.int (1 : Int32)), .val (.int (6 : Int32)), .val (.int (6 : Int32)), .val (.int (cs.getD 0 0).toInt8.toInt32), .val (.int (66 : Int32))] [(.int (if (cs.getD 0 0).toInt8.toInt32 = (66 : Int32) ∨ ((cs.getD 0 0).toInt8.toInt32 &&& 223) = ((66 : Int32) &&& 223) then 1 else 0))])
    rw [if_neg (fun h => q0 (c0.mpr h))]
    show OGo p e below _ T61 (mkF m 35 #[.val (.ref d1), .val (.int (1 : Int32)), .val (.ref d2), .val (.int (1 : Int32)), .val (.int (6 : Int32)), .val (.int (6 : Int32)), .val (.int (cs.getD 0 0).toInt8.toInt32), .val (.int (66 : Int32))] [(.int (0 : Int32))])
    refine og (fun _ k => XS.ifYes X61.here hx rfl (pc0 := 35) (pc' := 41) rfl (hb hby d43_30_35) rfl ((if0 _ _).trans (teq (rfl : (0 : Int32) = 0)).1) (by decide) (by decide) k) ?_
    refine og (fun _ k => XS.iconst X61.here hx rfl (hb hby d43_30_41) k) ?_
    show OGo p e below _ T61 (mkF m 42 #[.val (.ref d1), .val (.int (1 : Int32)), .val (.ref d2), .val (.int (1 : Int32)), .val (.int (6 : Int32)), .val (.int (6 : Int32)), .val (.int (cs.getD 0 0).toInt8.toInt32), .val (.int (66 : Int32))] [(.int (0 : Int32))])
    exact OGo.ret X61 hx (t := .boolean) hret hlk rfl (Or.inl ⟨rfl, by simp, _, rfl⟩) (hb hby d43_30_42) (by decide) (by decide) ⟨by rw [if_neg (fun h => q0 h.1)], rfl, e61⟩
  show OGo p e below _ T61 (mkF m 35 #[.val (.ref d1), .val (.int (1 : Int32)), .val (.ref d2), .val (.int (1 : Int32)), .val (.int (6 : Int32)), .val (.int (6 : Int32)), .val (.int (cs.getD 0 0).toInt8.toInt32), .val (.int (66 : Int32))] [(.int (if (cs.getD 0 0).toInt8.toInt32 = (66 : Int32) ∨ ((cs.getD 0 0).toInt8.toInt32 &&& 223) = ((66 : Int32) &&& 223) then 1 else 0))])
  rw [if_pos (c0.mp q0)]
  show OGo p e below _ T61 (mkF m 35 #[.val (.ref d1), .val (.int (1 : Int32)), .val (.ref d2), .val (.int (1 : Int32)), .val (.int (6 : Int32)), .val (.int (6 : Int32)), .val (.int (cs.getD 0 0).toInt8.toInt32), .val (.int (66 : Int32))] [(.int (1 : Int32))])
  refine og (fun _ k => XS.ifNo X61.here hx rfl (hb hby d43_30_35) rfl ((if0 _ _).trans (feq (by decide : ¬ (1 : Int32) = 0)).1) k) ?_
  refine og (fun _ k => XS.goto X61.here hx rfl (pc0 := 38) (pc' := 6) rfl (hb hby d43_30_38) (by decide) (by decide) k) ?_
  refine og (fun _ k => XS.iloadN X61.here hx rfl (hb hby d43_30_6) rfl k) ?_
  refine og (fun _ k => XS.iload X61.here hx rfl (hb hby d43_30_7) rfl k) ?_
  show OGo p e below _ T61 (mkF m 9 #[.val (.ref d1), .val (.int (1 : Int32)), .val (.ref d2), .val (.int (1 : Int32)), .val (.int (6 : Int32)), .val (.int (6 : Int32)), .val (.int (cs.getD 0 0).toInt8.toInt32), .val (.int (66 : Int32))] [(.int (6 : Int32)), (.int (1 : Int32))])
  refine og (fun _ k => XS.icmpNo X61.here hx rfl (hb hby d43_30_9) rfl (tlt (by decide : (1 : Int32) < 6)).2.1 k) ?_
  refine og (fun _ k => XS.aloadN X61.here hx rfl (hb hby d43_30_12) rfl rfl k) ?_
  refine og (fun _ k => XS.iloadN X61.here hx rfl (hb hby d43_30_13) rfl k) ?_
  refine og (fun _ k => XS.iinc X61.here hx rfl (hb hby d43_30_14) rfl (l' := #[.val (.ref d1), .val (.int ((1 : Int32) + (1 : Int32))), .val (.ref d2), .val (.int (1 : Int32)), .val (.int (6 : Int32)), .val (.int (6 : Int32)), .val (.int (cs.getD 0 0).toInt8.toInt32), .val (.int (66 : Int32))]) rfl k) ?_
  show OGo p e below _ T61 (mkF m 17 #[.val (.ref d1), .val (.int ((1 : Int32) + (1 : Int32))), .val (.ref d2), .val (.int (1 : Int32)), .val (.int (6 : Int32)), .val (.int (6 : Int32)), .val (.int (cs.getD 0 0).toInt8.toInt32), .val (.int (66 : Int32))] [(.int (1 : Int32)), (.ref d1)])
  rw [show ((1 : Int32) + (1 : Int32)) = (2 : Int32) from by decide]
  refine og (fun _ k => baloadV X61 hx hZ e61 V1 ⟨by decide, (own_lt (a := 1) (by decide) (by omega)).mpr (by omega)⟩ (own_b8at (show 1 < cs.length by omega)) (g := (mkF m 17 #[.val (.ref d1), .val (.int (2 : Int32)), .val (.ref d2), .val (.int (1 : Int32)), .val (.int (6 : Int32)), .val (.int (6 : Int32)), .val (.int (cs.getD 0 0).toInt8.toInt32), .val (.int (66 : Int32))] [(.int (1 : Int32)), (.ref d1)])) rfl rfl (hb hby d43_30_17) _ k) ?_
  refine og (fun _ k => XS.istore X61.here hx rfl (hb hby d43_30_18) rfl (l' := #[.val (.ref d1), .val (.int (2 : Int32)), .val (.ref d2), .val (.int (1 : Int32)), .val (.int (6 : Int32)), .val (.int (6 : Int32)), .val (.int (cs.getD 1 0).toInt8.toInt32), .val (.int (66 : Int32))]) rfl k) ?_
  refine og (fun _ k => XS.aloadN X61.here hx rfl (hb hby d43_30_20) rfl rfl k) ?_
  refine og (fun _ k => XS.iloadN X61.here hx rfl (hb hby d43_30_21) rfl k) ?_
  refine og (fun _ k => XS.iinc X61.here hx rfl (hb hby d43_30_22) rfl (l' := #[.val (.ref d1), .val (.int (2 : Int32)), .val (.ref d2), .val (.int ((1 : Int32) + (1 : Int32))), .val (.int (6 : Int32)), .val (.int (6 : Int32)), .val (.int (cs.getD 1 0).toInt8.toInt32), .val (.int (66 : Int32))]) rfl k) ?_
  show OGo p e below _ T61 (mkF m 25 #[.val (.ref d1), .val (.int (2 : Int32)), .val (.ref d2), .val (.int ((1 : Int32) + (1 : Int32))), .val (.int (6 : Int32)), .val (.int (6 : Int32)), .val (.int (cs.getD 1 0).toInt8.toInt32), .val (.int (66 : Int32))] [(.int (1 : Int32)), (.ref d2)])
  rw [show ((1 : Int32) + (1 : Int32)) = (2 : Int32) from by decide]
  refine og (fun _ k => baloadV X61 hx hZ e61 V2 ⟨by decide, by decide⟩ rfl (g := (mkF m 25 #[.val (.ref d1), .val (.int (2 : Int32)), .val (.ref d2), .val (.int (2 : Int32)), .val (.int (6 : Int32)), .val (.int (6 : Int32)), .val (.int (cs.getD 1 0).toInt8.toInt32), .val (.int (66 : Int32))] [(.int (1 : Int32)), (.ref d2)])) rfl rfl (hb hby d43_30_25) _ k) ?_
  refine og (fun _ k => XS.istore X61.here hx rfl (hb hby d43_30_26) rfl (l' := #[.val (.ref d1), .val (.int (2 : Int32)), .val (.ref d2), .val (.int (2 : Int32)), .val (.int (6 : Int32)), .val (.int (6 : Int32)), .val (.int (cs.getD 1 0).toInt8.toInt32), .val (.int (101 : Int32))]) rfl k) ?_
  refine og (fun _ k => XS.iload X61.here hx rfl (hb hby d43_30_28) rfl k) ?_
  refine og (fun _ k => XS.iload X61.here hx rfl (hb hby d43_30_30) rfl k) ?_
  obtain ⟨v62, T62, L62, X62, hQ62, st62⟩ := scall X61 hx hZ hown (own_g hw 92 rfl) (own_g hw 93 rfl) (own_g hw 94 rfl) (own_g hw 95 rfl) (by decide) (W := 0) (rm_eic l Z a0 hw [] (cs.getD 1 0).toInt8.toInt32 (101 : Int32) h0 (by decide)) e61 (by decide) (by decide) (by decide) (by decide) (g := (mkF m 32 #[.val (.ref d1), .val (.int (2 : Int32)), .val (.ref d2), .val (.int (2 : Int32)), .val (.int (6 : Int32)), .val (.int (6 : Int32)), .val (.int (cs.getD 1 0).toInt8.toInt32), .val (.int (101 : Int32))] [(.int (101 : Int32)), (.int (cs.getD 1 0).toInt8.toInt32)])) rfl (by rw [hml]; rfl) (argsL := [(.int (cs.getD 1 0).toInt8.toInt32), (.int (101 : Int32))]) (rest := []) opd_11 rfl rfl rfl (by show 2 * 0 + _ ≤ _; exact Nat.le_of_eq rfl) (hb hby d43_30_32)
  obtain ⟨rfl, rfl, e62⟩ := hQ62
  rw [List.append_nil] at X62
  refine og st62 ?_
  have c1 : own_cib 1 (cs.getD 1 0) ↔ ((cs.getD 1 0).toInt8.toInt32 = (101 : Int32) ∨ ((cs.getD 1 0).toInt8.toInt32 &&& 223) = ((101 : Int32) &&& 223)) := own_eicx (own_okat (by omega) hok) (by decide)
  by_cases q1 : own_cib 1 (cs.getD 1 0)
  case neg =>
    show OGo p e below _ T62 (mkF m 35 #[.val (.ref d1), .val (.int (2 : Int32)), .val (.ref d2), .val (.int (2 : Int32)), .val (.int (6 : Int32)), .val (.int (6 : Int32)), .val (.int (cs.getD 1 0).toInt8.toInt32), .val (.int (101 : Int32))] [(.int (if (cs.getD 1 0).toInt8.toInt32 = (101 : Int32) ∨ ((cs.getD 1 0).toInt8.toInt32 &&& 223) = ((101 : Int32) &&& 223) then 1 else 0))])
    rw [if_neg (fun h => q1 (c1.mpr h))]
    show OGo p e below _ T62 (mkF m 35 #[.val (.ref d1), .val (.int (2 : Int32)), .val (.ref d2), .val (.int (2 : Int32)), .val (.int (6 : Int32)), .val (.int (6 : Int32)), .val (.int (cs.getD 1 0).toInt8.toInt32), .val (.int (101 : Int32))] [(.int (0 : Int32))])
    refine og (fun _ k => XS.ifYes X62.here hx rfl (pc0 := 35) (pc' := 41) rfl (hb hby d43_30_35) rfl ((if0 _ _).trans (teq (rfl : (0 : Int32) = 0)).1) (by decide) (by decide) k) ?_
    refine og (fun _ k => XS.iconst X62.here hx rfl (hb hby d43_30_41) k) ?_
    show OGo p e below _ T62 (mkF m 42 #[.val (.ref d1), .val (.int (2 : Int32)), .val (.ref d2), .val (.int (2 : Int32)), .val (.int (6 : Int32)), .val (.int (6 : Int32)), .val (.int (cs.getD 1 0).toInt8.toInt32), .val (.int (101 : Int32))] [(.int (0 : Int32))])
    exact OGo.ret X62 hx (t := .boolean) hret hlk rfl (Or.inl ⟨rfl, by simp, _, rfl⟩) (hb hby d43_30_42) (by decide) (by decide) ⟨by rw [if_neg (fun h => q1 h.2.1)], rfl, e62⟩
  show OGo p e below _ T62 (mkF m 35 #[.val (.ref d1), .val (.int (2 : Int32)), .val (.ref d2), .val (.int (2 : Int32)), .val (.int (6 : Int32)), .val (.int (6 : Int32)), .val (.int (cs.getD 1 0).toInt8.toInt32), .val (.int (101 : Int32))] [(.int (if (cs.getD 1 0).toInt8.toInt32 = (101 : Int32) ∨ ((cs.getD 1 0).toInt8.toInt32 &&& 223) = ((101 : Int32) &&& 223) then 1 else 0))])
  rw [if_pos (c1.mp q1)]
  show OGo p e below _ T62 (mkF m 35 #[.val (.ref d1), .val (.int (2 : Int32)), .val (.ref d2), .val (.int (2 : Int32)), .val (.int (6 : Int32)), .val (.int (6 : Int32)), .val (.int (cs.getD 1 0).toInt8.toInt32), .val (.int (101 : Int32))] [(.int (1 : Int32))])
  refine og (fun _ k => XS.ifNo X62.here hx rfl (hb hby d43_30_35) rfl ((if0 _ _).trans (feq (by decide : ¬ (1 : Int32) = 0)).1) k) ?_
  refine og (fun _ k => XS.goto X62.here hx rfl (pc0 := 38) (pc' := 6) rfl (hb hby d43_30_38) (by decide) (by decide) k) ?_
  refine og (fun _ k => XS.iloadN X62.here hx rfl (hb hby d43_30_6) rfl k) ?_
  refine og (fun _ k => XS.iload X62.here hx rfl (hb hby d43_30_7) rfl k) ?_
  show OGo p e below _ T62 (mkF m 9 #[.val (.ref d1), .val (.int (2 : Int32)), .val (.ref d2), .val (.int (2 : Int32)), .val (.int (6 : Int32)), .val (.int (6 : Int32)), .val (.int (cs.getD 1 0).toInt8.toInt32), .val (.int (101 : Int32))] [(.int (6 : Int32)), (.int (2 : Int32))])
  refine og (fun _ k => XS.icmpNo X62.here hx rfl (hb hby d43_30_9) rfl (tlt (by decide : (2 : Int32) < 6)).2.1 k) ?_
  refine og (fun _ k => XS.aloadN X62.here hx rfl (hb hby d43_30_12) rfl rfl k) ?_
  refine og (fun _ k => XS.iloadN X62.here hx rfl (hb hby d43_30_13) rfl k) ?_
  refine og (fun _ k => XS.iinc X62.here hx rfl (hb hby d43_30_14) rfl (l' := #[.val (.ref d1), .val (.int ((2 : Int32) + (1 : Int32))), .val (.ref d2), .val (.int (2 : Int32)), .val (.int (6 : Int32)), .val (.int (6 : Int32)), .val (.int (cs.getD 1 0).toInt8.toInt32), .val (.int (101 : Int32))]) rfl k) ?_
  show OGo p e below _ T62 (mkF m 17 #[.val (.ref d1), .val (.int ((2 : Int32) + (1 : Int32))), .val (.ref d2), .val (.int (2 : Int32)), .val (.int (6 : Int32)), .val (.int (6 : Int32)), .val (.int (cs.getD 1 0).toInt8.toInt32), .val (.int (101 : Int32))] [(.int (2 : Int32)), (.ref d1)])
  rw [show ((2 : Int32) + (1 : Int32)) = (3 : Int32) from by decide]
  refine og (fun _ k => baloadV X62 hx hZ e62 V1 ⟨by decide, (own_lt (a := 2) (by decide) (by omega)).mpr (by omega)⟩ (own_b8at (show 2 < cs.length by omega)) (g := (mkF m 17 #[.val (.ref d1), .val (.int (3 : Int32)), .val (.ref d2), .val (.int (2 : Int32)), .val (.int (6 : Int32)), .val (.int (6 : Int32)), .val (.int (cs.getD 1 0).toInt8.toInt32), .val (.int (101 : Int32))] [(.int (2 : Int32)), (.ref d1)])) rfl rfl (hb hby d43_30_17) _ k) ?_
  refine og (fun _ k => XS.istore X62.here hx rfl (hb hby d43_30_18) rfl (l' := #[.val (.ref d1), .val (.int (3 : Int32)), .val (.ref d2), .val (.int (2 : Int32)), .val (.int (6 : Int32)), .val (.int (6 : Int32)), .val (.int (cs.getD 2 0).toInt8.toInt32), .val (.int (101 : Int32))]) rfl k) ?_
  refine og (fun _ k => XS.aloadN X62.here hx rfl (hb hby d43_30_20) rfl rfl k) ?_
  refine og (fun _ k => XS.iloadN X62.here hx rfl (hb hby d43_30_21) rfl k) ?_
  refine og (fun _ k => XS.iinc X62.here hx rfl (hb hby d43_30_22) rfl (l' := #[.val (.ref d1), .val (.int (3 : Int32)), .val (.ref d2), .val (.int ((2 : Int32) + (1 : Int32))), .val (.int (6 : Int32)), .val (.int (6 : Int32)), .val (.int (cs.getD 2 0).toInt8.toInt32), .val (.int (101 : Int32))]) rfl k) ?_
  show OGo p e below _ T62 (mkF m 25 #[.val (.ref d1), .val (.int (3 : Int32)), .val (.ref d2), .val (.int ((2 : Int32) + (1 : Int32))), .val (.int (6 : Int32)), .val (.int (6 : Int32)), .val (.int (cs.getD 2 0).toInt8.toInt32), .val (.int (101 : Int32))] [(.int (2 : Int32)), (.ref d2)])
  rw [show ((2 : Int32) + (1 : Int32)) = (3 : Int32) from by decide]
  refine og (fun _ k => baloadV X62 hx hZ e62 V2 ⟨by decide, by decide⟩ rfl (g := (mkF m 25 #[.val (.ref d1), .val (.int (3 : Int32)), .val (.ref d2), .val (.int (3 : Int32)), .val (.int (6 : Int32)), .val (.int (6 : Int32)), .val (.int (cs.getD 2 0).toInt8.toInt32), .val (.int (101 : Int32))] [(.int (2 : Int32)), (.ref d2)])) rfl rfl (hb hby d43_30_25) _ k) ?_
  refine og (fun _ k => XS.istore X62.here hx rfl (hb hby d43_30_26) rfl (l' := #[.val (.ref d1), .val (.int (3 : Int32)), .val (.ref d2), .val (.int (3 : Int32)), .val (.int (6 : Int32)), .val (.int (6 : Int32)), .val (.int (cs.getD 2 0).toInt8.toInt32), .val (.int (97 : Int32))]) rfl k) ?_
  refine og (fun _ k => XS.iload X62.here hx rfl (hb hby d43_30_28) rfl k) ?_
  refine og (fun _ k => XS.iload X62.here hx rfl (hb hby d43_30_30) rfl k) ?_
  obtain ⟨v63, T63, L63, X63, hQ63, st63⟩ := scall X62 hx hZ hown (own_g hw 92 rfl) (own_g hw 93 rfl) (own_g hw 94 rfl) (own_g hw 95 rfl) (by decide) (W := 0) (rm_eic l Z a0 hw [] (cs.getD 2 0).toInt8.toInt32 (97 : Int32) h0 (by decide)) e62 (by decide) (by decide) (by decide) (by decide) (g := (mkF m 32 #[.val (.ref d1), .val (.int (3 : Int32)), .val (.ref d2), .val (.int (3 : Int32)), .val (.int (6 : Int32)), .val (.int (6 : Int32)), .val (.int (cs.getD 2 0).toInt8.toInt32), .val (.int (97 : Int32))] [(.int (97 : Int32)), (.int (cs.getD 2 0).toInt8.toInt32)])) rfl (by rw [hml]; rfl) (argsL := [(.int (cs.getD 2 0).toInt8.toInt32), (.int (97 : Int32))]) (rest := []) opd_11 rfl rfl rfl (by show 2 * 0 + _ ≤ _; exact Nat.le_of_eq rfl) (hb hby d43_30_32)
  obtain ⟨rfl, rfl, e63⟩ := hQ63
  rw [List.append_nil] at X63
  refine og st63 ?_
  have c2 : own_cib 2 (cs.getD 2 0) ↔ ((cs.getD 2 0).toInt8.toInt32 = (97 : Int32) ∨ ((cs.getD 2 0).toInt8.toInt32 &&& 223) = ((97 : Int32) &&& 223)) := own_eicx (own_okat (by omega) hok) (by decide)
  by_cases q2 : own_cib 2 (cs.getD 2 0)
  case neg =>
    show OGo p e below _ T63 (mkF m 35 #[.val (.ref d1), .val (.int (3 : Int32)), .val (.ref d2), .val (.int (3 : Int32)), .val (.int (6 : Int32)), .val (.int (6 : Int32)), .val (.int (cs.getD 2 0).toInt8.toInt32), .val (.int (97 : Int32))] [(.int (if (cs.getD 2 0).toInt8.toInt32 = (97 : Int32) ∨ ((cs.getD 2 0).toInt8.toInt32 &&& 223) = ((97 : Int32) &&& 223) then 1 else 0))])
    rw [if_neg (fun h => q2 (c2.mpr h))]
    show OGo p e below _ T63 (mkF m 35 #[.val (.ref d1), .val (.int (3 : Int32)), .val (.ref d2), .val (.int (3 : Int32)), .val (.int (6 : Int32)), .val (.int (6 : Int32)), .val (.int (cs.getD 2 0).toInt8.toInt32), .val (.int (97 : Int32))] [(.int (0 : Int32))])
    refine og (fun _ k => XS.ifYes X63.here hx rfl (pc0 := 35) (pc' := 41) rfl (hb hby d43_30_35) rfl ((if0 _ _).trans (teq (rfl : (0 : Int32) = 0)).1) (by decide) (by decide) k) ?_
    refine og (fun _ k => XS.iconst X63.here hx rfl (hb hby d43_30_41) k) ?_
    show OGo p e below _ T63 (mkF m 42 #[.val (.ref d1), .val (.int (3 : Int32)), .val (.ref d2), .val (.int (3 : Int32)), .val (.int (6 : Int32)), .val (.int (6 : Int32)), .val (.int (cs.getD 2 0).toInt8.toInt32), .val (.int (97 : Int32))] [(.int (0 : Int32))])
    exact OGo.ret X63 hx (t := .boolean) hret hlk rfl (Or.inl ⟨rfl, by simp, _, rfl⟩) (hb hby d43_30_42) (by decide) (by decide) ⟨by rw [if_neg (fun h => q2 h.2.2.1)], rfl, e63⟩
  show OGo p e below _ T63 (mkF m 35 #[.val (.ref d1), .val (.int (3 : Int32)), .val (.ref d2), .val (.int (3 : Int32)), .val (.int (6 : Int32)), .val (.int (6 : Int32)), .val (.int (cs.getD 2 0).toInt8.toInt32), .val (.int (97 : Int32))] [(.int (if (cs.getD 2 0).toInt8.toInt32 = (97 : Int32) ∨ ((cs.getD 2 0).toInt8.toInt32 &&& 223) = ((97 : Int32) &&& 223) then 1 else 0))])
  rw [if_pos (c2.mp q2)]
  show OGo p e below _ T63 (mkF m 35 #[.val (.ref d1), .val (.int (3 : Int32)), .val (.ref d2), .val (.int (3 : Int32)), .val (.int (6 : Int32)), .val (.int (6 : Int32)), .val (.int (cs.getD 2 0).toInt8.toInt32), .val (.int (97 : Int32))] [(.int (1 : Int32))])
  refine og (fun _ k => XS.ifNo X63.here hx rfl (hb hby d43_30_35) rfl ((if0 _ _).trans (feq (by decide : ¬ (1 : Int32) = 0)).1) k) ?_
  refine og (fun _ k => XS.goto X63.here hx rfl (pc0 := 38) (pc' := 6) rfl (hb hby d43_30_38) (by decide) (by decide) k) ?_
  refine og (fun _ k => XS.iloadN X63.here hx rfl (hb hby d43_30_6) rfl k) ?_
  refine og (fun _ k => XS.iload X63.here hx rfl (hb hby d43_30_7) rfl k) ?_
  show OGo p e below _ T63 (mkF m 9 #[.val (.ref d1), .val (.int (3 : Int32)), .val (.ref d2), .val (.int (3 : Int32)), .val (.int (6 : Int32)), .val (.int (6 : Int32)), .val (.int (cs.getD 2 0).toInt8.toInt32), .val (.int (97 : Int32))] [(.int (6 : Int32)), (.int (3 : Int32))])
  refine og (fun _ k => XS.icmpNo X63.here hx rfl (hb hby d43_30_9) rfl (tlt (by decide : (3 : Int32) < 6)).2.1 k) ?_
  refine og (fun _ k => XS.aloadN X63.here hx rfl (hb hby d43_30_12) rfl rfl k) ?_
  refine og (fun _ k => XS.iloadN X63.here hx rfl (hb hby d43_30_13) rfl k) ?_
  refine og (fun _ k => XS.iinc X63.here hx rfl (hb hby d43_30_14) rfl (l' := #[.val (.ref d1), .val (.int ((3 : Int32) + (1 : Int32))), .val (.ref d2), .val (.int (3 : Int32)), .val (.int (6 : Int32)), .val (.int (6 : Int32)), .val (.int (cs.getD 2 0).toInt8.toInt32), .val (.int (97 : Int32))]) rfl k) ?_
  show OGo p e below _ T63 (mkF m 17 #[.val (.ref d1), .val (.int ((3 : Int32) + (1 : Int32))), .val (.ref d2), .val (.int (3 : Int32)), .val (.int (6 : Int32)), .val (.int (6 : Int32)), .val (.int (cs.getD 2 0).toInt8.toInt32), .val (.int (97 : Int32))] [(.int (3 : Int32)), (.ref d1)])
  rw [show ((3 : Int32) + (1 : Int32)) = (4 : Int32) from by decide]
  refine og (fun _ k => baloadV X63 hx hZ e63 V1 ⟨by decide, (own_lt (a := 3) (by decide) (by omega)).mpr (by omega)⟩ (own_b8at (show 3 < cs.length by omega)) (g := (mkF m 17 #[.val (.ref d1), .val (.int (4 : Int32)), .val (.ref d2), .val (.int (3 : Int32)), .val (.int (6 : Int32)), .val (.int (6 : Int32)), .val (.int (cs.getD 2 0).toInt8.toInt32), .val (.int (97 : Int32))] [(.int (3 : Int32)), (.ref d1)])) rfl rfl (hb hby d43_30_17) _ k) ?_
  refine og (fun _ k => XS.istore X63.here hx rfl (hb hby d43_30_18) rfl (l' := #[.val (.ref d1), .val (.int (4 : Int32)), .val (.ref d2), .val (.int (3 : Int32)), .val (.int (6 : Int32)), .val (.int (6 : Int32)), .val (.int (cs.getD 3 0).toInt8.toInt32), .val (.int (97 : Int32))]) rfl k) ?_
  refine og (fun _ k => XS.aloadN X63.here hx rfl (hb hby d43_30_20) rfl rfl k) ?_
  refine og (fun _ k => XS.iloadN X63.here hx rfl (hb hby d43_30_21) rfl k) ?_
  refine og (fun _ k => XS.iinc X63.here hx rfl (hb hby d43_30_22) rfl (l' := #[.val (.ref d1), .val (.int (4 : Int32)), .val (.ref d2), .val (.int ((3 : Int32) + (1 : Int32))), .val (.int (6 : Int32)), .val (.int (6 : Int32)), .val (.int (cs.getD 3 0).toInt8.toInt32), .val (.int (97 : Int32))]) rfl k) ?_
  show OGo p e below _ T63 (mkF m 25 #[.val (.ref d1), .val (.int (4 : Int32)), .val (.ref d2), .val (.int ((3 : Int32) + (1 : Int32))), .val (.int (6 : Int32)), .val (.int (6 : Int32)), .val (.int (cs.getD 3 0).toInt8.toInt32), .val (.int (97 : Int32))] [(.int (3 : Int32)), (.ref d2)])
  rw [show ((3 : Int32) + (1 : Int32)) = (4 : Int32) from by decide]
  refine og (fun _ k => baloadV X63 hx hZ e63 V2 ⟨by decide, by decide⟩ rfl (g := (mkF m 25 #[.val (.ref d1), .val (.int (4 : Int32)), .val (.ref d2), .val (.int (4 : Int32)), .val (.int (6 : Int32)), .val (.int (6 : Int32)), .val (.int (cs.getD 3 0).toInt8.toInt32), .val (.int (97 : Int32))] [(.int (3 : Int32)), (.ref d2)])) rfl rfl (hb hby d43_30_25) _ k) ?_
  refine og (fun _ k => XS.istore X63.here hx rfl (hb hby d43_30_26) rfl (l' := #[.val (.ref d1), .val (.int (4 : Int32)), .val (.ref d2), .val (.int (4 : Int32)), .val (.int (6 : Int32)), .val (.int (6 : Int32)), .val (.int (cs.getD 3 0).toInt8.toInt32), .val (.int (114 : Int32))]) rfl k) ?_
  refine og (fun _ k => XS.iload X63.here hx rfl (hb hby d43_30_28) rfl k) ?_
  refine og (fun _ k => XS.iload X63.here hx rfl (hb hby d43_30_30) rfl k) ?_
  obtain ⟨v64, T64, L64, X64, hQ64, st64⟩ := scall X63 hx hZ hown (own_g hw 92 rfl) (own_g hw 93 rfl) (own_g hw 94 rfl) (own_g hw 95 rfl) (by decide) (W := 0) (rm_eic l Z a0 hw [] (cs.getD 3 0).toInt8.toInt32 (114 : Int32) h0 (by decide)) e63 (by decide) (by decide) (by decide) (by decide) (g := (mkF m 32 #[.val (.ref d1), .val (.int (4 : Int32)), .val (.ref d2), .val (.int (4 : Int32)), .val (.int (6 : Int32)), .val (.int (6 : Int32)), .val (.int (cs.getD 3 0).toInt8.toInt32), .val (.int (114 : Int32))] [(.int (114 : Int32)), (.int (cs.getD 3 0).toInt8.toInt32)])) rfl (by rw [hml]; rfl) (argsL := [(.int (cs.getD 3 0).toInt8.toInt32), (.int (114 : Int32))]) (rest := []) opd_11 rfl rfl rfl (by show 2 * 0 + _ ≤ _; exact Nat.le_of_eq rfl) (hb hby d43_30_32)
  obtain ⟨rfl, rfl, e64⟩ := hQ64
  rw [List.append_nil] at X64
  refine og st64 ?_
  have c3 : own_cib 3 (cs.getD 3 0) ↔ ((cs.getD 3 0).toInt8.toInt32 = (114 : Int32) ∨ ((cs.getD 3 0).toInt8.toInt32 &&& 223) = ((114 : Int32) &&& 223)) := own_eicx (own_okat (by omega) hok) (by decide)
  by_cases q3 : own_cib 3 (cs.getD 3 0)
  case neg =>
    show OGo p e below _ T64 (mkF m 35 #[.val (.ref d1), .val (.int (4 : Int32)), .val (.ref d2), .val (.int (4 : Int32)), .val (.int (6 : Int32)), .val (.int (6 : Int32)), .val (.int (cs.getD 3 0).toInt8.toInt32), .val (.int (114 : Int32))] [(.int (if (cs.getD 3 0).toInt8.toInt32 = (114 : Int32) ∨ ((cs.getD 3 0).toInt8.toInt32 &&& 223) = ((114 : Int32) &&& 223) then 1 else 0))])
    rw [if_neg (fun h => q3 (c3.mpr h))]
    show OGo p e below _ T64 (mkF m 35 #[.val (.ref d1), .val (.int (4 : Int32)), .val (.ref d2), .val (.int (4 : Int32)), .val (.int (6 : Int32)), .val (.int (6 : Int32)), .val (.int (cs.getD 3 0).toInt8.toInt32), .val (.int (114 : Int32))] [(.int (0 : Int32))])
    refine og (fun _ k => XS.ifYes X64.here hx rfl (pc0 := 35) (pc' := 41) rfl (hb hby d43_30_35) rfl ((if0 _ _).trans (teq (rfl : (0 : Int32) = 0)).1) (by decide) (by decide) k) ?_
    refine og (fun _ k => XS.iconst X64.here hx rfl (hb hby d43_30_41) k) ?_
    show OGo p e below _ T64 (mkF m 42 #[.val (.ref d1), .val (.int (4 : Int32)), .val (.ref d2), .val (.int (4 : Int32)), .val (.int (6 : Int32)), .val (.int (6 : Int32)), .val (.int (cs.getD 3 0).toInt8.toInt32), .val (.int (114 : Int32))] [(.int (0 : Int32))])
    exact OGo.ret X64 hx (t := .boolean) hret hlk rfl (Or.inl ⟨rfl, by simp, _, rfl⟩) (hb hby d43_30_42) (by decide) (by decide) ⟨by rw [if_neg (fun h => q3 h.2.2.2.1)], rfl, e64⟩
  show OGo p e below _ T64 (mkF m 35 #[.val (.ref d1), .val (.int (4 : Int32)), .val (.ref d2), .val (.int (4 : Int32)), .val (.int (6 : Int32)), .val (.int (6 : Int32)), .val (.int (cs.getD 3 0).toInt8.toInt32), .val (.int (114 : Int32))] [(.int (if (cs.getD 3 0).toInt8.toInt32 = (114 : Int32) ∨ ((cs.getD 3 0).toInt8.toInt32 &&& 223) = ((114 : Int32) &&& 223) then 1 else 0))])
  rw [if_pos (c3.mp q3)]
  show OGo p e below _ T64 (mkF m 35 #[.val (.ref d1), .val (.int (4 : Int32)), .val (.ref d2), .val (.int (4 : Int32)), .val (.int (6 : Int32)), .val (.int (6 : Int32)), .val (.int (cs.getD 3 0).toInt8.toInt32), .val (.int (114 : Int32))] [(.int (1 : Int32))])
  refine og (fun _ k => XS.ifNo X64.here hx rfl (hb hby d43_30_35) rfl ((if0 _ _).trans (feq (by decide : ¬ (1 : Int32) = 0)).1) k) ?_
  refine og (fun _ k => XS.goto X64.here hx rfl (pc0 := 38) (pc' := 6) rfl (hb hby d43_30_38) (by decide) (by decide) k) ?_
  refine og (fun _ k => XS.iloadN X64.here hx rfl (hb hby d43_30_6) rfl k) ?_
  refine og (fun _ k => XS.iload X64.here hx rfl (hb hby d43_30_7) rfl k) ?_
  show OGo p e below _ T64 (mkF m 9 #[.val (.ref d1), .val (.int (4 : Int32)), .val (.ref d2), .val (.int (4 : Int32)), .val (.int (6 : Int32)), .val (.int (6 : Int32)), .val (.int (cs.getD 3 0).toInt8.toInt32), .val (.int (114 : Int32))] [(.int (6 : Int32)), (.int (4 : Int32))])
  refine og (fun _ k => XS.icmpNo X64.here hx rfl (hb hby d43_30_9) rfl (tlt (by decide : (4 : Int32) < 6)).2.1 k) ?_
  refine og (fun _ k => XS.aloadN X64.here hx rfl (hb hby d43_30_12) rfl rfl k) ?_
  refine og (fun _ k => XS.iloadN X64.here hx rfl (hb hby d43_30_13) rfl k) ?_
  refine og (fun _ k => XS.iinc X64.here hx rfl (hb hby d43_30_14) rfl (l' := #[.val (.ref d1), .val (.int ((4 : Int32) + (1 : Int32))), .val (.ref d2), .val (.int (4 : Int32)), .val (.int (6 : Int32)), .val (.int (6 : Int32)), .val (.int (cs.getD 3 0).toInt8.toInt32), .val (.int (114 : Int32))]) rfl k) ?_
  show OGo p e below _ T64 (mkF m 17 #[.val (.ref d1), .val (.int ((4 : Int32) + (1 : Int32))), .val (.ref d2), .val (.int (4 : Int32)), .val (.int (6 : Int32)), .val (.int (6 : Int32)), .val (.int (cs.getD 3 0).toInt8.toInt32), .val (.int (114 : Int32))] [(.int (4 : Int32)), (.ref d1)])
  rw [show ((4 : Int32) + (1 : Int32)) = (5 : Int32) from by decide]
  refine og (fun _ k => baloadV X64 hx hZ e64 V1 ⟨by decide, (own_lt (a := 4) (by decide) (by omega)).mpr (by omega)⟩ (own_b8at (show 4 < cs.length by omega)) (g := (mkF m 17 #[.val (.ref d1), .val (.int (5 : Int32)), .val (.ref d2), .val (.int (4 : Int32)), .val (.int (6 : Int32)), .val (.int (6 : Int32)), .val (.int (cs.getD 3 0).toInt8.toInt32), .val (.int (114 : Int32))] [(.int (4 : Int32)), (.ref d1)])) rfl rfl (hb hby d43_30_17) _ k) ?_
  refine og (fun _ k => XS.istore X64.here hx rfl (hb hby d43_30_18) rfl (l' := #[.val (.ref d1), .val (.int (5 : Int32)), .val (.ref d2), .val (.int (4 : Int32)), .val (.int (6 : Int32)), .val (.int (6 : Int32)), .val (.int (cs.getD 4 0).toInt8.toInt32), .val (.int (114 : Int32))]) rfl k) ?_
  refine og (fun _ k => XS.aloadN X64.here hx rfl (hb hby d43_30_20) rfl rfl k) ?_
  refine og (fun _ k => XS.iloadN X64.here hx rfl (hb hby d43_30_21) rfl k) ?_
  refine og (fun _ k => XS.iinc X64.here hx rfl (hb hby d43_30_22) rfl (l' := #[.val (.ref d1), .val (.int (5 : Int32)), .val (.ref d2), .val (.int ((4 : Int32) + (1 : Int32))), .val (.int (6 : Int32)), .val (.int (6 : Int32)), .val (.int (cs.getD 4 0).toInt8.toInt32), .val (.int (114 : Int32))]) rfl k) ?_
  show OGo p e below _ T64 (mkF m 25 #[.val (.ref d1), .val (.int (5 : Int32)), .val (.ref d2), .val (.int ((4 : Int32) + (1 : Int32))), .val (.int (6 : Int32)), .val (.int (6 : Int32)), .val (.int (cs.getD 4 0).toInt8.toInt32), .val (.int (114 : Int32))] [(.int (4 : Int32)), (.ref d2)])
  rw [show ((4 : Int32) + (1 : Int32)) = (5 : Int32) from by decide]
  refine og (fun _ k => baloadV X64 hx hZ e64 V2 ⟨by decide, by decide⟩ rfl (g := (mkF m 25 #[.val (.ref d1), .val (.int (5 : Int32)), .val (.ref d2), .val (.int (5 : Int32)), .val (.int (6 : Int32)), .val (.int (6 : Int32)), .val (.int (cs.getD 4 0).toInt8.toInt32), .val (.int (114 : Int32))] [(.int (4 : Int32)), (.ref d2)])) rfl rfl (hb hby d43_30_25) _ k) ?_
  refine og (fun _ k => XS.istore X64.here hx rfl (hb hby d43_30_26) rfl (l' := #[.val (.ref d1), .val (.int (5 : Int32)), .val (.ref d2), .val (.int (5 : Int32)), .val (.int (6 : Int32)), .val (.int (6 : Int32)), .val (.int (cs.getD 4 0).toInt8.toInt32), .val (.int (101 : Int32))]) rfl k) ?_
  refine og (fun _ k => XS.iload X64.here hx rfl (hb hby d43_30_28) rfl k) ?_
  refine og (fun _ k => XS.iload X64.here hx rfl (hb hby d43_30_30) rfl k) ?_
  obtain ⟨v65, T65, L65, X65, hQ65, st65⟩ := scall X64 hx hZ hown (own_g hw 92 rfl) (own_g hw 93 rfl) (own_g hw 94 rfl) (own_g hw 95 rfl) (by decide) (W := 0) (rm_eic l Z a0 hw [] (cs.getD 4 0).toInt8.toInt32 (101 : Int32) h0 (by decide)) e64 (by decide) (by decide) (by decide) (by decide) (g := (mkF m 32 #[.val (.ref d1), .val (.int (5 : Int32)), .val (.ref d2), .val (.int (5 : Int32)), .val (.int (6 : Int32)), .val (.int (6 : Int32)), .val (.int (cs.getD 4 0).toInt8.toInt32), .val (.int (101 : Int32))] [(.int (101 : Int32)), (.int (cs.getD 4 0).toInt8.toInt32)])) rfl (by rw [hml]; rfl) (argsL := [(.int (cs.getD 4 0).toInt8.toInt32), (.int (101 : Int32))]) (rest := []) opd_11 rfl rfl rfl (by show 2 * 0 + _ ≤ _; exact Nat.le_of_eq rfl) (hb hby d43_30_32)
  obtain ⟨rfl, rfl, e65⟩ := hQ65
  rw [List.append_nil] at X65
  refine og st65 ?_
  have c4 : own_cib 4 (cs.getD 4 0) ↔ ((cs.getD 4 0).toInt8.toInt32 = (101 : Int32) ∨ ((cs.getD 4 0).toInt8.toInt32 &&& 223) = ((101 : Int32) &&& 223)) := own_eicx (own_okat (by omega) hok) (by decide)
  by_cases q4 : own_cib 4 (cs.getD 4 0)
  case neg =>
    show OGo p e below _ T65 (mkF m 35 #[.val (.ref d1), .val (.int (5 : Int32)), .val (.ref d2), .val (.int (5 : Int32)), .val (.int (6 : Int32)), .val (.int (6 : Int32)), .val (.int (cs.getD 4 0).toInt8.toInt32), .val (.int (101 : Int32))] [(.int (if (cs.getD 4 0).toInt8.toInt32 = (101 : Int32) ∨ ((cs.getD 4 0).toInt8.toInt32 &&& 223) = ((101 : Int32) &&& 223) then 1 else 0))])
    rw [if_neg (fun h => q4 (c4.mpr h))]
    show OGo p e below _ T65 (mkF m 35 #[.val (.ref d1), .val (.int (5 : Int32)), .val (.ref d2), .val (.int (5 : Int32)), .val (.int (6 : Int32)), .val (.int (6 : Int32)), .val (.int (cs.getD 4 0).toInt8.toInt32), .val (.int (101 : Int32))] [(.int (0 : Int32))])
    refine og (fun _ k => XS.ifYes X65.here hx rfl (pc0 := 35) (pc' := 41) rfl (hb hby d43_30_35) rfl ((if0 _ _).trans (teq (rfl : (0 : Int32) = 0)).1) (by decide) (by decide) k) ?_
    refine og (fun _ k => XS.iconst X65.here hx rfl (hb hby d43_30_41) k) ?_
    show OGo p e below _ T65 (mkF m 42 #[.val (.ref d1), .val (.int (5 : Int32)), .val (.ref d2), .val (.int (5 : Int32)), .val (.int (6 : Int32)), .val (.int (6 : Int32)), .val (.int (cs.getD 4 0).toInt8.toInt32), .val (.int (101 : Int32))] [(.int (0 : Int32))])
    exact OGo.ret X65 hx (t := .boolean) hret hlk rfl (Or.inl ⟨rfl, by simp, _, rfl⟩) (hb hby d43_30_42) (by decide) (by decide) ⟨by rw [if_neg (fun h => q4 h.2.2.2.2.1)], rfl, e65⟩
  show OGo p e below _ T65 (mkF m 35 #[.val (.ref d1), .val (.int (5 : Int32)), .val (.ref d2), .val (.int (5 : Int32)), .val (.int (6 : Int32)), .val (.int (6 : Int32)), .val (.int (cs.getD 4 0).toInt8.toInt32), .val (.int (101 : Int32))] [(.int (if (cs.getD 4 0).toInt8.toInt32 = (101 : Int32) ∨ ((cs.getD 4 0).toInt8.toInt32 &&& 223) = ((101 : Int32) &&& 223) then 1 else 0))])
  rw [if_pos (c4.mp q4)]
  show OGo p e below _ T65 (mkF m 35 #[.val (.ref d1), .val (.int (5 : Int32)), .val (.ref d2), .val (.int (5 : Int32)), .val (.int (6 : Int32)), .val (.int (6 : Int32)), .val (.int (cs.getD 4 0).toInt8.toInt32), .val (.int (101 : Int32))] [(.int (1 : Int32))])
  refine og (fun _ k => XS.ifNo X65.here hx rfl (hb hby d43_30_35) rfl ((if0 _ _).trans (feq (by decide : ¬ (1 : Int32) = 0)).1) k) ?_
  refine og (fun _ k => XS.goto X65.here hx rfl (pc0 := 38) (pc' := 6) rfl (hb hby d43_30_38) (by decide) (by decide) k) ?_
  refine og (fun _ k => XS.iloadN X65.here hx rfl (hb hby d43_30_6) rfl k) ?_
  refine og (fun _ k => XS.iload X65.here hx rfl (hb hby d43_30_7) rfl k) ?_
  show OGo p e below _ T65 (mkF m 9 #[.val (.ref d1), .val (.int (5 : Int32)), .val (.ref d2), .val (.int (5 : Int32)), .val (.int (6 : Int32)), .val (.int (6 : Int32)), .val (.int (cs.getD 4 0).toInt8.toInt32), .val (.int (101 : Int32))] [(.int (6 : Int32)), (.int (5 : Int32))])
  refine og (fun _ k => XS.icmpNo X65.here hx rfl (hb hby d43_30_9) rfl (tlt (by decide : (5 : Int32) < 6)).2.1 k) ?_
  refine og (fun _ k => XS.aloadN X65.here hx rfl (hb hby d43_30_12) rfl rfl k) ?_
  refine og (fun _ k => XS.iloadN X65.here hx rfl (hb hby d43_30_13) rfl k) ?_
  refine og (fun _ k => XS.iinc X65.here hx rfl (hb hby d43_30_14) rfl (l' := #[.val (.ref d1), .val (.int ((5 : Int32) + (1 : Int32))), .val (.ref d2), .val (.int (5 : Int32)), .val (.int (6 : Int32)), .val (.int (6 : Int32)), .val (.int (cs.getD 4 0).toInt8.toInt32), .val (.int (101 : Int32))]) rfl k) ?_
  show OGo p e below _ T65 (mkF m 17 #[.val (.ref d1), .val (.int ((5 : Int32) + (1 : Int32))), .val (.ref d2), .val (.int (5 : Int32)), .val (.int (6 : Int32)), .val (.int (6 : Int32)), .val (.int (cs.getD 4 0).toInt8.toInt32), .val (.int (101 : Int32))] [(.int (5 : Int32)), (.ref d1)])
  rw [show ((5 : Int32) + (1 : Int32)) = (6 : Int32) from by decide]
  refine og (fun _ k => baloadV X65 hx hZ e65 V1 ⟨by decide, (own_lt (a := 5) (by decide) (by omega)).mpr (by omega)⟩ (own_b8at (show 5 < cs.length by omega)) (g := (mkF m 17 #[.val (.ref d1), .val (.int (6 : Int32)), .val (.ref d2), .val (.int (5 : Int32)), .val (.int (6 : Int32)), .val (.int (6 : Int32)), .val (.int (cs.getD 4 0).toInt8.toInt32), .val (.int (101 : Int32))] [(.int (5 : Int32)), (.ref d1)])) rfl rfl (hb hby d43_30_17) _ k) ?_
  refine og (fun _ k => XS.istore X65.here hx rfl (hb hby d43_30_18) rfl (l' := #[.val (.ref d1), .val (.int (6 : Int32)), .val (.ref d2), .val (.int (5 : Int32)), .val (.int (6 : Int32)), .val (.int (6 : Int32)), .val (.int (cs.getD 5 0).toInt8.toInt32), .val (.int (101 : Int32))]) rfl k) ?_
  refine og (fun _ k => XS.aloadN X65.here hx rfl (hb hby d43_30_20) rfl rfl k) ?_
  refine og (fun _ k => XS.iloadN X65.here hx rfl (hb hby d43_30_21) rfl k) ?_
  refine og (fun _ k => XS.iinc X65.here hx rfl (hb hby d43_30_22) rfl (l' := #[.val (.ref d1), .val (.int (6 : Int32)), .val (.ref d2), .val (.int ((5 : Int32) + (1 : Int32))), .val (.int (6 : Int32)), .val (.int (6 : Int32)), .val (.int (cs.getD 5 0).toInt8.toInt32), .val (.int (101 : Int32))]) rfl k) ?_
  show OGo p e below _ T65 (mkF m 25 #[.val (.ref d1), .val (.int (6 : Int32)), .val (.ref d2), .val (.int ((5 : Int32) + (1 : Int32))), .val (.int (6 : Int32)), .val (.int (6 : Int32)), .val (.int (cs.getD 5 0).toInt8.toInt32), .val (.int (101 : Int32))] [(.int (5 : Int32)), (.ref d2)])
  rw [show ((5 : Int32) + (1 : Int32)) = (6 : Int32) from by decide]
  refine og (fun _ k => baloadV X65 hx hZ e65 V2 ⟨by decide, by decide⟩ rfl (g := (mkF m 25 #[.val (.ref d1), .val (.int (6 : Int32)), .val (.ref d2), .val (.int (6 : Int32)), .val (.int (6 : Int32)), .val (.int (6 : Int32)), .val (.int (cs.getD 5 0).toInt8.toInt32), .val (.int (101 : Int32))] [(.int (5 : Int32)), (.ref d2)])) rfl rfl (hb hby d43_30_25) _ k) ?_
  refine og (fun _ k => XS.istore X65.here hx rfl (hb hby d43_30_26) rfl (l' := #[.val (.ref d1), .val (.int (6 : Int32)), .val (.ref d2), .val (.int (6 : Int32)), .val (.int (6 : Int32)), .val (.int (6 : Int32)), .val (.int (cs.getD 5 0).toInt8.toInt32), .val (.int (114 : Int32))]) rfl k) ?_
  refine og (fun _ k => XS.iload X65.here hx rfl (hb hby d43_30_28) rfl k) ?_
  refine og (fun _ k => XS.iload X65.here hx rfl (hb hby d43_30_30) rfl k) ?_
  obtain ⟨v66, T66, L66, X66, hQ66, st66⟩ := scall X65 hx hZ hown (own_g hw 92 rfl) (own_g hw 93 rfl) (own_g hw 94 rfl) (own_g hw 95 rfl) (by decide) (W := 0) (rm_eic l Z a0 hw [] (cs.getD 5 0).toInt8.toInt32 (114 : Int32) h0 (by decide)) e65 (by decide) (by decide) (by decide) (by decide) (g := (mkF m 32 #[.val (.ref d1), .val (.int (6 : Int32)), .val (.ref d2), .val (.int (6 : Int32)), .val (.int (6 : Int32)), .val (.int (6 : Int32)), .val (.int (cs.getD 5 0).toInt8.toInt32), .val (.int (114 : Int32))] [(.int (114 : Int32)), (.int (cs.getD 5 0).toInt8.toInt32)])) rfl (by rw [hml]; rfl) (argsL := [(.int (cs.getD 5 0).toInt8.toInt32), (.int (114 : Int32))]) (rest := []) opd_11 rfl rfl rfl (by show 2 * 0 + _ ≤ _; exact Nat.le_of_eq rfl) (hb hby d43_30_32)
  obtain ⟨rfl, rfl, e66⟩ := hQ66
  rw [List.append_nil] at X66
  refine og st66 ?_
  have c5 : own_cib 5 (cs.getD 5 0) ↔ ((cs.getD 5 0).toInt8.toInt32 = (114 : Int32) ∨ ((cs.getD 5 0).toInt8.toInt32 &&& 223) = ((114 : Int32) &&& 223)) := own_eicx (own_okat (by omega) hok) (by decide)
  by_cases q5 : own_cib 5 (cs.getD 5 0)
  case neg =>
    show OGo p e below _ T66 (mkF m 35 #[.val (.ref d1), .val (.int (6 : Int32)), .val (.ref d2), .val (.int (6 : Int32)), .val (.int (6 : Int32)), .val (.int (6 : Int32)), .val (.int (cs.getD 5 0).toInt8.toInt32), .val (.int (114 : Int32))] [(.int (if (cs.getD 5 0).toInt8.toInt32 = (114 : Int32) ∨ ((cs.getD 5 0).toInt8.toInt32 &&& 223) = ((114 : Int32) &&& 223) then 1 else 0))])
    rw [if_neg (fun h => q5 (c5.mpr h))]
    show OGo p e below _ T66 (mkF m 35 #[.val (.ref d1), .val (.int (6 : Int32)), .val (.ref d2), .val (.int (6 : Int32)), .val (.int (6 : Int32)), .val (.int (6 : Int32)), .val (.int (cs.getD 5 0).toInt8.toInt32), .val (.int (114 : Int32))] [(.int (0 : Int32))])
    refine og (fun _ k => XS.ifYes X66.here hx rfl (pc0 := 35) (pc' := 41) rfl (hb hby d43_30_35) rfl ((if0 _ _).trans (teq (rfl : (0 : Int32) = 0)).1) (by decide) (by decide) k) ?_
    refine og (fun _ k => XS.iconst X66.here hx rfl (hb hby d43_30_41) k) ?_
    show OGo p e below _ T66 (mkF m 42 #[.val (.ref d1), .val (.int (6 : Int32)), .val (.ref d2), .val (.int (6 : Int32)), .val (.int (6 : Int32)), .val (.int (6 : Int32)), .val (.int (cs.getD 5 0).toInt8.toInt32), .val (.int (114 : Int32))] [(.int (0 : Int32))])
    exact OGo.ret X66 hx (t := .boolean) hret hlk rfl (Or.inl ⟨rfl, by simp, _, rfl⟩) (hb hby d43_30_42) (by decide) (by decide) ⟨by rw [if_neg (fun h => q5 h.2.2.2.2.2)], rfl, e66⟩
  show OGo p e below _ T66 (mkF m 35 #[.val (.ref d1), .val (.int (6 : Int32)), .val (.ref d2), .val (.int (6 : Int32)), .val (.int (6 : Int32)), .val (.int (6 : Int32)), .val (.int (cs.getD 5 0).toInt8.toInt32), .val (.int (114 : Int32))] [(.int (if (cs.getD 5 0).toInt8.toInt32 = (114 : Int32) ∨ ((cs.getD 5 0).toInt8.toInt32 &&& 223) = ((114 : Int32) &&& 223) then 1 else 0))])
  rw [if_pos (c5.mp q5)]
  show OGo p e below _ T66 (mkF m 35 #[.val (.ref d1), .val (.int (6 : Int32)), .val (.ref d2), .val (.int (6 : Int32)), .val (.int (6 : Int32)), .val (.int (6 : Int32)), .val (.int (cs.getD 5 0).toInt8.toInt32), .val (.int (114 : Int32))] [(.int (1 : Int32))])
  refine og (fun _ k => XS.ifNo X66.here hx rfl (hb hby d43_30_35) rfl ((if0 _ _).trans (feq (by decide : ¬ (1 : Int32) = 0)).1) k) ?_
  refine og (fun _ k => XS.goto X66.here hx rfl (pc0 := 38) (pc' := 6) rfl (hb hby d43_30_38) (by decide) (by decide) k) ?_
  refine og (fun _ k => XS.iloadN X66.here hx rfl (hb hby d43_30_6) rfl k) ?_
  refine og (fun _ k => XS.iload X66.here hx rfl (hb hby d43_30_7) rfl k) ?_
  show OGo p e below _ T66 (mkF m 9 #[.val (.ref d1), .val (.int (6 : Int32)), .val (.ref d2), .val (.int (6 : Int32)), .val (.int (6 : Int32)), .val (.int (6 : Int32)), .val (.int (cs.getD 5 0).toInt8.toInt32), .val (.int (114 : Int32))] [(.int (6 : Int32)), (.int (6 : Int32))])
  refine og (fun _ k => XS.icmpYes X66.here hx rfl (pc0 := 9) (pc' := 43) rfl (hb hby d43_30_9) rfl (flt (by decide : ¬ (6 : Int32) < 6)).2.1 (by decide) (by decide) k) ?_
  refine og (fun _ k => XS.iconst X66.here hx rfl (hb hby d43_30_43) k) ?_
  show OGo p e below _ T66 (mkF m 44 #[.val (.ref d1), .val (.int (6 : Int32)), .val (.ref d2), .val (.int (6 : Int32)), .val (.int (6 : Int32)), .val (.int (6 : Int32)), .val (.int (cs.getD 5 0).toInt8.toInt32), .val (.int (114 : Int32))] [(.int (1 : Int32))])
  exact OGo.ret X66 hx (t := .boolean) hret hlk rfl (Or.inl ⟨rfl, by simp, _, rfl⟩) (hb hby d43_30_44) (by decide) (by decide) ⟨by rw [if_pos ⟨q0, q1, q2, q3, q4, q5⟩], rfl, e66⟩
theorem own_lsub6 {n : Nat} (h : n ≤ 1000) : (Int32.ofNat n).toInt64 - (6 : Int32).toInt64 < (0 : Int32).toInt64 ↔ n < 6 := by
  rw [Int64.lt_iff_toInt_lt]
  have c := c_lsub (Int32.ofNat n).toInt64 (6 : Int32).toInt64
  have r := rng64 ((Int32.ofNat n).toInt64 - (6 : Int32).toInt64)
  have e1 : (Int32.ofNat n).toInt64.toInt = (n : Int) := by rw [c_i2l, own_toInt (by omega)]
  have e2 : (6 : Int32).toInt64.toInt = 6 := rfl
  have e3 : (0 : Int32).toInt64.toInt = 0 := rfl
  omega
theorem d42_74_0 : DK jdk_42_method_74_code 0 (.iload_n 1) 1 := by decide +kernel
theorem d42_74_1 : DK jdk_42_method_74_code 1 (.ifCond .ne 14) 3 := by decide +kernel
theorem d42_74_15 : DK jdk_42_method_74_code 15 (.iload 4) 2 := by decide +kernel
theorem d42_74_17 : DK jdk_42_method_74_code 17 (.ifCond .lt 38) 3 := by decide +kernel
theorem d42_74_20 : DK jdk_42_method_74_code 20 (.iload_n 2) 1 := by decide +kernel
theorem d42_74_21 : DK jdk_42_method_74_code 21 (.ifCond .lt 34) 3 := by decide +kernel
theorem d42_74_24 : DK jdk_42_method_74_code 24 (.iload_n 2) 1 := by decide +kernel
theorem d42_74_25 : DK jdk_42_method_74_code 25 .i2l 1 := by decide +kernel
theorem d42_74_26 : DK jdk_42_method_74_code 26 (.aload_n 0) 1 := by decide +kernel
theorem opd_12 : parseMethodDescriptor "()I" = some ⟨[], some .int⟩ := by decide +kernel
theorem d42_74_27 : DK jdk_42_method_74_code 27 (.invokevirtual 505) 3 := by decide +kernel
theorem d42_74_30 : DK jdk_42_method_74_code 30 .i2l 1 := by decide +kernel
theorem d42_74_31 : DK jdk_42_method_74_code 31 (.iload 5) 2 := by decide +kernel
theorem d42_74_33 : DK jdk_42_method_74_code 33 .i2l 1 := by decide +kernel
theorem d42_74_34 : DK jdk_42_method_74_code 34 .lsub 1 := by decide +kernel
theorem d42_74_35 : DK jdk_42_method_74_code 35 .lcmp 1 := by decide +kernel
theorem d42_74_36 : DK jdk_42_method_74_code 36 (.ifCond .gt 19) 3 := by decide +kernel
theorem d42_74_55 : DK jdk_42_method_74_code 55 (.iconst 0) 1 := by decide +kernel
theorem d42_74_56 : DK jdk_42_method_74_code 56 .ireturn 1 := by decide +kernel
theorem d42_74_39 : DK jdk_42_method_74_code 39 (.iload 4) 2 := by decide +kernel
theorem d42_74_41 : DK jdk_42_method_74_code 41 .i2l 1 := by decide +kernel
theorem d42_74_42 : DK jdk_42_method_74_code 42 (.aload_n 3) 1 := by decide +kernel
theorem d42_74_43 : DK jdk_42_method_74_code 43 (.invokevirtual 505) 3 := by decide +kernel
theorem d42_74_46 : DK jdk_42_method_74_code 46 .i2l 1 := by decide +kernel
theorem d42_74_47 : DK jdk_42_method_74_code 47 (.iload 5) 2 := by decide +kernel
theorem d42_74_49 : DK jdk_42_method_74_code 49 .i2l 1 := by decide +kernel
theorem d42_74_50 : DK jdk_42_method_74_code 50 .lsub 1 := by decide +kernel
theorem d42_74_51 : DK jdk_42_method_74_code 51 .lcmp 1 := by decide +kernel
theorem d42_74_52 : DK jdk_42_method_74_code 52 (.ifCond .le 5) 3 := by decide +kernel
theorem d42_74_57 : DK jdk_42_method_74_code 57 (.aload_n 0) 1 := by decide +kernel
theorem d42_74_58 : DK jdk_42_method_74_code 58 (.getfield 9) 3 := by decide +kernel
theorem d42_74_61 : DK jdk_42_method_74_code 61 (.astore 6) 2 := by decide +kernel
theorem d42_74_63 : DK jdk_42_method_74_code 63 (.aload_n 3) 1 := by decide +kernel
theorem d42_74_64 : DK jdk_42_method_74_code 64 (.getfield 9) 3 := by decide +kernel
theorem d42_74_67 : DK jdk_42_method_74_code 67 (.astore 7) 2 := by decide +kernel
theorem d42_74_69 : DK jdk_42_method_74_code 69 (.aload_n 0) 1 := by decide +kernel
theorem d42_74_70 : DK jdk_42_method_74_code 70 (.invokevirtual 335) 3 := by decide +kernel
theorem d42_74_73 : DK jdk_42_method_74_code 73 (.istore 8) 2 := by decide +kernel
theorem d42_74_75 : DK jdk_42_method_74_code 75 (.iload 8) 2 := by decide +kernel
theorem d42_74_77 : DK jdk_42_method_74_code 77 (.aload_n 3) 1 := by decide +kernel
theorem d42_74_78 : DK jdk_42_method_74_code 78 (.invokevirtual 335) 3 := by decide +kernel
theorem d42_74_81 : DK jdk_42_method_74_code 81 (.if_icmp .ne 36) 3 := by decide +kernel
theorem d42_74_84 : DK jdk_42_method_74_code 84 (.iload 8) 2 := by decide +kernel
theorem d42_74_86 : DK jdk_42_method_74_code 86 (.ifCond .ne 18) 3 := by decide +kernel
theorem d42_74_89 : DK jdk_42_method_74_code 89 (.aload 6) 2 := by decide +kernel
theorem d42_74_91 : DK jdk_42_method_74_code 91 (.iload_n 2) 1 := by decide +kernel
theorem d42_74_92 : DK jdk_42_method_74_code 92 (.aload 7) 2 := by decide +kernel
theorem d42_74_94 : DK jdk_42_method_74_code 94 (.iload 4) 2 := by decide +kernel
theorem d42_74_96 : DK jdk_42_method_74_code 96 (.iload 5) 2 := by decide +kernel
theorem opd_13 : parseMethodDescriptor "([BI[BII)Z" = some ⟨[(.array .byte), .int, (.array .byte), .int, .int], some .boolean⟩ := by decide +kernel
theorem d42_74_98 : DK jdk_42_method_74_code 98 (.invokestatic 613) 3 := by decide +kernel
theorem d42_74_101 : DK jdk_42_method_74_code 101 (.goto 15) 3 := by decide +kernel
theorem d42_74_116 : DK jdk_42_method_74_code 116 .ireturn 1 := by decide +kernel
theorem opl_rm_regm : plainFor (⟨"java/lang/String", "regionMatches", "(ZILjava/lang/String;II)Z"⟩ : MethodName) = true := plainFor_of_name (by first | (simp [plainName, overriddenIn]; done) | decide +kernel)
theorem rm_regm (l : Launch) (Z : State) (a0 : Array Value) (hw : ∀ d ∈ tables_1, d.before a0 Z = true) (ws : List Jvm.Cond) (a b d1 d2 : Addr) (k1 k2 : ClassId) (cs : List Int32) (zc : Int32) (wf : Value) (n0 : Nat) (h0 : Heap) (SS : own_SS Z zc wf) (O : Old Z n0 h0) (I : STI Z h0 a d1 k1 (own_b8 cs)) (J : STI Z h0 b d2 k2 own_l110) (hok : own_ok8 cs) (h10 : cs.length ≤ 10) :
    Con l Z (⟨"java/lang/String", "regionMatches", "(ZILjava/lang/String;II)Z"⟩ : MethodName) jdk_42_method_74_code 9 (some .boolean) ws ({ frames := 2, cells := 0, slots := 0, locals := 33 } : Room) #[(.ref a), (.int (1 : Int32)), (.int (0 : Int32)), (.ref b), (.int (0 : Int32)), (.int (6 : Int32))] h0 (fun v h L => v = some (.int (if 6 ≤ cs.length ∧ own_bear cs then 1 else 0)) ∧ L = [] ∧ h = h0) := by
  refine Con.intro opl_rm_regm ?_
  intro p e s m below meth c s₁ hx hby hml hown hret hlk hZ hnm X0 e0
  have SS' := SS
  obtain ⟨hzc, SC, hwf, SF⟩ := SS
  have Z0 : n0 ≤ h0.size := O.1 ▸ O.2.1
  have N0 := Fr.nil n0
  obtain ⟨IE, IC, IF, IV⟩ := I
  obtain ⟨JE, JC, JF, JV⟩ := J
  refine OGo.cast (g' := (mkF m 0 #[.val (.ref a), .val (.int (1 : Int32)), .val (.int (0 : Int32)), .val (.ref b), .val (.int (0 : Int32)), .val (.int (6 : Int32)), .unset, .unset, .unset] [])) (by first | (simp [entryFrame, mkF, argsToLocals, Value.category]; done) | rfl) ?_
  refine og (fun _ k => XS.iloadN X0.here hx rfl (hb hby d42_74_0) rfl k) ?_
  show OGo p e below _ s₁ (mkF m 1 #[.val (.ref a), .val (.int (1 : Int32)), .val (.int (0 : Int32)), .val (.ref b), .val (.int (0 : Int32)), .val (.int (6 : Int32)), .unset, .unset, .unset] [(.int (1 : Int32))])
  refine og (fun _ k => XS.ifYes X0.here hx rfl (pc0 := 1) (pc' := 15) rfl (hb hby d42_74_1) rfl ((if0 _ _).trans (feq (by decide : ¬ (1 : Int32) = 0)).2) (by decide) (by decide) k) ?_
  refine og (fun _ k => XS.iload X0.here hx rfl (hb hby d42_74_15) rfl k) ?_
  show OGo p e below _ s₁ (mkF m 17 #[.val (.ref a), .val (.int (1 : Int32)), .val (.int (0 : Int32)), .val (.ref b), .val (.int (0 : Int32)), .val (.int (6 : Int32)), .unset, .unset, .unset] [(.int (0 : Int32))])
  refine og (fun _ k => XS.ifNo X0.here hx rfl (hb hby d42_74_17) rfl ((if0 _ _).trans (flt (by decide : ¬ (0 : Int32) < 0)).1) k) ?_
  refine og (fun _ k => XS.iloadN X0.here hx rfl (hb hby d42_74_20) rfl k) ?_
  show OGo p e below _ s₁ (mkF m 21 #[.val (.ref a), .val (.int (1 : Int32)), .val (.int (0 : Int32)), .val (.ref b), .val (.int (0 : Int32)), .val (.int (6 : Int32)), .unset, .unset, .unset] [(.int (0 : Int32))])
  refine og (fun _ k => XS.ifNo X0.here hx rfl (hb hby d42_74_21) rfl ((if0 _ _).trans (flt (by decide : ¬ (0 : Int32) < 0)).1) k) ?_
  refine og (fun _ k => XS.iloadN X0.here hx rfl (hb hby d42_74_24) rfl k) ?_
  refine og (fun _ k => XS.i2l X0.here hx rfl (hb hby d42_74_25) rfl k) ?_
  refine og (fun _ k => XS.aloadN X0.here hx rfl (hb hby d42_74_26) rfl rfl k) ?_
  obtain ⟨v67, T67, L67, X67, hQ67, st67⟩ := vcall X0 hx hZ hown (own_g hw 78 rfl) (own_g hw 64 rfl) (own_g hw 66 rfl) rfl (own_g hw 66 rfl) (own_g hw 65 rfl) (own_g hw 11 rfl) (own_g hw 67 rfl) (by decide) (W := 2) (rm_length l Z a0 hw [] a d1 k1 (own_b8 cs) zc wf n0 h0 SS' O ⟨IE, IC, IF, IV⟩) e0 (by decide) (by decide) (by decide) (by decide) (g := (mkF m 27 #[.val (.ref a), .val (.int (1 : Int32)), .val (.int (0 : Int32)), .val (.ref b), .val (.int (0 : Int32)), .val (.int (6 : Int32)), .unset, .unset, .unset] [(.ref a), (.long ((0 : Int32).toInt64))])) rfl (by rw [hml]; rfl) IE (argsL := []) (rest := [(.long ((0 : Int32).toInt64))]) opd_12 rfl rfl rfl (by show 2 * 0 + _ ≤ _; exact Nat.le_of_eq rfl) (hb hby d42_74_27)
  obtain ⟨rfl, rfl, e67⟩ := hQ67
  rw [List.append_nil] at X67
  refine og st67 ?_
  show OGo p e below _ T67 (mkF m 30 #[.val (.ref a), .val (.int (1 : Int32)), .val (.int (0 : Int32)), .val (.ref b), .val (.int (0 : Int32)), .val (.int (6 : Int32)), .unset, .unset, .unset] [(.int (Int32.ofNat (own_b8 cs).length)), (.long ((0 : Int32).toInt64))])
  rw [own_b8_len]
  refine og (fun _ k => XS.i2l X67.here hx rfl (hb hby d42_74_30) rfl k) ?_
  refine og (fun _ k => XS.iload X67.here hx rfl (hb hby d42_74_31) rfl k) ?_
  refine og (fun _ k => XS.i2l X67.here hx rfl (hb hby d42_74_33) rfl k) ?_
  refine og (fun _ k => XS.lsub X67.here hx rfl (hb hby d42_74_34) rfl k) ?_
  refine og (fun _ k => XS.lcmp X67.here hx rfl (hb hby d42_74_35) rfl k) ?_
  by_cases h6 : 6 ≤ cs.length
  case neg =>
    show OGo p e below _ T67 (mkF m 36 #[.val (.ref a), .val (.int (1 : Int32)), .val (.int (0 : Int32)), .val (.ref b), .val (.int (0 : Int32)), .val (.int (6 : Int32)), .unset, .unset, .unset] [(.int (lcmpW ((0 : Int32).toInt64) (((Int32.ofNat cs.length).toInt64) - ((6 : Int32).toInt64))))])
    refine og (fun _ k => XS.ifYes X67.here hx rfl (pc0 := 36) (pc' := 55) rfl (hb hby d42_74_36) rfl ((if0 _ _).trans (tlt ((lw_gt _ _).mpr ((own_lsub6 (by omega)).mpr (by omega)))).2.2.1) (by decide) (by decide) k) ?_
    refine og (fun _ k => XS.iconst X67.here hx rfl (hb hby d42_74_55) k) ?_
    show OGo p e below _ T67 (mkF m 56 #[.val (.ref a), .val (.int (1 : Int32)), .val (.int (0 : Int32)), .val (.ref b), .val (.int (0 : Int32)), .val (.int (6 : Int32)), .unset, .unset, .unset] [(.int (0 : Int32))])
    exact OGo.ret X67 hx (t := .boolean) hret hlk rfl (Or.inl ⟨rfl, by simp, _, rfl⟩) (hb hby d42_74_56) (by decide) (by decide) ⟨by rw [if_neg (fun h => h6 h.1)], rfl, e67⟩
  show OGo p e below _ T67 (mkF m 36 #[.val (.ref a), .val (.int (1 : Int32)), .val (.int (0 : Int32)), .val (.ref b), .val (.int (0 : Int32)), .val (.int (6 : Int32)), .unset, .unset, .unset] [(.int (lcmpW ((0 : Int32).toInt64) (((Int32.ofNat cs.length).toInt64) - ((6 : Int32).toInt64))))])
  refine og (fun _ k => XS.ifNo X67.here hx rfl (hb hby d42_74_36) rfl ((if0 _ _).trans (flt (fun h => absurd ((own_lsub6 (by omega)).mp ((lw_gt _ _).mp h)) (by omega))).2.2.1) k) ?_
  refine og (fun _ k => XS.iload X67.here hx rfl (hb hby d42_74_39) rfl k) ?_
  refine og (fun _ k => XS.i2l X67.here hx rfl (hb hby d42_74_41) rfl k) ?_
  refine og (fun _ k => XS.aloadN X67.here hx rfl (hb hby d42_74_42) rfl rfl k) ?_
  obtain ⟨v68, T68, L68, X68, hQ68, st68⟩ := vcall X67 hx hZ hown (own_g hw 78 rfl) (own_g hw 64 rfl) (own_g hw 66 rfl) rfl (own_g hw 66 rfl) (own_g hw 65 rfl) (own_g hw 11 rfl) (own_g hw 67 rfl) (by decide) (W := 2) (rm_length l Z a0 hw [] b d2 k2 own_l110 zc wf n0 h0 SS' O ⟨JE, JC, JF, JV⟩) e67 (by decide) (by decide) (by decide) (by decide) (g := (mkF m 43 #[.val (.ref a), .val (.int (1 : Int32)), .val (.int (0 : Int32)), .val (.ref b), .val (.int (0 : Int32)), .val (.int (6 : Int32)), .unset, .unset, .unset] [(.ref b), (.long ((0 : Int32).toInt64))])) rfl (by rw [hml]; rfl) JE (argsL := []) (rest := [(.long ((0 : Int32).toInt64))]) opd_12 rfl rfl rfl (by show 2 * 0 + _ ≤ _; exact Nat.le_of_eq rfl) (hb hby d42_74_43)
  obtain ⟨rfl, rfl, e68⟩ := hQ68
  rw [List.append_nil] at X68
  refine og st68 ?_
  refine og (fun _ k => XS.i2l X68.here hx rfl (hb hby d42_74_46) rfl k) ?_
  refine og (fun _ k => XS.iload X68.here hx rfl (hb hby d42_74_47) rfl k) ?_
  refine og (fun _ k => XS.i2l X68.here hx rfl (hb hby d42_74_49) rfl k) ?_
  refine og (fun _ k => XS.lsub X68.here hx rfl (hb hby d42_74_50) rfl k) ?_
  refine og (fun _ k => XS.lcmp X68.here hx rfl (hb hby d42_74_51) rfl k) ?_
  show OGo p e below _ T68 (mkF m 52 #[.val (.ref a), .val (.int (1 : Int32)), .val (.int (0 : Int32)), .val (.ref b), .val (.int (0 : Int32)), .val (.int (6 : Int32)), .unset, .unset, .unset] [(.int (lcmpW ((0 : Int32).toInt64) (((Int32.ofNat own_l110.length).toInt64) - ((6 : Int32).toInt64))))])
  refine og (fun _ k => XS.ifYes X68.here hx rfl (pc0 := 52) (pc' := 57) rfl (hb hby d42_74_52) rfl ((if0 _ _).trans (flt (fun h => absurd ((own_lsub6 (n := 6) (by decide)).mp ((lw_gt _ _).mp h)) (by decide))).2.2.2) (by decide) (by decide) k) ?_
  refine og (fun _ k => XS.aloadN X68.here hx rfl (hb hby d42_74_57) rfl rfl k) ?_
  obtain ⟨T69, X69, e69, st69⟩ := getF X68 hx hZ hown (host := "") (Or.inl (own_g hw 30 rfl)) Via.refl e68 IF (g := (mkF m 58 #[.val (.ref a), .val (.int (1 : Int32)), .val (.int (0 : Int32)), .val (.ref b), .val (.int (0 : Int32)), .val (.int (6 : Int32)), .unset, .unset, .unset] [(.ref a)])) rfl rfl (hb hby d42_74_58)
  refine og st69 ?_
  refine og (fun _ k => XS.astore X69.here hx rfl (hb hby d42_74_61) rfl rfl (l' := #[.val (.ref a), .val (.int (1 : Int32)), .val (.int (0 : Int32)), .val (.ref b), .val (.int (0 : Int32)), .val (.int (6 : Int32)), .val (.ref d1), .unset, .unset]) rfl k) ?_
  refine og (fun _ k => XS.aloadN X69.here hx rfl (hb hby d42_74_63) rfl rfl k) ?_
  obtain ⟨T70, X70, e70, st70⟩ := getF X69 hx hZ hown (host := "") (Or.inl (own_g hw 30 rfl)) Via.refl e69 JF (g := (mkF m 64 #[.val (.ref a), .val (.int (1 : Int32)), .val (.int (0 : Int32)), .val (.ref b), .val (.int (0 : Int32)), .val (.int (6 : Int32)), .val (.ref d1), .unset, .unset] [(.ref b)])) rfl rfl (hb hby d42_74_64)
  refine og st70 ?_
  refine og (fun _ k => XS.astore X70.here hx rfl (hb hby d42_74_67) rfl rfl (l' := #[.val (.ref a), .val (.int (1 : Int32)), .val (.int (0 : Int32)), .val (.ref b), .val (.int (0 : Int32)), .val (.int (6 : Int32)), .val (.ref d1), .val (.ref d2), .unset]) rfl k) ?_
  refine og (fun _ k => XS.aloadN X70.here hx rfl (hb hby d42_74_69) rfl rfl k) ?_
  obtain ⟨v71, T71, L71, X71, hQ71, st71⟩ := vcall X70 hx hZ hown (own_g hw 68 rfl) (own_g hw 69 rfl) (own_g hw 71 rfl) rfl (own_g hw 71 rfl) (own_g hw 70 rfl) (own_g hw 11 rfl) (own_g hw 72 rfl) (by decide) (W := 0) (rm_coder l Z a0 hw [] a zc wf n0 h0 SS' O IC) e70 (by decide) (by decide) (by decide) (by decide) (g := (mkF m 70 #[.val (.ref a), .val (.int (1 : Int32)), .val (.int (0 : Int32)), .val (.ref b), .val (.int (0 : Int32)), .val (.int (6 : Int32)), .val (.ref d1), .val (.ref d2), .unset] [(.ref a)])) rfl (by rw [hml]; rfl) IE (argsL := []) (rest := []) opd_0 rfl rfl rfl (by show 2 * 0 + _ ≤ _; exact Nat.le_of_eq rfl) (hb hby d42_74_70)
  obtain ⟨rfl, rfl, e71⟩ := hQ71
  rw [List.append_nil] at X71
  refine og st71 ?_
  refine og (fun _ k => XS.istore X71.here hx rfl (hb hby d42_74_73) rfl (l' := #[.val (.ref a), .val (.int (1 : Int32)), .val (.int (0 : Int32)), .val (.ref b), .val (.int (0 : Int32)), .val (.int (6 : Int32)), .val (.ref d1), .val (.ref d2), .val (.int (0 : Int32))]) rfl k) ?_
  refine og (fun _ k => XS.iload X71.here hx rfl (hb hby d42_74_75) rfl k) ?_
  refine og (fun _ k => XS.aloadN X71.here hx rfl (hb hby d42_74_77) rfl rfl k) ?_
  obtain ⟨v72, T72, L72, X72, hQ72, st72⟩ := vcall X71 hx hZ hown (own_g hw 68 rfl) (own_g hw 69 rfl) (own_g hw 71 rfl) rfl (own_g hw 71 rfl) (own_g hw 70 rfl) (own_g hw 11 rfl) (own_g hw 72 rfl) (by decide) (W := 1) (rm_coder l Z a0 hw [] b zc wf n0 h0 SS' O JC) e71 (by decide) (by decide) (by decide) (by decide) (g := (mkF m 78 #[.val (.ref a), .val (.int (1 : Int32)), .val (.int (0 : Int32)), .val (.ref b), .val (.int (0 : Int32)), .val (.int (6 : Int32)), .val (.ref d1), .val (.ref d2), .val (.int (0 : Int32))] [(.ref b), (.int (0 : Int32))])) rfl (by rw [hml]; rfl) JE (argsL := []) (rest := [(.int (0 : Int32))]) opd_0 rfl rfl rfl (by show 2 * 0 + _ ≤ _; exact Nat.le_of_eq rfl) (hb hby d42_74_78)
  obtain ⟨rfl, rfl, e72⟩ := hQ72
  rw [List.append_nil] at X72
  refine og st72 ?_
  show OGo p e below _ T72 (mkF m 81 #[.val (.ref a), .val (.int (1 : Int32)), .val (.int (0 : Int32)), .val (.ref b), .val (.int (0 : Int32)), .val (.int (6 : Int32)), .val (.ref d1), .val (.ref d2), .val (.int (0 : Int32))] [(.int (0 : Int32)), (.int (0 : Int32))])
  refine og (fun _ k => XS.icmpNo X72.here hx rfl (hb hby d42_74_81) rfl (teq (rfl : (0 : Int32) = 0)).2 k) ?_
  refine og (fun _ k => XS.iload X72.here hx rfl (hb hby d42_74_84) rfl k) ?_
  show OGo p e below _ T72 (mkF m 86 #[.val (.ref a), .val (.int (1 : Int32)), .val (.int (0 : Int32)), .val (.ref b), .val (.int (0 : Int32)), .val (.int (6 : Int32)), .val (.ref d1), .val (.ref d2), .val (.int (0 : Int32))] [(.int (0 : Int32))])
  refine og (fun _ k => XS.ifNo X72.here hx rfl (hb hby d42_74_86) rfl ((if0 _ _).trans (teq (rfl : (0 : Int32) = 0)).2) k) ?_
  refine og (fun _ k => XS.aload X72.here hx rfl (hb hby d42_74_89) rfl rfl k) ?_
  refine og (fun _ k => XS.iloadN X72.here hx rfl (hb hby d42_74_91) rfl k) ?_
  refine og (fun _ k => XS.aload X72.here hx rfl (hb hby d42_74_92) rfl rfl k) ?_
  refine og (fun _ k => XS.iload X72.here hx rfl (hb hby d42_74_94) rfl k) ?_
  refine og (fun _ k => XS.iload X72.here hx rfl (hb hby d42_74_96) rfl k) ?_
  have V1' : Arv Z h0 d1 k1 .byte (Int32.ofNat cs.length) (own_b8 cs) (.int (0 : Int32)) := by have q := IV; rw [own_b8_len] at q; exact q
  obtain ⟨v73, T73, L73, X73, hQ73, st73⟩ := scall X72 hx hZ hown (own_g hw 89 rfl) (own_g hw 90 rfl) (own_g hw 33 rfl) (own_g hw 91 rfl) (by decide) (W := 0) (rm_rmci l Z a0 hw [] d1 d2 k1 k2 cs h0 V1' JV hok h6 h10) e72 (by decide) (by decide) (by decide) (by decide) (g := (mkF m 98 #[.val (.ref a), .val (.int (1 : Int32)), .val (.int (0 : Int32)), .val (.ref b), .val (.int (0 : Int32)), .val (.int (6 : Int32)), .val (.ref d1), .val (.ref d2), .val (.int (0 : Int32))] [(.int (6 : Int32)), (.int (0 : Int32)), (.ref d2), (.int (0 : Int32)), (.ref d1)])) rfl (by rw [hml]; rfl) (argsL := [(.ref d1), (.int (0 : Int32)), (.ref d2), (.int (0 : Int32)), (.int (6 : Int32))]) (rest := []) opd_13 rfl rfl rfl (by show 2 * 0 + _ ≤ _; exact Nat.le_of_eq rfl) (hb hby d42_74_98)
  obtain ⟨rfl, rfl, e73⟩ := hQ73
  rw [List.append_nil] at X73
  refine og st73 ?_
  refine og (fun _ k => XS.goto X73.here hx rfl (pc0 := 101) (pc' := 116) rfl (hb hby d42_74_101) (by decide) (by decide) k) ?_
  by_cases hbr : own_bear cs
  case neg =>
    show OGo p e below _ T73 (mkF m 116 #[.val (.ref a), .val (.int (1 : Int32)), .val (.int (0 : Int32)), .val (.ref b), .val (.int (0 : Int32)), .val (.int (6 : Int32)), .val (.ref d1), .val (.ref d2), .val (.int (0 : Int32))] [(.int (if own_bear cs then 1 else 0))])
    rw [if_neg hbr]
    show OGo p e below _ T73 (mkF m 116 #[.val (.ref a), .val (.int (1 : Int32)), .val (.int (0 : Int32)), .val (.ref b), .val (.int (0 : Int32)), .val (.int (6 : Int32)), .val (.ref d1), .val (.ref d2), .val (.int (0 : Int32))] [(.int (0 : Int32))])
    exact OGo.ret X73 hx (t := .boolean) hret hlk rfl (Or.inl ⟨rfl, by simp, _, rfl⟩) (hb hby d42_74_116) (by decide) (by decide) ⟨by rw [if_neg (fun h => hbr h.2)], rfl, e73⟩
  show OGo p e below _ T73 (mkF m 116 #[.val (.ref a), .val (.int (1 : Int32)), .val (.int (0 : Int32)), .val (.ref b), .val (.int (0 : Int32)), .val (.int (6 : Int32)), .val (.ref d1), .val (.ref d2), .val (.int (0 : Int32))] [(.int (if own_bear cs then 1 else 0))])
  rw [if_pos hbr]
  show OGo p e below _ T73 (mkF m 116 #[.val (.ref a), .val (.int (1 : Int32)), .val (.int (0 : Int32)), .val (.ref b), .val (.int (0 : Int32)), .val (.int (6 : Int32)), .val (.ref d1), .val (.ref d2), .val (.int (0 : Int32))] [(.int (1 : Int32))])
  exact OGo.ret X73 hx (t := .boolean) hret hlk rfl (Or.inl ⟨rfl, by simp, _, rfl⟩) (hb hby d42_74_116) (by decide) (by decide) ⟨by rw [if_pos ⟨h6, hbr⟩], rfl, e73⟩
def own_A : List Int32 := [1207963663, 1207963663, 1207963663, 1207963663, 1207963663, 1207963663, 1207963663, 1207963663, 1207963663, 1476411407, 1342193679, 1476411407, 1610629135, 1342193679, 1207963663, 1207963663, 1207963663, 1207963663, 1207963663, 1207963663, 1207963663, 1207963663, 1207963663, 1207963663, 1207963663, 1207963663, 1207963663, 1207963663, 1342193679, 1342193679, 1342193679, 1476411407, 1610629132, 1744830488, 1744830488, 671088664, 671113242, 671088664, 1744830488, 1744830488, (-402653163), (-402653162), 1744830488, 536870937, 939524120, 536870932, 939524120, 939524120, 402667017, 402667017, 402667017, 402667017, 402667017, 402667017, 402667017, 402667017, 402667017, 402667017, 939524120, 1744830488, (-402653159), 1744830489, (-402653159), 1744830488, 1744830488, 8552417, 8552417, 8552417, 8552417, 8552417, 8552417, 8552417, 8552417, 8552417, 8552417, 8552417, 8552417, 8552417, 8552417, 8552417, 8552417, 8552417, 8552417, 8552417, 8552417, 8552417, 8552417, 8552417, 8552417, 8552417, 8552417, (-402653163), 1744830488, (-402653162), 1744830491, 1744850967, 1744830491, 8486882, 8486882, 8486882, 8486882, 8486882, 8486882, 8486882, 8486882, 8486882, 8486882, 8486882, 8486882, 8486882, 8486882, 8486882, 8486882, 8486882, 8486882, 8486882, 8486882, 8486882, 8486882, 8486882, 8486882, 8486882, 8486882, (-402653163), 1744830489, (-402653162), 1744830489, 1207963663, 1207963663, 1207963663, 1207963663, 1207963663, 1207963663, 1342181391, 1207963663, 1207963663, 1207963663, 1207963663, 1207963663, 1207963663, 1207963663, 1207963663, 1207963663, 1207963663, 1207963663, 1207963663, 1207963663, 1207963663, 1207963663, 1207963663, 1207963663, 1207963663, 1207963663, 1207963663, 1207963663, 1207963663, 1207963663, 1207963663, 1207963663, 1207963663, 939524108, 1744830488, 671113242, 671113242, 671113242, 671113242, 1744830492, 1744830488, 1744830491, 1744830492, 28677, (-402653155), 1744830489, 1207963664, 1744830492, 1744830491, 671088668, 671088665, 402654731, 402654731, 1744830491, 134049794, 1744830488, 1744830488, 1744830491, 402654475, 28677, (-402653154), 1744832523, 1744832523, 1744832523, 1744830488, 8548353, 8548353, 8548353, 8548353, 8548353, 8548353, 8548353, 8548353, 8548353, 8548353, 8548353, 8548353, 8548353, 8548353, 8548353, 8548353, 8548353, 8548353, 8548353, 8548353, 8548353, 8548353, 8548353, 1744830489, 8548353, 8548353, 8548353, 8548353, 8548353, 8548353, 8548353, 134049794, 8482818, 8482818, 8482818, 8482818, 8482818, 8482818, 8482818, 8482818, 8482818, 8482818, 8482818, 8482818, 8482818, 8482818, 8482818, 8482818, 8482818, 8482818, 8482818, 8482818, 8482818, 8482818, 8482818, 1744830489, 8482818, 8482818, 8482818, 8482818, 8482818, 8482818, 8482818, 102592514]
theorem own_Aws : ∀ n : Nat, n < 256 → ((own_A.getD n 0 &&& 28672) = 16384 ↔ own_wsb (Int32.ofNat n) = true) := by decide +kernel
/-- what the sheet says of CharacterDataLatin1 -/
def own_SC (Z : State) (ic dA : Addr) (kA : ClassId) : Prop := Sta Z Z.heap "java/lang/CharacterDataLatin1" "instance" "Ljava/lang/CharacterDataLatin1;" (.ref ic) ∧ Exa Z Z.heap ic "java/lang/CharacterDataLatin1" ∧ Sta Z Z.heap "java/lang/CharacterDataLatin1" "A" "[I" (.ref dA) ∧ Arv Z Z.heap dA kA .int (256 : Int32) (own_A.map Value.int) (.int (0 : Int32))
theorem own_i2cn : ∀ n : Nat, n < 256 → (Int32.ofNat n).toUInt32.toUInt16.toUInt32.toInt32 = Int32.ofNat n := by decide +kernel
theorem own_ail {n : Nat} {d : Value} (h : n < 256) : (own_A.map Value.int).getD (Int32.ofNat n).toNatClampNeg d = .int (own_A.getD n 0) := by
  have hl : own_A.length = 256 := by decide +kernel
  rw [own_cl (by omega)]; simp [List.getD, hl, h]
theorem d116_1_0 : DK jdk_116_method_1_code 0 (.iload_n 1) 1 := by decide +kernel
theorem d116_1_1 : DK jdk_116_method_1_code 1 .i2c 1 := by decide +kernel
theorem d116_1_2 : DK jdk_116_method_1_code 2 (.istore_n 2) 1 := by decide +kernel
theorem d116_1_3 : DK jdk_116_method_1_code 3 (.getstatic 1) 3 := by decide +kernel
theorem d116_1_6 : DK jdk_116_method_1_code 6 (.iload_n 2) 1 := by decide +kernel
theorem d116_1_7 : DK jdk_116_method_1_code 7 .iaload 1 := by decide +kernel
theorem d116_1_8 : DK jdk_116_method_1_code 8 (.istore_n 3) 1 := by decide +kernel
theorem d116_1_9 : DK jdk_116_method_1_code 9 (.iload_n 3) 1 := by decide +kernel
theorem d116_1_10 : DK jdk_116_method_1_code 10 .ireturn 1 := by decide +kernel
theorem opl_rm_prop : plainFor (⟨"java/lang/CharacterDataLatin1", "getProperties", "(I)I"⟩ : MethodName) = true := plainFor_of_name (by first | (simp [plainName, overriddenIn]; done) | decide +kernel)
theorem rm_prop (l : Launch) (Z : State) (a0 : Array Value) (hw : ∀ d ∈ tables_1, d.before a0 Z = true) (ws : List Jvm.Cond) (o : Addr) (n : Nat) (zc : Int32) (wf : Value) (n0 : Nat) (ic dA : Addr) (kA : ClassId) (h0 : Heap) (SS : own_SS Z zc wf) (O : Old Z n0 h0) (SC' : own_SC Z ic dA kA) (hn : n < 256) :
    Con l Z (⟨"java/lang/CharacterDataLatin1", "getProperties", "(I)I"⟩ : MethodName) jdk_116_method_1_code 4 (some .int) ws ({ frames := 0, cells := 0, slots := 0, locals := 0 } : Room) #[(.ref o), (.int (Int32.ofNat (n)))] h0 (fun v h L => v = some (.int (own_A.getD n 0)) ∧ L = [] ∧ h = h0) := by
  refine Con.intro opl_rm_prop ?_
  intro p e s m below meth c s₁ hx hby hml hown hret hlk hZ hnm X0 e0
  obtain ⟨hzc, SC, hwf, SF⟩ := SS
  have Z0 : n0 ≤ h0.size := O.1 ▸ O.2.1
  have N0 := Fr.nil n0
  obtain ⟨Si, Ei, Sa, Va⟩ := SC'
  have Ei0 := Ei.ext O.2
  have Va0 := Va.ext O.2
  refine OGo.cast (g' := (mkF m 0 #[.val (.ref o), .val (.int (Int32.ofNat (n))), .unset, .unset] [])) (by first | (simp [entryFrame, mkF, argsToLocals, Value.category]; done) | rfl) ?_
  refine og (fun _ k => XS.iloadN X0.here hx rfl (hb hby d116_1_0) rfl k) ?_
  refine og (fun _ k => XS.i2c X0.here hx rfl (hb hby d116_1_1) rfl k) ?_
  show OGo p e below _ s₁ (mkF m 2 #[.val (.ref o), .val (.int (Int32.ofNat (n))), .unset, .unset] [(.int ((Int32.ofNat (n)).toUInt32.toUInt16.toUInt32.toInt32))])
  rw [own_i2cn n hn]
  refine og (fun _ k => XS.istoreN X0.here hx rfl (hb hby d116_1_2) rfl (l' := #[.val (.ref o), .val (.int (Int32.ofNat (n))), .val (.int (Int32.ofNat n)), .unset]) rfl k) ?_
  obtain ⟨T74, X74, e74, st74⟩ := getS2 X0 hx hZ hown (host := "") (Or.inl (own_g hw 167 rfl)) Via.refl e0 (Sa.ext O.2) (g := (mkF m 3 #[.val (.ref o), .val (.int (Int32.ofNat (n))), .val (.int (Int32.ofNat n)), .unset] [])) rfl (hb hby d116_1_3)
  refine og st74 ?_
  refine og (fun _ k => XS.iloadN X74.here hx rfl (hb hby d116_1_6) rfl k) ?_
  refine og (fun _ k => ialoadV X74 hx hZ e74 Va0 ⟨own_nn (by omega), (own_lt (b := 256) (by omega) (by decide)).mpr hn⟩ (own_ail hn) (g := (mkF m 7 #[.val (.ref o), .val (.int (Int32.ofNat (n))), .val (.int (Int32.ofNat n)), .unset] [(.int (Int32.ofNat n)), (.ref dA)])) rfl rfl (hb hby d116_1_7) _ k) ?_
  refine og (fun _ k => XS.istoreN X74.here hx rfl (hb hby d116_1_8) rfl (l' := #[.val (.ref o), .val (.int (Int32.ofNat (n))), .val (.int (Int32.ofNat n)), .val (.int (own_A.getD n 0))]) rfl k) ?_
  refine og (fun _ k => XS.iloadN X74.here hx rfl (hb hby d116_1_9) rfl k) ?_
  show OGo p e below _ T74 (mkF m 10 #[.val (.ref o), .val (.int (Int32.ofNat (n))), .val (.int (Int32.ofNat n)), .val (.int (own_A.getD n 0))] [(.int (own_A.getD n 0))])
  exact OGo.ret X74 hx (t := .int) hret hlk rfl (Or.inl ⟨rfl, by simp, _, rfl⟩) (hb hby d116_1_10) (by decide) (by decide) ⟨rfl, rfl, e74⟩
theorem d116_26_0 : DK jdk_116_method_26_code 0 (.aload_n 0) 1 := by decide +kernel
theorem d116_26_1 : DK jdk_116_method_26_code 1 (.iload_n 1) 1 := by decide +kernel
theorem opd_14 : parseMethodDescriptor "(I)I" = some ⟨[.int], some .int⟩ := by decide +kernel
theorem d116_26_2 : DK jdk_116_method_26_code 2 (.invokevirtual 15) 3 := by decide +kernel
theorem d116_26_5 : DK jdk_116_method_26_code 5 (.istore_n 2) 1 := by decide +kernel
theorem d116_26_6 : DK jdk_116_method_26_code 6 (.iload_n 2) 1 := by decide +kernel
theorem d116_26_7 : DK jdk_116_method_26_code 7 (.sipush 28672) 3 := by decide +kernel
theorem d116_26_10 : DK jdk_116_method_26_code 10 .iand 1 := by decide +kernel
theorem d116_26_11 : DK jdk_116_method_26_code 11 (.sipush 16384) 3 := by decide +kernel
theorem d116_26_14 : DK jdk_116_method_26_code 14 (.if_icmp .ne 7) 3 := by decide +kernel
theorem d116_26_21 : DK jdk_116_method_26_code 21 (.iconst 0) 1 := by decide +kernel
theorem d116_26_22 : DK jdk_116_method_26_code 22 .ireturn 1 := by decide +kernel
theorem d116_26_17 : DK jdk_116_method_26_code 17 (.iconst 1) 1 := by decide +kernel
theorem d116_26_18 : DK jdk_116_method_26_code 18 (.goto 4) 3 := by decide +kernel
theorem opl_rm_isws : plainFor (⟨"java/lang/CharacterDataLatin1", "isWhitespace", "(I)Z"⟩ : MethodName) = true := plainFor_of_name (by first | (simp [plainName, overriddenIn]; done) | decide +kernel)
theorem rm_isws (l : Launch) (Z : State) (a0 : Array Value) (hw : ∀ d ∈ tables_1, d.before a0 Z = true) (ws : List Jvm.Cond) (n : Nat) (zc : Int32) (wf : Value) (n0 : Nat) (ic dA : Addr) (kA : ClassId) (h0 : Heap) (SS : own_SS Z zc wf) (O : Old Z n0 h0) (SC' : own_SC Z ic dA kA) (hn : n < 256) :
    Con l Z (⟨"java/lang/CharacterDataLatin1", "isWhitespace", "(I)Z"⟩ : MethodName) jdk_116_method_26_code 3 (some .boolean) ws ({ frames := 1, cells := 0, slots := 0, locals := 15 } : Room) #[(.ref ic), (.int (Int32.ofNat (n)))] h0 (fun v h L => v = some (.int (if own_wsb (Int32.ofNat n) = true then 1 else 0)) ∧ L = [] ∧ h = h0) := by
  refine Con.intro opl_rm_isws ?_
  intro p e s m below meth c s₁ hx hby hml hown hret hlk hZ hnm X0 e0
  have SS' := SS
  obtain ⟨hzc, SC, hwf, SF⟩ := SS
  have Z0 : n0 ≤ h0.size := O.1 ▸ O.2.1
  have N0 := Fr.nil n0
  have SCk := SC'
  obtain ⟨Si, Ei, Sa, Va⟩ := SC'
  have Ei0 := Ei.ext O.2
  have Va0 := Va.ext O.2
  refine OGo.cast (g' := (mkF m 0 #[.val (.ref ic), .val (.int (Int32.ofNat (n))), .unset] [])) (by first | (simp [entryFrame, mkF, argsToLocals, Value.category]; done) | rfl) ?_
  refine og (fun _ k => XS.aloadN X0.here hx rfl (hb hby d116_26_0) rfl rfl k) ?_
  refine og (fun _ k => XS.iloadN X0.here hx rfl (hb hby d116_26_1) rfl k) ?_
  obtain ⟨v75, T75, L75, X75, hQ75, st75⟩ := vcall X0 hx hZ hown (own_g hw 162 rfl) (own_g hw 163 rfl) (own_g hw 165 rfl) rfl (own_g hw 165 rfl) (own_g hw 164 rfl) (own_g hw 94 rfl) (own_g hw 166 rfl) (by decide) (W := 0) (rm_prop l Z a0 hw [] ic n zc wf n0 ic dA kA h0 SS' O SCk hn) e0 (by decide) (by decide) (by decide) (by decide) (g := (mkF m 2 #[.val (.ref ic), .val (.int (Int32.ofNat (n))), .unset] [(.int (Int32.ofNat (n))), (.ref ic)])) rfl (by rw [hml]; rfl) Ei0 (argsL := [(.int (Int32.ofNat (n)))]) (rest := []) opd_14 rfl rfl rfl (by show 2 * 0 + _ ≤ _; exact Nat.le_of_eq rfl) (hb hby d116_26_2)
  obtain ⟨rfl, rfl, e75⟩ := hQ75
  rw [List.append_nil] at X75
  refine og st75 ?_
  refine og (fun _ k => XS.istoreN X75.here hx rfl (hb hby d116_26_5) rfl (l' := #[.val (.ref ic), .val (.int (Int32.ofNat (n))), .val (.int (own_A.getD n 0))]) rfl k) ?_
  refine og (fun _ k => XS.iloadN X75.here hx rfl (hb hby d116_26_6) rfl k) ?_
  refine og (fun _ k => XS.sipush X75.here hx rfl (hb hby d116_26_7) k) ?_
  refine og (fun _ k => XS.iand X75.here hx rfl (hb hby d116_26_10) rfl k) ?_
  refine og (fun _ k => XS.sipush X75.here hx rfl (hb hby d116_26_11) k) ?_
  by_cases q : own_wsb (Int32.ofNat n) = true
  case neg =>
    show OGo p e below _ T75 (mkF m 14 #[.val (.ref ic), .val (.int (Int32.ofNat (n))), .val (.int (own_A.getD n 0))] [(.int (16384 : Int32)), (.int ((own_A.getD n 0) &&& (28672 : Int32)))])
    refine og (fun _ k => XS.icmpYes X75.here hx rfl (pc0 := 14) (pc' := 21) rfl (hb hby d116_26_14) rfl (feq (fun h => q ((own_Aws n hn).mp h))).2 (by decide) (by decide) k) ?_
    refine og (fun _ k => XS.iconst X75.here hx rfl (hb hby d116_26_21) k) ?_
    show OGo p e below _ T75 (mkF m 22 #[.val (.ref ic), .val (.int (Int32.ofNat (n))), .val (.int (own_A.getD n 0))] [(.int (0 : Int32))])
    exact OGo.ret X75 hx (t := .boolean) hret hlk rfl (Or.inl ⟨rfl, by simp, _, rfl⟩) (hb hby d116_26_22) (by decide) (by decide) ⟨by rw [if_neg q], rfl, e75⟩
  show OGo p e below _ T75 (mkF m 14 #[.val (.ref ic), .val (.int (Int32.ofNat (n))), .val (.int (own_A.getD n 0))] [(.int (16384 : Int32)), (.int ((own_A.getD n 0) &&& (28672 : Int32)))])
  refine og (fun _ k => XS.icmpNo X75.here hx rfl (hb hby d116_26_14) rfl (teq ((own_Aws n hn).mpr q)).2 k) ?_
  refine og (fun _ k => XS.iconst X75.here hx rfl (hb hby d116_26_17) k) ?_
  refine og (fun _ k => XS.goto X75.here hx rfl (pc0 := 18) (pc' := 22) rfl (hb hby d116_26_18) (by decide) (by decide) k) ?_
  show OGo p e below _ T75 (mkF m 22 #[.val (.ref ic), .val (.int (Int32.ofNat (n))), .val (.int (own_A.getD n 0))] [(.int (1 : Int32))])
  exact OGo.ret X75 hx (t := .boolean) hret hlk rfl (Or.inl ⟨rfl, by simp, _, rfl⟩) (hb hby d116_26_22) (by decide) (by decide) ⟨by rw [if_pos q], rfl, e75⟩
theorem d43_44_0 : DK jdk_43_method_44_code 0 (.aload_n 0) 1 := by decide +kernel
theorem d43_44_1 : DK jdk_43_method_44_code 1 (.iload_n 1) 1 := by decide +kernel
theorem d43_44_2 : DK jdk_43_method_44_code 2 .baload 1 := by decide +kernel
theorem d43_44_3 : DK jdk_43_method_44_code 3 (.sipush 255) 3 := by decide +kernel
theorem d43_44_6 : DK jdk_43_method_44_code 6 .iand 1 := by decide +kernel
theorem d43_44_7 : DK jdk_43_method_44_code 7 .i2c 1 := by decide +kernel
theorem d43_44_8 : DK jdk_43_method_44_code 8 .ireturn 1 := by decide +kernel
theorem opl_rm_gch : plainFor (⟨"java/lang/StringLatin1", "getChar", "([BI)C"⟩ : MethodName) = true := plainFor_of_name (by first | (simp [plainName, overriddenIn]; done) | decide +kernel)
theorem rm_gch (l : Launch) (Z : State) (a0 : Array Value) (hw : ∀ d ∈ tables_1, d.before a0 Z = true) (ws : List Jvm.Cond) (d : Addr) (k : ClassId) (cs : List Int32) (i : Nat) (h0 : Heap) (V : Arv Z h0 d k .byte (Int32.ofNat cs.length) (own_b8 cs) (.int (0 : Int32))) (hok : own_ok8 cs) (h10 : cs.length ≤ 10) (hi : i < cs.length) :
    Con l Z (⟨"java/lang/StringLatin1", "getChar", "([BI)C"⟩ : MethodName) jdk_43_method_44_code 2 (some .char) ws ({ frames := 0, cells := 0, slots := 0, locals := 0 } : Room) #[(.ref d), (.int (Int32.ofNat (i)))] h0 (fun v h L => v = some (.int (cs.getD i 0)) ∧ L = [] ∧ h = h0) := by
  refine Con.intro opl_rm_gch ?_
  intro p e s m below meth c s₁ hx hby hml hown hret hlk hZ hnm X0 e0
  refine OGo.cast (g' := (mkF m 0 #[.val (.ref d), .val (.int (Int32.ofNat (i)))] [])) (by first | (simp [entryFrame, mkF, argsToLocals, Value.category]; done) | rfl) ?_
  refine og (fun _ k => XS.aloadN X0.here hx rfl (hb hby d43_44_0) rfl rfl k) ?_
  refine og (fun _ k => XS.iloadN X0.here hx rfl (hb hby d43_44_1) rfl k) ?_
  have hat : (own_b8 cs).getD (Int32.ofNat i).toNatClampNeg (.int (0 : Int32)) = .int (cs.getD i 0).toInt8.toInt32 := by rw [own_cl (by omega)]; exact own_b8at hi
  refine og (fun _ k => baloadV X0 hx hZ e0 V ⟨own_nn (by omega), (own_lt (by omega) (by omega)).mpr hi⟩ hat (g := (mkF m 2 #[.val (.ref d), .val (.int (Int32.ofNat (i)))] [(.int (Int32.ofNat (i))), (.ref d)])) rfl rfl (hb hby d43_44_2) _ k) ?_
  refine og (fun _ k => XS.sipush X0.here hx rfl (hb hby d43_44_3) k) ?_
  refine og (fun _ k => XS.iand X0.here hx rfl (hb hby d43_44_6) rfl k) ?_
  refine og (fun _ k => XS.i2c X0.here hx rfl (hb hby d43_44_7) rfl k) ?_
  show OGo p e below _ s₁ (mkF m 8 #[.val (.ref d), .val (.int (Int32.ofNat (i)))] [(.int (((cs.getD i 0).toInt8.toInt32 &&& (255 : Int32)).toUInt32.toUInt16.toUInt32.toInt32))])
  rw [i2c_mask]
  show OGo p e below _ s₁ (mkF m 8 #[.val (.ref d), .val (.int (Int32.ofNat (i)))] [(.int ((cs.getD i 0).toInt8.toInt32 &&& (255 : Int32)))])
  rw [own_lo8 (own_okat hi hok)]
  show OGo p e below _ s₁ (mkF m 8 #[.val (.ref d), .val (.int (Int32.ofNat (i)))] [(.int (cs.getD i 0))])
  exact OGo.ret X0 hx (t := .char) hret hlk (own_narc8 (own_okat hi hok)) (Or.inl ⟨rfl, by simp, _, rfl⟩) (hb hby d43_44_8) (by decide) (by decide) ⟨rfl, rfl, e0⟩
theorem own_ws32 : own_wsb 32 = true ∧ own_wsb 9 = true := by decide
theorem own_lt0 : ¬ (0 : Int32) < 0 := by decide
theorem own_st1 {d : Addr} {x1 x2 v : Int32} {s3 : Slot} (h : One s3) : storeLocals #[.val (.ref d), .val (.int x1), .val (.int x2), s3] 3 (.int v) = some #[.val (.ref d), .val (.int x1), .val (.int x2), .val (.int v)] := by
  rcases h with rfl | ⟨w, rfl, hw⟩
  · rfl
  · cases w <;> first | rfl | (simp [Value.category] at hw)
theorem d43_37_0 : DK jdk_43_method_37_code 0 (.aload_n 0) 1 := by decide +kernel
theorem d43_37_1 : DK jdk_43_method_37_code 1 .arraylength 1 := by decide +kernel
theorem d43_37_2 : DK jdk_43_method_37_code 2 (.istore_n 1) 1 := by decide +kernel
theorem d43_37_3 : DK jdk_43_method_37_code 3 (.iconst 0) 1 := by decide +kernel
theorem d43_37_4 : DK jdk_43_method_37_code 4 (.istore_n 2) 1 := by decide +kernel
theorem d43_37_5 : DK jdk_43_method_37_code 5 (.iload_n 2) 1 := by decide +kernel
theorem d43_37_6 : DK jdk_43_method_37_code 6 (.iload_n 1) 1 := by decide +kernel
theorem d43_37_7 : DK jdk_43_method_37_code 7 (.if_icmp .ge 40) 3 := by decide +kernel
theorem d43_37_47 : DK jdk_43_method_37_code 47 (.iload_n 2) 1 := by decide +kernel
theorem d43_37_48 : DK jdk_43_method_37_code 48 .ireturn 1 := by decide +kernel
theorem d43_37_10 : DK jdk_43_method_37_code 10 (.aload_n 0) 1 := by decide +kernel
theorem d43_37_11 : DK jdk_43_method_37_code 11 (.iload_n 2) 1 := by decide +kernel
theorem d43_37_12 : DK jdk_43_method_37_code 12 (.invokestatic 50) 3 := by decide +kernel
theorem d43_37_15 : DK jdk_43_method_37_code 15 (.istore_n 3) 1 := by decide +kernel
theorem d43_37_16 : DK jdk_43_method_37_code 16 (.iload_n 3) 1 := by decide +kernel
theorem d43_37_17 : DK jdk_43_method_37_code 17 (.bipush 32) 2 := by decide +kernel
theorem d43_37_19 : DK jdk_43_method_37_code 19 (.if_icmp .eq 22) 3 := by decide +kernel
theorem d43_37_41 : DK jdk_43_method_37_code 41 (.iinc 2 1) 3 := by decide +kernel
theorem d43_37_44 : DK jdk_43_method_37_code 44 (.goto (-39)) 3 := by decide +kernel
theorem d43_37_22 : DK jdk_43_method_37_code 22 (.iload_n 3) 1 := by decide +kernel
theorem d43_37_23 : DK jdk_43_method_37_code 23 (.bipush 9) 2 := by decide +kernel
theorem d43_37_25 : DK jdk_43_method_37_code 25 (.if_icmp .eq 16) 3 := by decide +kernel
theorem d43_37_28 : DK jdk_43_method_37_code 28 (.getstatic 66) 3 := by decide +kernel
theorem d43_37_31 : DK jdk_43_method_37_code 31 (.iload_n 3) 1 := by decide +kernel
theorem opd_15 : parseMethodDescriptor "(I)Z" = some ⟨[.int], some .boolean⟩ := by decide +kernel
theorem d43_37_32 : DK jdk_43_method_37_code 32 (.invokevirtual 211) 3 := by decide +kernel
theorem d43_37_35 : DK jdk_43_method_37_code 35 (.ifCond .ne 6) 3 := by decide +kernel
theorem d43_37_38 : DK jdk_43_method_37_code 38 (.goto 9) 3 := by decide +kernel
theorem opl_rm_iws : plainFor (⟨"java/lang/StringLatin1", "indexOfNonWhitespace", "([B)I"⟩ : MethodName) = true := plainFor_of_name (by first | (simp [plainName, overriddenIn]; done) | decide +kernel)
theorem rm_iws (l : Launch) (Z : State) (a0 : Array Value) (hw : ∀ d ∈ tables_1, d.before a0 Z = true) (ws : List Jvm.Cond) (d : Addr) (k : ClassId) (cs : List Int32) (zc : Int32) (wf : Value) (n0 : Nat) (ic dA : Addr) (kA : ClassId) (h0 : Heap) (SS : own_SS Z zc wf) (O : Old Z n0 h0) (SC' : own_SC Z ic dA kA) (V : Arv Z h0 d k .byte (Int32.ofNat cs.length) (own_b8 cs) (.int (0 : Int32))) (hok : own_ok8 cs) (h10 : cs.length ≤ 10) :
    Con l Z (⟨"java/lang/StringLatin1", "indexOfNonWhitespace", "([B)I"⟩ : MethodName) jdk_43_method_37_code 4 (some .int) ws ({ frames := 2, cells := 0, slots := 0, locals := 29 } : Room) #[(.ref d)] h0 (fun v h L => ∃ f : Nat, v = some (.int (Int32.ofNat f)) ∧ f ≤ cs.length ∧ (∀ j, j < f → own_wsb (cs.getD j 0) = true) ∧ (f < cs.length → ¬ own_wsb (cs.getD f 0) = true) ∧ L = [] ∧ h = h0) := by
  refine Con.intro opl_rm_iws ?_
  intro p e s m below meth c s₁ hx hby hml hown hret hlk hZ hnm X0 e0
  have SS' := SS
  obtain ⟨hzc, SC, hwf, SF⟩ := SS
  have Z0 : n0 ≤ h0.size := O.1 ▸ O.2.1
  have N0 := Fr.nil n0
  have SCk := SC'
  obtain ⟨Si, Ei, Sa, Va⟩ := SC'
  have Ei0 := Ei.ext O.2
  have Va0 := Va.ext O.2
  refine OGo.cast (g' := (mkF m 0 #[.val (.ref d), .unset, .unset, .unset] [])) (by first | (simp [entryFrame, mkF, argsToLocals, Value.category]; done) | rfl) ?_
  refine og (fun _ k => XS.aloadN X0.here hx rfl (hb hby d43_37_0) rfl rfl k) ?_
  refine og (fun _ k => alenV X0 hx hZ e0 V (g := (mkF m 1 #[.val (.ref d), .unset, .unset, .unset] [(.ref d)])) rfl rfl (hb hby d43_37_1) _ k) ?_
  refine og (fun _ k => XS.istoreN X0.here hx rfl (hb hby d43_37_2) rfl (l' := #[.val (.ref d), .val (.int (Int32.ofNat cs.length)), .unset, .unset]) rfl k) ?_
  refine og (fun _ k => XS.iconst X0.here hx rfl (hb hby d43_37_3) k) ?_
  refine og (fun _ k => XS.istoreN X0.here hx rfl (hb hby d43_37_4) rfl (l' := #[.val (.ref d), .val (.int (Int32.ofNat cs.length)), .val (.int (0 : Int32)), .unset]) rfl k) ?_
  have loop : ∀ (r i : Nat) (T : State) (s3 : Slot), i + r = cs.length → i ≤ cs.length → (∀ j, j < i → own_wsb (cs.getD j 0) = true) → One s3 → Stand p l e ({ frames := 2, cells := 0, slots := 0, locals := 29 } : Room) s m #[(.ref d)] below meth c T [] 0 0 → T.heap = h0 → OGo p e below (EndQ s ({ frames := 2, cells := 0, slots := 0, locals := 29 } : Room) (fun v h L => ∃ f : Nat, v = some (.int (Int32.ofNat f)) ∧ f ≤ cs.length ∧ (∀ j, j < f → own_wsb (cs.getD j 0) = true) ∧ (f < cs.length → ¬ own_wsb (cs.getD f 0) = true) ∧ L = [] ∧ h = h0)) T (mkF m 5 #[.val (.ref d), .val (.int (Int32.ofNat cs.length)), .val (.int (Int32.ofNat (i))), s3] []) := by
    intro r
    induction r with
    | zero =>
      intro i T s3 hi hle hall h3 X eT
      refine og (fun _ k => XS.iloadN X.here hx rfl (hb hby d43_37_5) rfl k) ?_
      refine og (fun _ k => XS.iloadN X.here hx rfl (hb hby d43_37_6) rfl k) ?_
      have hi' : i = cs.length := by omega
      subst hi'
      show OGo p e below _ T (mkF m 7 #[.val (.ref d), .val (.int (Int32.ofNat cs.length)), .val (.int (Int32.ofNat cs.length)), s3] [(.int (Int32.ofNat cs.length)), (.int (Int32.ofNat cs.length))])
      refine og (fun _ k => XS.icmpYes X.here hx rfl (pc0 := 7) (pc' := 47) rfl (hb hby d43_37_7) rfl (flt Int32.lt_irrefl).2.1 (by decide) (by decide) k) ?_
      refine og (fun _ k => XS.iloadN X.here hx rfl (hb hby d43_37_47) rfl k) ?_
      show OGo p e below _ T (mkF m 48 #[.val (.ref d), .val (.int (Int32.ofNat cs.length)), .val (.int (Int32.ofNat cs.length)), s3] [(.int (Int32.ofNat cs.length))])
      exact OGo.ret X hx (t := .int) hret hlk rfl (Or.inl ⟨rfl, by simp, _, rfl⟩) (hb hby d43_37_48) (by decide) (by decide) ⟨cs.length, rfl, Nat.le_refl _, hall, fun h => absurd h (Nat.lt_irrefl _), rfl, eT⟩
    | succ r ih =>
      intro i T s3 hi hle hall h3 X eT
      have hil : i < cs.length := by omega
      have hc8 := own_okat hil hok
      obtain ⟨n, hn, en⟩ := own_c8n hc8
      refine og (fun _ k => XS.iloadN X.here hx rfl (hb hby d43_37_5) rfl k) ?_
      refine og (fun _ k => XS.iloadN X.here hx rfl (hb hby d43_37_6) rfl k) ?_
      show OGo p e below _ T (mkF m 7 #[.val (.ref d), .val (.int (Int32.ofNat cs.length)), .val (.int (Int32.ofNat (i))), s3] [(.int (Int32.ofNat cs.length)), (.int (Int32.ofNat (i)))])
      refine og (fun _ k => XS.icmpNo X.here hx rfl (hb hby d43_37_7) rfl (tlt ((own_lt (by omega) (by omega)).mpr hil)).2.1 k) ?_
      refine og (fun _ k => XS.aloadN X.here hx rfl (hb hby d43_37_10) rfl rfl k) ?_
      refine og (fun _ k => XS.iloadN X.here hx rfl (hb hby d43_37_11) rfl k) ?_
      obtain ⟨v76, T76, L76, X76, hQ76, st76⟩ := scall X hx hZ hown (own_g hw 153 rfl) (own_g hw 154 rfl) (own_g hw 33 rfl) (own_g hw 155 rfl) (by decide) (W := 0) (rm_gch l Z a0 hw [] d k cs i h0 V hok h10 hil) eT (by decide) (by decide) (by decide) (by decide) (g := (mkF m 12 #[.val (.ref d), .val (.int (Int32.ofNat cs.length)), .val (.int (Int32.ofNat (i))), s3] [(.int (Int32.ofNat (i))), (.ref d)])) rfl (by rw [hml]; rfl) (argsL := [(.ref d), (.int (Int32.ofNat (i)))]) (rest := []) opd_4 rfl rfl rfl (by show 2 * 0 + _ ≤ _; exact Nat.le_of_eq rfl) (hb hby d43_37_12)
      obtain ⟨rfl, rfl, e76⟩ := hQ76
      rw [List.append_nil] at X76
      refine og st76 ?_
      rw [en] at hc8 ⊢
      refine og (fun _ k => XS.istoreN X76.here hx rfl (hb hby d43_37_15) rfl (own_st1 h3) k) ?_
      refine og (fun _ k => XS.iloadN X76.here hx rfl (hb hby d43_37_16) rfl k) ?_
      refine og (fun _ k => XS.bipush X76.here hx rfl (hb hby d43_37_17) k) ?_
      by_cases q1 : Int32.ofNat n = 32
      case pos =>
        show OGo p e below _ T76 (mkF m 19 #[.val (.ref d), .val (.int (Int32.ofNat cs.length)), .val (.int (Int32.ofNat (i))), .val (.int (Int32.ofNat (n)))] [(.int (32 : Int32)), (.int (Int32.ofNat (n)))])
        refine og (fun _ k => XS.icmpYes X76.here hx rfl (pc0 := 19) (pc' := 41) rfl (hb hby d43_37_19) rfl (teq q1).1 (by decide) (by decide) k) ?_
        refine og (fun _ k => XS.iinc X76.here hx rfl (hb hby d43_37_41) rfl (l' := #[.val (.ref d), .val (.int (Int32.ofNat cs.length)), .val (.int ((Int32.ofNat (i)) + (1 : Int32))), .val (.int (Int32.ofNat (n)))]) rfl k) ?_
        show OGo p e below _ T76 (mkF m 44 #[.val (.ref d), .val (.int (Int32.ofNat cs.length)), .val (.int ((Int32.ofNat (i)) + (1 : Int32))), .val (.int (Int32.ofNat (n)))] [])
        rw [own_inc]
        refine og (fun _ k => XS.goto X76.here hx rfl (pc0 := 44) (pc' := 5) rfl (hb hby d43_37_44) (by decide) (by decide) k) ?_
        exact ih (i + 1) T76 _ (by omega) (by omega) (fun j h1 => (Nat.lt_or_ge j i).elim (hall j) (fun h => by rw [show j = i by omega, en]; exact (by rw [q1]; exact own_ws32.1))) (One.val rfl) X76 e76
      show OGo p e below _ T76 (mkF m 19 #[.val (.ref d), .val (.int (Int32.ofNat cs.length)), .val (.int (Int32.ofNat (i))), .val (.int (Int32.ofNat (n)))] [(.int (32 : Int32)), (.int (Int32.ofNat (n)))])
      refine og (fun _ k => XS.icmpNo X76.here hx rfl (hb hby d43_37_19) rfl (feq q1).1 k) ?_
      refine og (fun _ k => XS.iloadN X76.here hx rfl (hb hby d43_37_22) rfl k) ?_
      refine og (fun _ k => XS.bipush X76.here hx rfl (hb hby d43_37_23) k) ?_
      by_cases q2 : Int32.ofNat n = 9
      case pos =>
        show OGo p e below _ T76 (mkF m 25 #[.val (.ref d), .val (.int (Int32.ofNat cs.length)), .val (.int (Int32.ofNat (i))), .val (.int (Int32.ofNat (n)))] [(.int (9 : Int32)), (.int (Int32.ofNat (n)))])
        refine og (fun _ k => XS.icmpYes X76.here hx rfl (pc0 := 25) (pc' := 41) rfl (hb hby d43_37_25) rfl (teq q2).1 (by decide) (by decide) k) ?_
        refine og (fun _ k => XS.iinc X76.here hx rfl (hb hby d43_37_41) rfl (l' := #[.val (.ref d), .val (.int (Int32.ofNat cs.length)), .val (.int ((Int32.ofNat (i)) + (1 : Int32))), .val (.int (Int32.ofNat (n)))]) rfl k) ?_
        show OGo p e below _ T76 (mkF m 44 #[.val (.ref d), .val (.int (Int32.ofNat cs.length)), .val (.int ((Int32.ofNat (i)) + (1 : Int32))), .val (.int (Int32.ofNat (n)))] [])
        rw [own_inc]
        refine og (fun _ k => XS.goto X76.here hx rfl (pc0 := 44) (pc' := 5) rfl (hb hby d43_37_44) (by decide) (by decide) k) ?_
        exact ih (i + 1) T76 _ (by omega) (by omega) (fun j h1 => (Nat.lt_or_ge j i).elim (hall j) (fun h => by rw [show j = i by omega, en]; exact (by rw [q2]; exact own_ws32.2))) (One.val rfl) X76 e76
      show OGo p e below _ T76 (mkF m 25 #[.val (.ref d), .val (.int (Int32.ofNat cs.length)), .val (.int (Int32.ofNat (i))), .val (.int (Int32.ofNat (n)))] [(.int (9 : Int32)), (.int (Int32.ofNat (n)))])
      refine og (fun _ k => XS.icmpNo X76.here hx rfl (hb hby d43_37_25) rfl (feq q2).1 k) ?_
      obtain ⟨T77, X77, e77, st77⟩ := getS2 X76 hx hZ hown (host := "") (Or.inl (own_g hw 156 rfl)) Via.refl e76 (Si.ext O.2) (g := (mkF m 28 #[.val (.ref d), .val (.int (Int32.ofNat cs.length)), .val (.int (Int32.ofNat (i))), .val (.int (Int32.ofNat (n)))] [])) rfl (hb hby d43_37_28)
      refine og st77 ?_
      refine og (fun _ k => XS.iloadN X77.here hx rfl (hb hby d43_37_31) rfl k) ?_
      obtain ⟨v78, T78, L78, X78, hQ78, st78⟩ := vcall X77 hx hZ hown (own_g hw 157 rfl) (own_g hw 158 rfl) (own_g hw 160 rfl) rfl (own_g hw 160 rfl) (own_g hw 159 rfl) (own_g hw 94 rfl) (own_g hw 161 rfl) (by decide) (W := 0) (rm_isws l Z a0 hw [] n zc wf n0 ic dA kA h0 SS' O SCk hn) e77 (by decide) (by decide) (by decide) (by decide) (g := (mkF m 32 #[.val (.ref d), .val (.int (Int32.ofNat cs.length)), .val (.int (Int32.ofNat (i))), .val (.int (Int32.ofNat (n)))] [(.int (Int32.ofNat (n))), (.ref ic)])) rfl (by rw [hml]; rfl) Ei0 (argsL := [(.int (Int32.ofNat (n)))]) (rest := []) opd_15 rfl rfl rfl (by show 2 * 0 + _ ≤ _; exact Nat.le_of_eq rfl) (hb hby d43_37_32)
      obtain ⟨rfl, rfl, e78⟩ := hQ78
      rw [List.append_nil] at X78
      refine og st78 ?_
      by_cases q3 : own_wsb (Int32.ofNat n) = true
      case pos =>
        show OGo p e below _ T78 (mkF m 35 #[.val (.ref d), .val (.int (Int32.ofNat cs.length)), .val (.int (Int32.ofNat (i))), .val (.int (Int32.ofNat (n)))] [(.int (if own_wsb (Int32.ofNat n) = true then 1 else 0))])
        rw [if_pos q3]
        show OGo p e below _ T78 (mkF m 35 #[.val (.ref d), .val (.int (Int32.ofNat cs.length)), .val (.int (Int32.ofNat (i))), .val (.int (Int32.ofNat (n)))] [(.int (1 : Int32))])
        refine og (fun _ k => XS.ifYes X78.here hx rfl (pc0 := 35) (pc' := 41) rfl (hb hby d43_37_35) rfl ((if0 _ _).trans (feq (by decide : ¬ (1 : Int32) = 0)).2) (by decide) (by decide) k) ?_
        refine og (fun _ k => XS.iinc X78.here hx rfl (hb hby d43_37_41) rfl (l' := #[.val (.ref d), .val (.int (Int32.ofNat cs.length)), .val (.int ((Int32.ofNat (i)) + (1 : Int32))), .val (.int (Int32.ofNat (n)))]) rfl k) ?_
        show OGo p e below _ T78 (mkF m 44 #[.val (.ref d), .val (.int (Int32.ofNat cs.length)), .val (.int ((Int32.ofNat (i)) + (1 : Int32))), .val (.int (Int32.ofNat (n)))] [])
        rw [own_inc]
        refine og (fun _ k => XS.goto X78.here hx rfl (pc0 := 44) (pc' := 5) rfl (hb hby d43_37_44) (by decide) (by decide) k) ?_
        exact ih (i + 1) T78 _ (by omega) (by omega) (fun j h1 => (Nat.lt_or_ge j i).elim (hall j) (fun h => by rw [show j = i by omega, en]; exact q3)) (One.val rfl) X78 e78
      show OGo p e below _ T78 (mkF m 35 #[.val (.ref d), .val (.int (Int32.ofNat cs.length)), .val (.int (Int32.ofNat (i))), .val (.int (Int32.ofNat (n)))] [(.int (if own_wsb (Int32.ofNat n) = true then 1 else 0))])
      rw [if_neg q3]
      show OGo p e below _ T78 (mkF m 35 #[.val (.ref d), .val (.int (Int32.ofNat cs.length)), .val (.int (Int32.ofNat (i))), .val (.int (Int32.ofNat (n)))] [(.int (0 : Int32))])
      refine og (fun _ k => XS.ifNo X78.here hx rfl (hb hby d43_37_35) rfl ((if0 _ _).trans (teq (rfl : (0 : Int32) = 0)).2) k) ?_
      refine og (fun _ k => XS.goto X78.here hx rfl (pc0 := 38) (pc' := 47) rfl (hb hby d43_37_38) (by decide) (by decide) k) ?_
      refine og (fun _ k => XS.iloadN X78.here hx rfl (hb hby d43_37_47) rfl k) ?_
      show OGo p e below _ T78 (mkF m 48 #[.val (.ref d), .val (.int (Int32.ofNat cs.length)), .val (.int (Int32.ofNat (i))), .val (.int (Int32.ofNat (n)))] [(.int (Int32.ofNat (i)))])
      exact OGo.ret X78 hx (t := .int) hret hlk rfl (Or.inl ⟨rfl, by simp, _, rfl⟩) (hb hby d43_37_48) (by decide) (by decide) ⟨i, rfl, by omega, hall, fun _ => by rw [en]; exact q3, rfl, e78⟩
  exact loop cs.length 0 _ _ (Nat.zero_add _) (Nat.zero_le _) (fun j h => absurd h (by omega)) One.u X0 e0
theorem d43_38_0 : DK jdk_43_method_38_code 0 (.aload_n 0) 1 := by decide +kernel
theorem d43_38_1 : DK jdk_43_method_38_code 1 .arraylength 1 := by decide +kernel
theorem d43_38_2 : DK jdk_43_method_38_code 2 (.istore_n 1) 1 := by decide +kernel
theorem d43_38_3 : DK jdk_43_method_38_code 3 (.iload_n 1) 1 := by decide +kernel
theorem d43_38_4 : DK jdk_43_method_38_code 4 (.istore_n 2) 1 := by decide +kernel
theorem d43_38_5 : DK jdk_43_method_38_code 5 (.iconst 0) 1 := by decide +kernel
theorem d43_38_6 : DK jdk_43_method_38_code 6 (.iload_n 2) 1 := by decide +kernel
theorem d43_38_7 : DK jdk_43_method_38_code 7 (.if_icmp .ge 42) 3 := by decide +kernel
theorem d43_38_49 : DK jdk_43_method_38_code 49 (.iload_n 2) 1 := by decide +kernel
theorem d43_38_50 : DK jdk_43_method_38_code 50 .ireturn 1 := by decide +kernel
theorem d43_38_10 : DK jdk_43_method_38_code 10 (.aload_n 0) 1 := by decide +kernel
theorem d43_38_11 : DK jdk_43_method_38_code 11 (.iload_n 2) 1 := by decide +kernel
theorem d43_38_12 : DK jdk_43_method_38_code 12 (.iconst 1) 1 := by decide +kernel
theorem d43_38_13 : DK jdk_43_method_38_code 13 .isub 1 := by decide +kernel
theorem d43_38_14 : DK jdk_43_method_38_code 14 (.invokestatic 50) 3 := by decide +kernel
theorem d43_38_17 : DK jdk_43_method_38_code 17 (.istore_n 3) 1 := by decide +kernel
theorem d43_38_18 : DK jdk_43_method_38_code 18 (.iload_n 3) 1 := by decide +kernel
theorem d43_38_19 : DK jdk_43_method_38_code 19 (.bipush 32) 2 := by decide +kernel
theorem d43_38_21 : DK jdk_43_method_38_code 21 (.if_icmp .eq 22) 3 := by decide +kernel
theorem d43_38_43 : DK jdk_43_method_38_code 43 (.iinc 2 (-1)) 3 := by decide +kernel
theorem d43_38_46 : DK jdk_43_method_38_code 46 (.goto (-41)) 3 := by decide +kernel
theorem d43_38_24 : DK jdk_43_method_38_code 24 (.iload_n 3) 1 := by decide +kernel
theorem d43_38_25 : DK jdk_43_method_38_code 25 (.bipush 9) 2 := by decide +kernel
theorem d43_38_27 : DK jdk_43_method_38_code 27 (.if_icmp .eq 16) 3 := by decide +kernel
theorem d43_38_30 : DK jdk_43_method_38_code 30 (.getstatic 66) 3 := by decide +kernel
theorem d43_38_33 : DK jdk_43_method_38_code 33 (.iload_n 3) 1 := by decide +kernel
theorem d43_38_34 : DK jdk_43_method_38_code 34 (.invokevirtual 211) 3 := by decide +kernel
theorem d43_38_37 : DK jdk_43_method_38_code 37 (.ifCond .ne 6) 3 := by decide +kernel
theorem d43_38_40 : DK jdk_43_method_38_code 40 (.goto 9) 3 := by decide +kernel
theorem opl_rm_lws : plainFor (⟨"java/lang/StringLatin1", "lastIndexOfNonWhitespace", "([B)I"⟩ : MethodName) = true := plainFor_of_name (by first | (simp [plainName, overriddenIn]; done) | decide +kernel)
theorem rm_lws (l : Launch) (Z : State) (a0 : Array Value) (hw : ∀ d ∈ tables_1, d.before a0 Z = true) (ws : List Jvm.Cond) (d : Addr) (k : ClassId) (cs : List Int32) (zc : Int32) (wf : Value) (n0 : Nat) (ic dA : Addr) (kA : ClassId) (h0 : Heap) (SS : own_SS Z zc wf) (O : Old Z n0 h0) (SC' : own_SC Z ic dA kA) (V : Arv Z h0 d k .byte (Int32.ofNat cs.length) (own_b8 cs) (.int (0 : Int32))) (hok : own_ok8 cs) (h10 : cs.length ≤ 10) :
    Con l Z (⟨"java/lang/StringLatin1", "lastIndexOfNonWhitespace", "([B)I"⟩ : MethodName) jdk_43_method_38_code 4 (some .int) ws ({ frames := 2, cells := 0, slots := 0, locals := 29 } : Room) #[(.ref d)] h0 (fun v h L => ∃ f : Nat, v = some (.int (Int32.ofNat f)) ∧ f ≤ cs.length ∧ (∀ j, f ≤ j → j < cs.length → own_wsb (cs.getD j 0) = true) ∧ (0 < f → ¬ own_wsb (cs.getD (f - 1) 0) = true) ∧ L = [] ∧ h = h0) := by
  refine Con.intro opl_rm_lws ?_
  intro p e s m below meth c s₁ hx hby hml hown hret hlk hZ hnm X0 e0
  have SS' := SS
  obtain ⟨hzc, SC, hwf, SF⟩ := SS
  have Z0 : n0 ≤ h0.size := O.1 ▸ O.2.1
  have N0 := Fr.nil n0
  have SCk := SC'
  obtain ⟨Si, Ei, Sa, Va⟩ := SC'
  have Ei0 := Ei.ext O.2
  have Va0 := Va.ext O.2
  refine OGo.cast (g' := (mkF m 0 #[.val (.ref d), .unset, .unset, .unset] [])) (by first | (simp [entryFrame, mkF, argsToLocals, Value.category]; done) | rfl) ?_
  refine og (fun _ k => XS.aloadN X0.here hx rfl (hb hby d43_38_0) rfl rfl k) ?_
  refine og (fun _ k => alenV X0 hx hZ e0 V (g := (mkF m 1 #[.val (.ref d), .unset, .unset, .unset] [(.ref d)])) rfl rfl (hb hby d43_38_1) _ k) ?_
  refine og (fun _ k => XS.istoreN X0.here hx rfl (hb hby d43_38_2) rfl (l' := #[.val (.ref d), .val (.int (Int32.ofNat cs.length)), .unset, .unset]) rfl k) ?_
  refine og (fun _ k => XS.iloadN X0.here hx rfl (hb hby d43_38_3) rfl k) ?_
  refine og (fun _ k => XS.istoreN X0.here hx rfl (hb hby d43_38_4) rfl (l' := #[.val (.ref d), .val (.int (Int32.ofNat cs.length)), .val (.int (Int32.ofNat cs.length)), .unset]) rfl k) ?_
  have loop : ∀ (r i : Nat) (T : State) (s3 : Slot), i = r → i ≤ cs.length → (∀ j, i ≤ j → j < cs.length → own_wsb (cs.getD j 0) = true) → One s3 → Stand p l e ({ frames := 2, cells := 0, slots := 0, locals := 29 } : Room) s m #[(.ref d)] below meth c T [] 0 0 → T.heap = h0 → OGo p e below (EndQ s ({ frames := 2, cells := 0, slots := 0, locals := 29 } : Room) (fun v h L => ∃ f : Nat, v = some (.int (Int32.ofNat f)) ∧ f ≤ cs.length ∧ (∀ j, f ≤ j → j < cs.length → own_wsb (cs.getD j 0) = true) ∧ (0 < f → ¬ own_wsb (cs.getD (f - 1) 0) = true) ∧ L = [] ∧ h = h0)) T (mkF m 5 #[.val (.ref d), .val (.int (Int32.ofNat cs.length)), .val (.int (Int32.ofNat (i))), s3] []) := by
    intro r
    induction r with
    | zero =>
      intro i T s3 hi hle hall h3 X eT
      refine og (fun _ k => XS.iconst X.here hx rfl (hb hby d43_38_5) k) ?_
      refine og (fun _ k => XS.iloadN X.here hx rfl (hb hby d43_38_6) rfl k) ?_
      subst hi
      show OGo p e below _ T (mkF m 7 #[.val (.ref d), .val (.int (Int32.ofNat cs.length)), .val (.int (Int32.ofNat (0))), s3] [(.int (Int32.ofNat (0))), (.int (0 : Int32))])
      refine og (fun _ k => XS.icmpYes X.here hx rfl (pc0 := 7) (pc' := 49) rfl (hb hby d43_38_7) rfl (flt own_lt0).2.1 (by decide) (by decide) k) ?_
      refine og (fun _ k => XS.iloadN X.here hx rfl (hb hby d43_38_49) rfl k) ?_
      show OGo p e below _ T (mkF m 50 #[.val (.ref d), .val (.int (Int32.ofNat cs.length)), .val (.int (Int32.ofNat (0))), s3] [(.int (Int32.ofNat (0)))])
      exact OGo.ret X hx (t := .int) hret hlk rfl (Or.inl ⟨rfl, by simp, _, rfl⟩) (hb hby d43_38_50) (by decide) (by decide) ⟨0, rfl, Nat.zero_le _, hall, fun h => absurd h (by decide), rfl, eT⟩
    | succ r ih =>
      intro i T s3 hi hle hall h3 X eT
      subst hi
      have hil : r < cs.length := by omega
      have hc8 := own_okat hil hok
      obtain ⟨n, hn, en⟩ := own_c8n hc8
      refine og (fun _ k => XS.iconst X.here hx rfl (hb hby d43_38_5) k) ?_
      refine og (fun _ k => XS.iloadN X.here hx rfl (hb hby d43_38_6) rfl k) ?_
      show OGo p e below _ T (mkF m 7 #[.val (.ref d), .val (.int (Int32.ofNat cs.length)), .val (.int (Int32.ofNat (r + 1))), s3] [(.int (Int32.ofNat (r + 1))), (.int (0 : Int32))])
      refine og (fun _ k => XS.icmpNo X.here hx rfl (hb hby d43_38_7) rfl (tlt (show Int32.ofNat 0 < Int32.ofNat (r + 1) from (own_lt (by decide) (by omega)).mpr (by omega))).2.1 k) ?_
      refine og (fun _ k => XS.aloadN X.here hx rfl (hb hby d43_38_10) rfl rfl k) ?_
      refine og (fun _ k => XS.iloadN X.here hx rfl (hb hby d43_38_11) rfl k) ?_
      refine og (fun _ k => XS.iconst X.here hx rfl (hb hby d43_38_12) k) ?_
      refine og (fun _ k => XS.isub X.here hx rfl (hb hby d43_38_13) rfl k) ?_
      show OGo p e below _ T (mkF m 14 #[.val (.ref d), .val (.int (Int32.ofNat cs.length)), .val (.int (Int32.ofNat (r + 1))), s3] [(.int ((Int32.ofNat (r + 1)) - (1 : Int32))), (.ref d)])
      rw [own_sub1 (show 1 ≤ r + 1 by omega)]
      obtain ⟨v79, T79, L79, X79, hQ79, st79⟩ := scall X hx hZ hown (own_g hw 153 rfl) (own_g hw 154 rfl) (own_g hw 33 rfl) (own_g hw 155 rfl) (by decide) (W := 0) (rm_gch l Z a0 hw [] d k cs r h0 V hok h10 hil) eT (by decide) (by decide) (by decide) (by decide) (g := (mkF m 14 #[.val (.ref d), .val (.int (Int32.ofNat cs.length)), .val (.int (Int32.ofNat (r + 1))), s3] [(.int (Int32.ofNat (r))), (.ref d)])) rfl (by rw [hml]; rfl) (argsL := [(.ref d), (.int (Int32.ofNat (r)))]) (rest := []) opd_4 rfl rfl rfl (by show 2 * 0 + _ ≤ _; exact Nat.le_of_eq rfl) (hb hby d43_38_14)
      obtain ⟨rfl, rfl, e79⟩ := hQ79
      rw [List.append_nil] at X79
      refine og st79 ?_
      rw [en] at hc8 ⊢
      refine og (fun _ k => XS.istoreN X79.here hx rfl (hb hby d43_38_17) rfl (own_st1 h3) k) ?_
      refine og (fun _ k => XS.iloadN X79.here hx rfl (hb hby d43_38_18) rfl k) ?_
      refine og (fun _ k => XS.bipush X79.here hx rfl (hb hby d43_38_19) k) ?_
      by_cases q1 : Int32.ofNat n = 32
      case pos =>
        show OGo p e below _ T79 (mkF m 21 #[.val (.ref d), .val (.int (Int32.ofNat cs.length)), .val (.int (Int32.ofNat (r + 1))), .val (.int (Int32.ofNat (n)))] [(.int (32 : Int32)), (.int (Int32.ofNat (n)))])
        refine og (fun _ k => XS.icmpYes X79.here hx rfl (pc0 := 21) (pc' := 43) rfl (hb hby d43_38_21) rfl (teq q1).1 (by decide) (by decide) k) ?_
        refine og (fun _ k => XS.iinc X79.here hx rfl (hb hby d43_38_43) rfl (l' := #[.val (.ref d), .val (.int (Int32.ofNat cs.length)), .val (.int ((Int32.ofNat (r + 1)) + (-1 : Int32))), .val (.int (Int32.ofNat (n)))]) rfl k) ?_
        show OGo p e below _ T79 (mkF m 46 #[.val (.ref d), .val (.int (Int32.ofNat cs.length)), .val (.int ((Int32.ofNat (r + 1)) + (-1 : Int32))), .val (.int (Int32.ofNat (n)))] [])
        rw [own_dec (show 1 ≤ r + 1 by omega), Nat.add_sub_cancel]
        refine og (fun _ k => XS.goto X79.here hx rfl (pc0 := 46) (pc' := 5) rfl (hb hby d43_38_46) (by decide) (by decide) k) ?_
        exact ih r T79 _ rfl (by omega) (fun j h1 h2 => (Nat.lt_or_ge r j).elim (fun h => hall j (by omega) h2) (fun h => by rw [show j = r by omega, en]; exact (by rw [q1]; exact own_ws32.1))) (One.val rfl) X79 e79
      show OGo p e below _ T79 (mkF m 21 #[.val (.ref d), .val (.int (Int32.ofNat cs.length)), .val (.int (Int32.ofNat (r + 1))), .val (.int (Int32.ofNat (n)))] [(.int (32 : Int32)), (.int (Int32.ofNat (n)))])
      refine og (fun _ k => XS.icmpNo X79.here hx rfl (hb hby d43_38_21) rfl (feq q1).1 k) ?_
      refine og (fun _ k => XS.iloadN X79.here hx rfl (hb hby d43_38_24) rfl k) ?_
      refine og (fun _ k => XS.bipush X79.here hx rfl (hb hby d43_38_25) k) ?_
      by_cases q2 : Int32.ofNat n = 9
      case pos =>
        show OGo p e below _ T79 (mkF m 27 #[.val (.ref d), .val (.int (Int32.ofNat cs.length)), .val (.int (Int32.ofNat (r + 1))), .val (.int (Int32.ofNat (n)))] [(.int (9 : Int32)), (.int (Int32.ofNat (n)))])
        refine og (fun _ k => XS.icmpYes X79.here hx rfl (pc0 := 27) (pc' := 43) rfl (hb hby d43_38_27) rfl (teq q2).1 (by decide) (by decide) k) ?_
        refine og (fun _ k => XS.iinc X79.here hx rfl (hb hby d43_38_43) rfl (l' := #[.val (.ref d), .val (.int (Int32.ofNat cs.length)), .val (.int ((Int32.ofNat (r + 1)) + (-1 : Int32))), .val (.int (Int32.ofNat (n)))]) rfl k) ?_
        show OGo p e below _ T79 (mkF m 46 #[.val (.ref d), .val (.int (Int32.ofNat cs.length)), .val (.int ((Int32.ofNat (r + 1)) + (-1 : Int32))), .val (.int (Int32.ofNat (n)))] [])
        rw [own_dec (show 1 ≤ r + 1 by omega), Nat.add_sub_cancel]
        refine og (fun _ k => XS.goto X79.here hx rfl (pc0 := 46) (pc' := 5) rfl (hb hby d43_38_46) (by decide) (by decide) k) ?_
        exact ih r T79 _ rfl (by omega) (fun j h1 h2 => (Nat.lt_or_ge r j).elim (fun h => hall j (by omega) h2) (fun h => by rw [show j = r by omega, en]; exact (by rw [q2]; exact own_ws32.2))) (One.val rfl) X79 e79
      show OGo p e below _ T79 (mkF m 27 #[.val (.ref d), .val (.int (Int32.ofNat cs.length)), .val (.int (Int32.ofNat (r + 1))), .val (.int (Int32.ofNat (n)))] [(.int (9 : Int32)), (.int (Int32.ofNat (n)))])
      refine og (fun _ k => XS.icmpNo X79.here hx rfl (hb hby d43_38_27) rfl (feq q2).1 k) ?_
      obtain ⟨T80, X80, e80, st80⟩ := getS2 X79 hx hZ hown (host := "") (Or.inl (own_g hw 156 rfl)) Via.refl e79 (Si.ext O.2) (g := (mkF m 30 #[.val (.ref d), .val (.int (Int32.ofNat cs.length)), .val (.int (Int32.ofNat (r + 1))), .val (.int (Int32.ofNat (n)))] [])) rfl (hb hby d43_38_30)
      refine og st80 ?_
      refine og (fun _ k => XS.iloadN X80.here hx rfl (hb hby d43_38_33) rfl k) ?_
      obtain ⟨v81, T81, L81, X81, hQ81, st81⟩ := vcall X80 hx hZ hown (own_g hw 157 rfl) (own_g hw 158 rfl) (own_g hw 160 rfl) rfl (own_g hw 160 rfl) (own_g hw 159 rfl) (own_g hw 94 rfl) (own_g hw 161 rfl) (by decide) (W := 0) (rm_isws l Z a0 hw [] n zc wf n0 ic dA kA h0 SS' O SCk hn) e80 (by decide) (by decide) (by decide) (by decide) (g := (mkF m 34 #[.val (.ref d), .val (.int (Int32.ofNat cs.length)), .val (.int (Int32.ofNat (r + 1))), .val (.int (Int32.ofNat (n)))] [(.int (Int32.ofNat (n))), (.ref ic)])) rfl (by rw [hml]; rfl) Ei0 (argsL := [(.int (Int32.ofNat (n)))]) (rest := []) opd_15 rfl rfl rfl (by show 2 * 0 + _ ≤ _; exact Nat.le_of_eq rfl) (hb hby d43_38_34)
      obtain ⟨rfl, rfl, e81⟩ := hQ81
      rw [List.append_nil] at X81
      refine og st81 ?_
      by_cases q3 : own_wsb (Int32.ofNat n) = true
      case pos =>
        show OGo p e below _ T81 (mkF m 37 #[.val (.ref d), .val (.int (Int32.ofNat cs.length)), .val (.int (Int32.ofNat (r + 1))), .val (.int (Int32.ofNat (n)))] [(.int (if own_wsb (Int32.ofNat n) = true then 1 else 0))])
        rw [if_pos q3]
        show OGo p e below _ T81 (mkF m 37 #[.val (.ref d), .val (.int (Int32.ofNat cs.length)), .val (.int (Int32.ofNat (r + 1))), .val (.int (Int32.ofNat (n)))] [(.int (1 : Int32))])
        refine og (fun _ k => XS.ifYes X81.here hx rfl (pc0 := 37) (pc' := 43) rfl (hb hby d43_38_37) rfl ((if0 _ _).trans (feq (by decide : ¬ (1 : Int32) = 0)).2) (by decide) (by decide) k) ?_
        refine og (fun _ k => XS.iinc X81.here hx rfl (hb hby d43_38_43) rfl (l' := #[.val (.ref d), .val (.int (Int32.ofNat cs.length)), .val (.int ((Int32.ofNat (r + 1)) + (-1 : Int32))), .val (.int (Int32.ofNat (n)))]) rfl k) ?_
        show OGo p e below _ T81 (mkF m 46 #[.val (.ref d), .val (.int (Int32.ofNat cs.length)), .val (.int ((Int32.ofNat (r + 1)) + (-1 : Int32))), .val (.int (Int32.ofNat (n)))] [])
        rw [own_dec (show 1 ≤ r + 1 by omega), Nat.add_sub_cancel]
        refine og (fun _ k => XS.goto X81.here hx rfl (pc0 := 46) (pc' := 5) rfl (hb hby d43_38_46) (by decide) (by decide) k) ?_
        exact ih r T81 _ rfl (by omega) (fun j h1 h2 => (Nat.lt_or_ge r j).elim (fun h => hall j (by omega) h2) (fun h => by rw [show j = r by omega, en]; exact q3)) (One.val rfl) X81 e81
      show OGo p e below _ T81 (mkF m 37 #[.val (.ref d), .val (.int (Int32.ofNat cs.length)), .val (.int (Int32.ofNat (r + 1))), .val (.int (Int32.ofNat (n)))] [(.int (if own_wsb (Int32.ofNat n) = true then 1 else 0))])
      rw [if_neg q3]
      show OGo p e below _ T81 (mkF m 37 #[.val (.ref d), .val (.int (Int32.ofNat cs.length)), .val (.int (Int32.ofNat (r + 1))), .val (.int (Int32.ofNat (n)))] [(.int (0 : Int32))])
      refine og (fun _ k => XS.ifNo X81.here hx rfl (hb hby d43_38_37) rfl ((if0 _ _).trans (teq (rfl : (0 : Int32) = 0)).2) k) ?_
      refine og (fun _ k => XS.goto X81.here hx rfl (pc0 := 40) (pc' := 49) rfl (hb hby d43_38_40) (by decide) (by decide) k) ?_
      refine og (fun _ k => XS.iloadN X81.here hx rfl (hb hby d43_38_49) rfl k) ?_
      show OGo p e below _ T81 (mkF m 50 #[.val (.ref d), .val (.int (Int32.ofNat cs.length)), .val (.int (Int32.ofNat (r + 1))), .val (.int (Int32.ofNat (n)))] [(.int (Int32.ofNat (r + 1)))])
      exact OGo.ret X81 hx (t := .int) hret hlk rfl (Or.inl ⟨rfl, by simp, _, rfl⟩) (hb hby d43_38_50) (by decide) (by decide) ⟨r + 1, rfl, by omega, hall, fun _ => by rw [Nat.add_sub_cancel, en]; exact q3, rfl, e81⟩
  exact loop cs.length cs.length _ _ rfl (Nat.le_refl _) (fun j h1 h2 => absurd h1 (by omega)) One.u X0 e0
theorem own_rng (us : List Value) (d : Value) (so nn : Nat) (h : so + nn ≤ us.length) : (us.drop so).take nn = (List.range nn).map fun i => us.getD (so + i) d := by
  apply List.ext_getElem
  · simp; omega
  · intro i h1 h2
    simp at h1 h2 ⊢
    rw [List.getElem?_eq_getElem (by omega)]; rfl
theorem own_cp2 {p : Program} {l : Launch} {e : Env} {R : Room} {s : State} {m : MethodId} {args : Array Value} {below : List Frame} {meth : Method} {c : Code} {T : State} {locs : List Loc} {cells slots : Nat} {Z : State} {a0 : Array Value} {h : Heap} {a b : Addr} {k k' : ClassId}
    (X : Stand p l e R s m args below meth c T locs cells slots) (hx : p.tables.exec = Jvm.exec) (hZ : Z.Warmed39 s.vm) {own : String} {index : Nat} (hown : s.vm.findClass own = some m.cls)
    (w1 : (Jvm.Cond.methodLink own index Jvm.Stand.acN).before a0 Z = true) (w2 : (Jvm.Cond.native Jvm.Stand.acN).before a0 Z = true) (w3 : (Jvm.Cond.static Jvm.Stand.acN).before a0 Z = true) (w4 : (Jvm.Cond.initialized "java/lang/System").before a0 Z = true) (eT : T.heap = h)
    {zs z : Int32} {us : List Value} {so nn : Nat} (A : Arv Z h a k .byte zs us (.int (0 : Int32))) (B : Arv Z h b k' .byte z [] (.int (0 : Int32))) (hs1 : so + nn ≤ zs.toNatClampNeg) (hs2 : nn ≤ z.toNatClampNeg) (hb : so + nn < 2147483648) (hul : so + nn ≤ us.length)
    {n0 : Nat} (N : Fr n0 locs) (ge : n0 ≤ b) {g : JFrame} (hg : g.method = m) (hsize : g.locals.size = c.maxLocals) {rest : List Value} (hs : g.stack = .int (Int32.ofNat nn) :: .int (0 : Int32) :: .ref b :: .int (Int32.ofNat so) :: .ref a :: rest) (hd : decode c.code g.pc = .ok (.invokestatic index, 3))
    (hf : 1 ≤ R.frames) {W : Nat} (hW : 2 * g.monitorRoom + (rest.map fun v => v.category).sum ≤ W) (hlo : W + (nativeFrameWords "java/lang/System" "arraycopy" 5 + 11) ≤ R.locals) :
    ∃ T' h' L, Stand p l e R s m args below meth c T' L cells slots ∧ T'.heap = h' ∧ Fr n0 L ∧ Keep h h' [b] ∧ Arv Z h' b k' .byte z ((us.drop so).take nn) (.int (0 : Int32)) ∧
      ∀ target, Steps p.tables e below (T'.setTop { g with pc := g.pc + 3, stack := rest }) target → Steps p.tables e below (T.setTop g) target := by
  have c1 := own_cl (show nn < 2147483648 by omega)
  have c2 := own_cl (show so < 2147483648 by omega)
  have c0 : (0 : Int32).toNatClampNeg = 0 := by decide
  have B' : Arv Z h b k' .byte z (List.replicate nn (.int (0 : Int32))) (.int (0 : Int32)) := B.pad (pad_rep [] _ _)
  obtain ⟨T', h', L, X', e', N', K', V', st⟩ := cpA X hx hZ hown w1 w2 w3 w4 eT (sp := Int32.ofNat so) (dp := 0) (nn := Int32.ofNat nn) (us := (us.drop so).take nn) A B' (Or.inl ⟨rfl, rfl⟩) (own_nn (by omega)) (by decide) (own_nn (by omega)) (by rw [c1, c2]; exact hs1) (by rw [c1, c0]; omega) (by rw [c1, c2]; exact own_rng us _ so nn hul) (by rw [c1, c0]; simp) N ge hg hsize hs hd hf hW hlo
  refine ⟨T', h', L, X', e', N', K', ?_, st⟩
  rw [c1, c0] at V'
  simpa using V'
theorem d65_131_0 : DK jdk_65_method_131_code 0 (.iload_n 1) 1 := by decide +kernel
theorem d65_131_1 : DK jdk_65_method_131_code 1 (.iload_n 0) 1 := by decide +kernel
theorem d65_131_2 : DK jdk_65_method_131_code 2 (.if_icmp .ge 35) 3 := by decide +kernel
theorem d65_131_37 : DK jdk_65_method_131_code 37 .return_ 1 := by decide +kernel
theorem opl_rm_chk : plainFor (⟨"java/util/Arrays", "checkLength", "(II)V"⟩ : MethodName) = true := plainFor_of_name (by first | (simp [plainName, overriddenIn]; done) | decide +kernel)
theorem rm_chk (l : Launch) (Z : State) (a0 : Array Value) (hw : ∀ d ∈ tables_1, d.before a0 Z = true) (ws : List Jvm.Cond) (f t : Int32) (h0 : Heap) (hft : ¬ t < f) :
    Con l Z (⟨"java/util/Arrays", "checkLength", "(II)V"⟩ : MethodName) jdk_65_method_131_code 2 none ws ({ frames := 0, cells := 0, slots := 0, locals := 0 } : Room) #[(.int f), (.int t)] h0 (fun v h L => v = none ∧ L = [] ∧ h = h0) := by
  refine Con.intro opl_rm_chk ?_
  intro p e s m below meth c s₁ hx hby hml hown hret hlk hZ hnm X0 e0
  refine OGo.cast (g' := (mkF m 0 #[.val (.int f), .val (.int t)] [])) (by first | (simp [entryFrame, mkF, argsToLocals, Value.category]; done) | rfl) ?_
  refine og (fun _ k => XS.iloadN X0.here hx rfl (hb hby d65_131_0) rfl k) ?_
  refine og (fun _ k => XS.iloadN X0.here hx rfl (hb hby d65_131_1) rfl k) ?_
  show OGo p e below _ s₁ (mkF m 2 #[.val (.int f), .val (.int t)] [(.int f), (.int t)])
  refine og (fun _ k => XS.icmpYes X0.here hx rfl (pc0 := 2) (pc' := 37) rfl (hb hby d65_131_2) rfl (flt hft).2.1 (by decide) (by decide) k) ?_
  show OGo p e below _ s₁ (mkF m 37 #[.val (.int f), .val (.int t)] [])
  exact OGo.retV X0 hx hret hlk (hb hby d65_131_37) (by decide) (by decide) ⟨rfl, rfl, e0⟩
theorem d29_69_0 : DK jdk_29_method_69_code 0 (.iload_n 0) 1 := by decide +kernel
theorem d29_69_1 : DK jdk_29_method_69_code 1 (.iload_n 1) 1 := by decide +kernel
theorem d29_69_2 : DK jdk_29_method_69_code 2 (.if_icmp .gt 7) 3 := by decide +kernel
theorem d29_69_9 : DK jdk_29_method_69_code 9 (.iload_n 1) 1 := by decide +kernel
theorem d29_69_10 : DK jdk_29_method_69_code 10 .ireturn 1 := by decide +kernel
theorem d29_69_5 : DK jdk_29_method_69_code 5 (.iload_n 0) 1 := by decide +kernel
theorem d29_69_6 : DK jdk_29_method_69_code 6 (.goto 4) 3 := by decide +kernel
theorem opl_rm_minC : plainFor (⟨"java/lang/Math", "min", "(II)I"⟩ : MethodName) = true := Jvm.Free.JP.mathPlain rfl (by decide +kernel)
theorem rm_minC (l : Launch) (Z : State) (a0 : Array Value) (hw : ∀ d ∈ tables_1, d.before a0 Z = true) (ws : List Jvm.Cond) (a b : Int32) (h0 : Heap) (hab : ¬ b < a → a = b) :
    Con l Z (⟨"java/lang/Math", "min", "(II)I"⟩ : MethodName) jdk_29_method_69_code 2 (some .int) ws ({ frames := 0, cells := 0, slots := 0, locals := 0 } : Room) #[(.int a), (.int b)] h0 (fun v h L => v = some (.int b) ∧ L = [] ∧ h = h0) := by
  refine Con.intro opl_rm_minC ?_
  intro p e s m below meth c s₁ hx hby hml hown hret hlk hZ hnm X0 e0
  refine OGo.cast (g' := (mkF m 0 #[.val (.int a), .val (.int b)] [])) (by first | (simp [entryFrame, mkF, argsToLocals, Value.category]; done) | rfl) ?_
  refine og (fun _ k => XS.iloadN X0.here hx rfl (hb hby d29_69_0) rfl k) ?_
  refine og (fun _ k => XS.iloadN X0.here hx rfl (hb hby d29_69_1) rfl k) ?_
  by_cases q : b < a
  case pos =>
    show OGo p e below _ s₁ (mkF m 2 #[.val (.int a), .val (.int b)] [(.int b), (.int a)])
    refine og (fun _ k => XS.icmpYes X0.here hx rfl (pc0 := 2) (pc' := 9) rfl (hb hby d29_69_2) rfl (tlt q).2.2.1 (by decide) (by decide) k) ?_
    refine og (fun _ k => XS.iloadN X0.here hx rfl (hb hby d29_69_9) rfl k) ?_
    show OGo p e below _ s₁ (mkF m 10 #[.val (.int a), .val (.int b)] [(.int b)])
    exact OGo.ret X0 hx (t := .int) hret hlk rfl (Or.inl ⟨rfl, by simp, _, rfl⟩) (hb hby d29_69_10) (by decide) (by decide) ⟨rfl, rfl, e0⟩
  have e2 : a = b := hab q
  show OGo p e below _ s₁ (mkF m 2 #[.val (.int a), .val (.int b)] [(.int b), (.int a)])
  refine og (fun _ k => XS.icmpNo X0.here hx rfl (hb hby d29_69_2) rfl (flt q).2.2.1 k) ?_
  refine og (fun _ k => XS.iloadN X0.here hx rfl (hb hby d29_69_5) rfl k) ?_
  refine og (fun _ k => XS.goto X0.here hx rfl (pc0 := 6) (pc' := 10) rfl (hb hby d29_69_6) (by decide) (by decide) k) ?_
  show OGo p e below _ s₁ (mkF m 10 #[.val (.int a), .val (.int b)] [(.int a)])
  exact OGo.ret X0 hx (t := .int) hret hlk rfl (Or.inl ⟨rfl, by simp, _, rfl⟩) (hb hby d29_69_10) (by decide) (by decide) ⟨by rw [e2], rfl, e0⟩
theorem d65_133_0 : DK jdk_65_method_133_code 0 (.iload_n 1) 1 := by decide +kernel
theorem d65_133_1 : DK jdk_65_method_133_code 1 (.iload_n 2) 1 := by decide +kernel
theorem d65_133_2 : DK jdk_65_method_133_code 2 (.invokestatic 343) 3 := by decide +kernel
theorem d65_133_5 : DK jdk_65_method_133_code 5 (.iload_n 2) 1 := by decide +kernel
theorem d65_133_6 : DK jdk_65_method_133_code 6 (.iload_n 1) 1 := by decide +kernel
theorem d65_133_7 : DK jdk_65_method_133_code 7 .isub 1 := by decide +kernel
theorem d65_133_8 : DK jdk_65_method_133_code 8 (.istore_n 3) 1 := by decide +kernel
theorem d65_133_9 : DK jdk_65_method_133_code 9 (.iload_n 3) 1 := by decide +kernel
theorem d65_133_10 : DK jdk_65_method_133_code 10 (.newarray .byte) 2 := by decide +kernel
theorem d65_133_12 : DK jdk_65_method_133_code 12 (.astore 4) 2 := by decide +kernel
theorem d65_133_14 : DK jdk_65_method_133_code 14 (.aload_n 0) 1 := by decide +kernel
theorem d65_133_15 : DK jdk_65_method_133_code 15 (.iload_n 1) 1 := by decide +kernel
theorem d65_133_16 : DK jdk_65_method_133_code 16 (.aload 4) 2 := by decide +kernel
theorem d65_133_18 : DK jdk_65_method_133_code 18 (.iconst 0) 1 := by decide +kernel
theorem d65_133_19 : DK jdk_65_method_133_code 19 (.aload_n 0) 1 := by decide +kernel
theorem d65_133_20 : DK jdk_65_method_133_code 20 .arraylength 1 := by decide +kernel
theorem d65_133_21 : DK jdk_65_method_133_code 21 (.iload_n 1) 1 := by decide +kernel
theorem d65_133_22 : DK jdk_65_method_133_code 22 .isub 1 := by decide +kernel
theorem d65_133_23 : DK jdk_65_method_133_code 23 (.iload_n 3) 1 := by decide +kernel
theorem opd_16 : parseMethodDescriptor "(II)I" = some ⟨[.int, .int], some .int⟩ := by decide +kernel
theorem d65_133_24 : DK jdk_65_method_133_code 24 (.invokestatic 304) 3 := by decide +kernel
theorem d65_133_27 : DK jdk_65_method_133_code 27 (.invokestatic 150) 3 := by decide +kernel
theorem d65_133_30 : DK jdk_65_method_133_code 30 (.aload 4) 2 := by decide +kernel
theorem d65_133_32 : DK jdk_65_method_133_code 32 .areturn 1 := by decide +kernel
theorem opl_rm_corb : plainFor (⟨"java/util/Arrays", "copyOfRangeByte", "([BII)[B"⟩ : MethodName) = true := plainFor_of_name (by first | (simp [plainName, overriddenIn]; done) | decide +kernel)
theorem rm_corb (l : Launch) (Z : State) (a0 : Array Value) (hw : ∀ d ∈ tables_1, d.before a0 Z = true) (ws : List Jvm.Cond) (d : Addr) (k : ClassId) (us : List Value) (so nn : Nat) (zc : Int32) (wf : Value) (n0 : Nat) (h0 : Heap) (SS : own_SS Z zc wf) (O : Old Z n0 h0) (V : Arv Z h0 d k .byte (Int32.ofNat us.length) us (.int (0 : Int32))) (hul : so + nn ≤ us.length) (h10 : us.length ≤ 10) (hnn : 1 ≤ nn) :
    Con l Z (⟨"java/util/Arrays", "copyOfRangeByte", "([BII)[B"⟩ : MethodName) jdk_65_method_133_code 5 (some (.array .byte)) ws ({ frames := 1, cells := 1, slots := 10, locals := 29 } : Room) #[(.ref d), (.int (Int32.ofNat (so))), (.int (Int32.ofNat (so + nn)))] h0 (fun v h L => ∃ r k', v = some (.ref r) ∧ h0.size ≤ r ∧ Fr n0 L ∧ Keep h0 h [] ∧ Arv Z h r k' .byte (Int32.ofNat nn) ((us.drop so).take nn) (.int (0 : Int32))) := by
  refine Con.intro opl_rm_corb ?_
  intro p e s m below meth c s₁ hx hby hml hown hret hlk hZ hnm X0 e0
  obtain ⟨hzc, SC, hwf, SF⟩ := SS
  have Z0 : n0 ≤ h0.size := O.1 ▸ O.2.1
  have N0 := Fr.nil n0
  refine OGo.cast (g' := (mkF m 0 #[.val (.ref d), .val (.int (Int32.ofNat (so))), .val (.int (Int32.ofNat (so + nn))), .unset, .unset] [])) (by first | (simp [entryFrame, mkF, argsToLocals, Value.category]; done) | rfl) ?_
  refine og (fun _ k => XS.iloadN X0.here hx rfl (hb hby d65_133_0) rfl k) ?_
  refine og (fun _ k => XS.iloadN X0.here hx rfl (hb hby d65_133_1) rfl k) ?_
  obtain ⟨v82, T82, L82, X82, hQ82, st82⟩ := scall X0 hx hZ hown (own_g hw 128 rfl) (own_g hw 129 rfl) (own_g hw 123 rfl) (own_g hw 130 rfl) (by decide) (W := 0) (rm_chk l Z a0 hw [] (Int32.ofNat so) (Int32.ofNat (so + nn)) h0 (own_gelt (by omega) (by omega) (by omega))) e0 (by decide) (by decide) (by decide) (by decide) (g := (mkF m 2 #[.val (.ref d), .val (.int (Int32.ofNat (so))), .val (.int (Int32.ofNat (so + nn))), .unset, .unset] [(.int (Int32.ofNat (so + nn))), (.int (Int32.ofNat (so)))])) rfl (by rw [hml]; rfl) (argsL := [(.int (Int32.ofNat (so))), (.int (Int32.ofNat (so + nn)))]) (rest := []) opd_2 rfl rfl rfl (by show 2 * 0 + _ ≤ _; exact Nat.le_of_eq rfl) (hb hby d65_133_2)
  obtain ⟨rfl, rfl, e82⟩ := hQ82
  rw [List.append_nil] at X82
  refine og st82 ?_
  refine og (fun _ k => XS.iloadN X82.here hx rfl (hb hby d65_133_5) rfl k) ?_
  refine og (fun _ k => XS.iloadN X82.here hx rfl (hb hby d65_133_6) rfl k) ?_
  refine og (fun _ k => XS.isub X82.here hx rfl (hb hby d65_133_7) rfl k) ?_
  show OGo p e below _ T82 (mkF m 8 #[.val (.ref d), .val (.int (Int32.ofNat (so))), .val (.int (Int32.ofNat (so + nn))), .unset, .unset] [(.int ((Int32.ofNat (so + nn)) - (Int32.ofNat (so))))])
  rw [own_subn (show so ≤ so + nn by omega) (by omega)]
  show OGo p e below _ T82 (mkF m 8 #[.val (.ref d), .val (.int (Int32.ofNat (so))), .val (.int (Int32.ofNat (so + nn))), .unset, .unset] [(.int (Int32.ofNat (so + nn - so)))])
  rw [Nat.add_sub_cancel_left]
  refine og (fun _ k => XS.istoreN X82.here hx rfl (hb hby d65_133_8) rfl (l' := #[.val (.ref d), .val (.int (Int32.ofNat (so))), .val (.int (Int32.ofNat (so + nn))), .val (.int (Int32.ofNat (nn))), .unset]) rfl k) ?_
  refine og (fun _ k => XS.iloadN X82.here hx rfl (hb hby d65_133_9) rfl k) ?_
  obtain ⟨T83, h83, k83, X83, e83, E83, A83, AE83, st83⟩ := newPE X82 hx hZ (own_g hw 13 rfl) e82 (g := (mkF m 10 #[.val (.ref d), .val (.int (Int32.ofNat (so))), .val (.int (Int32.ofNat (so + nn))), .val (.int (Int32.ofNat (nn))), .unset] [(.int (Int32.ofNat (nn)))])) rfl (hb hby d65_133_10) rfl (own_nn (by omega)) (cap := 10) (by rw [own_cl (by omega)]; omega) (by decide) (by decide) (by decide) (ad := "[B") (by decide)
  obtain ⟨b83, g83⟩ : ∃ z, z = h0.size := ⟨_, rfl⟩
  rw [← g83] at A83 AE83 st83
  have sz_b83 : h0.size ≤ b83 := Nat.le_trans (Keep.refl h0 []).1 (Nat.le_of_eq g83.symm)
  have KK83 : Keep h0 h83 [] := (Keep.refl h0 []).ext E83
  have V83 : Arv Z h83 b83 k83 .byte (Int32.ofNat (nn)) [] (.int (0 : Int32)) := Arv.new A83 (own_nn (by omega))
  refine og st83 ?_
  refine og (fun _ k => XS.astore X83.here hx rfl (hb hby d65_133_12) rfl rfl (l' := #[.val (.ref d), .val (.int (Int32.ofNat (so))), .val (.int (Int32.ofNat (so + nn))), .val (.int (Int32.ofNat (nn))), .val (.ref b83)]) rfl k) ?_
  refine og (fun _ k => XS.aloadN X83.here hx rfl (hb hby d65_133_14) rfl rfl k) ?_
  refine og (fun _ k => XS.iloadN X83.here hx rfl (hb hby d65_133_15) rfl k) ?_
  refine og (fun _ k => XS.aload X83.here hx rfl (hb hby d65_133_16) rfl rfl k) ?_
  refine og (fun _ k => XS.iconst X83.here hx rfl (hb hby d65_133_18) k) ?_
  refine og (fun _ k => XS.aloadN X83.here hx rfl (hb hby d65_133_19) rfl rfl k) ?_
  refine og (fun _ k => alenV X83 hx hZ e83 (V.ext E83) (g := (mkF m 20 #[.val (.ref d), .val (.int (Int32.ofNat (so))), .val (.int (Int32.ofNat (so + nn))), .val (.int (Int32.ofNat (nn))), .val (.ref b83)] [(.ref d), (.int (0 : Int32)), (.ref b83), (.int (Int32.ofNat (so))), (.ref d)])) rfl rfl (hb hby d65_133_20) _ k) ?_
  refine og (fun _ k => XS.iloadN X83.here hx rfl (hb hby d65_133_21) rfl k) ?_
  refine og (fun _ k => XS.isub X83.here hx rfl (hb hby d65_133_22) rfl k) ?_
  show OGo p e below _ T83 (mkF m 23 #[.val (.ref d), .val (.int (Int32.ofNat (so))), .val (.int (Int32.ofNat (so + nn))), .val (.int (Int32.ofNat (nn))), .val (.ref b83)] [(.int ((Int32.ofNat us.length) - (Int32.ofNat (so)))), (.int (0 : Int32)), (.ref b83), (.int (Int32.ofNat (so))), (.ref d)])
  rw [own_subn (show so ≤ us.length by omega) (by omega)]
  refine og (fun _ k => XS.iloadN X83.here hx rfl (hb hby d65_133_23) rfl k) ?_
  obtain ⟨v84, T84, L84, X84, hQ84, st84⟩ := scall X83 hx hZ hown (own_g hw 131 rfl) (own_g hw 132 rfl) (own_g hw 133 rfl) (own_g hw 134 rfl) (by decide) (W := 4) (rm_minC l Z a0 hw [] (Int32.ofNat (us.length - so)) (Int32.ofNat nn) h83 (fun h => by rw [own_lt (by omega) (by omega)] at h; rw [show us.length - so = nn by omega])) e83 (by decide) (by decide) (by decide) (by decide) (g := (mkF m 24 #[.val (.ref d), .val (.int (Int32.ofNat (so))), .val (.int (Int32.ofNat (so + nn))), .val (.int (Int32.ofNat (nn))), .val (.ref b83)] [(.int (Int32.ofNat (nn))), (.int (Int32.ofNat (us.length - so))), (.int (0 : Int32)), (.ref b83), (.int (Int32.ofNat (so))), (.ref d)])) rfl (by rw [hml]; rfl) (argsL := [(.int (Int32.ofNat (us.length - so))), (.int (Int32.ofNat (nn)))]) (rest := [(.int (0 : Int32)), (.ref b83), (.int (Int32.ofNat (so))), (.ref d)]) opd_16 rfl rfl rfl (by show 2 * 0 + _ ≤ _; exact Nat.le_of_eq rfl) (hb hby d65_133_24)
  obtain ⟨rfl, rfl, e84⟩ := hQ84
  rw [List.append_nil] at X84
  refine og st84 ?_
  obtain ⟨T85, h85, L85, X85, e85, N85, K85, V85, st85⟩ := own_cp2 X84 hx hZ hown (own_g hw 135 rfl) (own_g hw 138 rfl) (own_g hw 136 rfl) (own_g hw 137 rfl) e84 (so := so) (nn := nn) (V.ext E83) V83 (by rw [own_cl (by omega)]; omega) (by rw [own_cl (by omega)]; omega) (by omega) (by omega) N0 (Nat.le_trans Z0 sz_b83) (g := (mkF m 27 #[.val (.ref d), .val (.int (Int32.ofNat (so))), .val (.int (Int32.ofNat (so + nn))), .val (.int (Int32.ofNat (nn))), .val (.ref b83)] [(.int (Int32.ofNat (nn))), (.int (0 : Int32)), (.ref b83), (.int (Int32.ofNat (so))), (.ref d)])) rfl (by rw [hml]; rfl) (rest := []) rfl (hb hby d65_133_27) (by decide) (W := 0) (by show 2 * 0 + _ ≤ _; exact Nat.le_of_eq rfl) (by decide)
  have KK85 : Keep h0 h85 [] := KK83.trans K85 (allS (Or.inr sz_b83) all0)
  refine og st85 ?_
  refine og (fun _ k => XS.aload X85.here hx rfl (hb hby d65_133_30) rfl rfl k) ?_
  show OGo p e below _ T85 (mkF m 32 #[.val (.ref d), .val (.int (Int32.ofNat (so))), .val (.int (Int32.ofNat (so + nn))), .val (.int (Int32.ofNat (nn))), .val (.ref b83)] [(.ref b83)])
  exact OGo.ret X85 hx (t := (.array .byte)) hret hlk rfl (Or.inr (Or.inr (Or.inr (Or.inr ⟨rfl, rfl, rfl⟩)))) (hb hby d65_133_32) (by decide) (by decide) (by rw [e85]; exact ⟨b83, _, rfl, sz_b83, N85, KK85, V85⟩)
theorem d65_132_0 : DK jdk_65_method_132_code 0 (.iload_n 1) 1 := by decide +kernel
theorem d65_132_1 : DK jdk_65_method_132_code 1 (.ifCond .ne 9) 3 := by decide +kernel
theorem d65_132_10 : DK jdk_65_method_132_code 10 (.aload_n 0) 1 := by decide +kernel
theorem d65_132_11 : DK jdk_65_method_132_code 11 (.iload_n 1) 1 := by decide +kernel
theorem d65_132_12 : DK jdk_65_method_132_code 12 (.iload_n 2) 1 := by decide +kernel
theorem opd_17 : parseMethodDescriptor "([BII)[B" = some ⟨[(.array .byte), .int, .int], some (.array .byte)⟩ := by decide +kernel
theorem d65_132_13 : DK jdk_65_method_132_code 13 (.invokestatic 339) 3 := by decide +kernel
theorem d65_132_16 : DK jdk_65_method_132_code 16 .areturn 1 := by decide +kernel
theorem opl_rm_cor : plainFor (⟨"java/util/Arrays", "copyOfRange", "([BII)[B"⟩ : MethodName) = true := plainFor_of_name (by first | (simp [plainName, overriddenIn]; done) | decide +kernel)
theorem rm_cor (l : Launch) (Z : State) (a0 : Array Value) (hw : ∀ d ∈ tables_1, d.before a0 Z = true) (ws : List Jvm.Cond) (d : Addr) (k : ClassId) (us : List Value) (so nn : Nat) (zc : Int32) (wf : Value) (n0 : Nat) (h0 : Heap) (SS : own_SS Z zc wf) (O : Old Z n0 h0) (V : Arv Z h0 d k .byte (Int32.ofNat us.length) us (.int (0 : Int32))) (hul : so + nn ≤ us.length) (h10 : us.length ≤ 10) (hnn : 1 ≤ nn) (hso : 1 ≤ so) :
    Con l Z (⟨"java/util/Arrays", "copyOfRange", "([BII)[B"⟩ : MethodName) jdk_65_method_132_code 3 (some (.array .byte)) ws ({ frames := 2, cells := 1, slots := 10, locals := 45 } : Room) #[(.ref d), (.int (Int32.ofNat (so))), (.int (Int32.ofNat (so + nn)))] h0 (fun v h L => ∃ r k', v = some (.ref r) ∧ h0.size ≤ r ∧ Fr n0 L ∧ Keep h0 h [] ∧ Arv Z h r k' .byte (Int32.ofNat nn) ((us.drop so).take nn) (.int (0 : Int32))) := by
  refine Con.intro opl_rm_cor ?_
  intro p e s m below meth c s₁ hx hby hml hown hret hlk hZ hnm X0 e0
  have SS' := SS
  obtain ⟨hzc, SC, hwf, SF⟩ := SS
  have Z0 : n0 ≤ h0.size := O.1 ▸ O.2.1
  have N0 := Fr.nil n0
  refine OGo.cast (g' := (mkF m 0 #[.val (.ref d), .val (.int (Int32.ofNat (so))), .val (.int (Int32.ofNat (so + nn)))] [])) (by first | (simp [entryFrame, mkF, argsToLocals, Value.category]; done) | rfl) ?_
  refine og (fun _ k => XS.iloadN X0.here hx rfl (hb hby d65_132_0) rfl k) ?_
  show OGo p e below _ s₁ (mkF m 1 #[.val (.ref d), .val (.int (Int32.ofNat (so))), .val (.int (Int32.ofNat (so + nn)))] [(.int (Int32.ofNat (so)))])
  refine og (fun _ k => XS.ifYes X0.here hx rfl (pc0 := 1) (pc' := 10) rfl (hb hby d65_132_1) rfl ((if0 _ _).trans (feq (fun h => by have e1 := congrArg Int32.toInt h; rw [own_toInt (by omega)] at e1; have e0 : (0 : Int32).toInt = 0 := rfl; omega)).2) (by decide) (by decide) k) ?_
  refine og (fun _ k => XS.aloadN X0.here hx rfl (hb hby d65_132_10) rfl rfl k) ?_
  refine og (fun _ k => XS.iloadN X0.here hx rfl (hb hby d65_132_11) rfl k) ?_
  refine og (fun _ k => XS.iloadN X0.here hx rfl (hb hby d65_132_12) rfl k) ?_
  obtain ⟨v86, T86, L86, X86, hQ86, st86⟩ := scall X0 hx hZ hown (own_g hw 125 rfl) (own_g hw 126 rfl) (own_g hw 123 rfl) (own_g hw 127 rfl) (by decide) (W := 0) (rm_corb l Z a0 hw [] d k us so nn zc wf n0 h0 SS' O V hul h10 hnn) e0 (by decide) (by decide) (by decide) (by decide) (g := (mkF m 13 #[.val (.ref d), .val (.int (Int32.ofNat (so))), .val (.int (Int32.ofNat (so + nn)))] [(.int (Int32.ofNat (so + nn))), (.int (Int32.ofNat (so))), (.ref d)])) rfl (by rw [hml]; rfl) (argsL := [(.ref d), (.int (Int32.ofNat (so))), (.int (Int32.ofNat (so + nn)))]) (rest := []) opd_17 rfl rfl rfl (by show 2 * 0 + _ ≤ _; exact Nat.le_of_eq rfl) (hb hby d65_132_13)
  obtain ⟨r86, kr86, rfl, sr86, N86, K86, V86⟩ := hQ86
  have NN86 := Fr.app N0 N86
  have KK86 : Keep h0 T86.heap [] := (Keep.refl h0 []).trans K86 all0
  refine og st86 ?_
  show OGo p e below _ T86 (mkF m 16 #[.val (.ref d), .val (.int (Int32.ofNat (so))), .val (.int (Int32.ofNat (so + nn)))] [(.ref r86)])
  exact OGo.ret X86 hx (t := (.array .byte)) hret hlk rfl (Or.inr (Or.inr (Or.inr (Or.inr ⟨rfl, rfl, rfl⟩)))) (hb hby d65_132_16) (by decide) (by decide) ⟨r86, _, rfl, sr86, NN86, KK86, V86⟩
theorem d42_151_0 : DK jdk_42_method_151_code 0 (.aload_n 0) 1 := by decide +kernel
theorem d42_151_1 : DK jdk_42_method_151_code 1 (.invokespecial 1) 3 := by decide +kernel
theorem d42_151_4 : DK jdk_42_method_151_code 4 (.aload_n 0) 1 := by decide +kernel
theorem d42_151_5 : DK jdk_42_method_151_code 5 (.aload_n 1) 1 := by decide +kernel
theorem d42_151_6 : DK jdk_42_method_151_code 6 (.putfield 9) 3 := by decide +kernel
theorem d42_151_9 : DK jdk_42_method_151_code 9 (.aload_n 0) 1 := by decide +kernel
theorem d42_151_10 : DK jdk_42_method_151_code 10 (.iload_n 2) 1 := by decide +kernel
theorem d42_151_11 : DK jdk_42_method_151_code 11 (.putfield 15) 3 := by decide +kernel
theorem d42_151_14 : DK jdk_42_method_151_code 14 .return_ 1 := by decide +kernel
theorem opl_rm_sbb : plainFor (⟨"java/lang/String", "<init>", "([BB)V"⟩ : MethodName) = true := plainFor_of_name (by first | (simp [plainName, overriddenIn]; done) | decide +kernel)
theorem rm_sbb (l : Launch) (Z : State) (a0 : Array Value) (hw : ∀ d ∈ tables_1, d.before a0 Z = true) (ws : List Jvm.Cond) (a d : Addr) (k : ClassId) (us : List Value) (zc : Int32) (wf : Value) (n0 : Nat) (h0 : Heap) (SS : own_SS Z zc wf) (O : Old Z n0 h0) (V : Arv Z h0 d k .byte (Int32.ofNat us.length) us (.int (0 : Int32))) (E : Exa Z h0 a "java/lang/String") (Fc : Fld Z h0 a "java/lang/String" "coder" "B" (.int (0 : Int32))) (Fv : Fld Z h0 a "java/lang/String" "value" "[B" .null) (g_a : n0 ≤ a) (nda : d ≠ a) :
    Con l Z (⟨"java/lang/String", "<init>", "([BB)V"⟩ : MethodName) jdk_42_method_151_code 3 none ws ({ frames := 1, cells := 0, slots := 0, locals := 12 } : Room) #[(.ref a), (.ref d), (.int (0 : Int32))] h0 (fun v h L => v = none ∧ Fr n0 L ∧ Keep h0 h [a] ∧ STI Z h a d k us) := by
  refine Con.intro opl_rm_sbb ?_
  intro p e s m below meth c s₁ hx hby hml hown hret hlk hZ hnm X0 e0
  obtain ⟨hzc, SC, hwf, SF⟩ := SS
  have Z0 : n0 ≤ h0.size := O.1 ▸ O.2.1
  have N0 := Fr.nil n0
  refine OGo.cast (g' := (mkF m 0 #[.val (.ref a), .val (.ref d), .val (.int (0 : Int32))] [])) (by first | (simp [entryFrame, mkF, argsToLocals, Value.category]; done) | rfl) ?_
  refine og (fun _ k => XS.aloadN X0.here hx rfl (hb hby d42_151_0) rfl rfl k) ?_
  obtain ⟨T87, X87, e87, st87⟩ := initO X0 hx hZ hown (own_g hw 54 rfl) (own_g hw 55 rfl) (own_g hw 56 rfl) e0 (g := (mkF m 1 #[.val (.ref a), .val (.ref d), .val (.int (0 : Int32))] [(.ref a)])) rfl (by rw [hml]; rfl) rfl (hb hby d42_151_1) (by decide) (W := 0) (by show 2 * 0 + _ ≤ _; exact Nat.le_of_eq rfl) (by decide)
  refine og st87 ?_
  refine og (fun _ k => XS.aloadN X87.here hx rfl (hb hby d42_151_4) rfl rfl k) ?_
  refine og (fun _ k => XS.aloadN X87.here hx rfl (hb hby d42_151_5) rfl rfl k) ?_
  obtain ⟨T88, h88, X88, e88, W88, st88⟩ := putF X87 hx hZ hown (host := "") (Or.inl (own_g hw 30 rfl)) Via.refl e87 Fv E (Or.inr ⟨(own_g hw 14 rfl), rfl, hnm⟩) (own_g hw 12 rfl) (ty := (.array .byte)) (by decide) rfl rfl (g := (mkF m 6 #[.val (.ref a), .val (.ref d), .val (.int (0 : Int32))] [(.ref d), (.ref a)])) rfl rfl (hb hby d42_151_6)
  have Fw88 := Fv.same W88
  have N88 := Fr.snoc X88 N0 g_a
  have KK88 : Keep h0 h88 [a] := (Keep.refl h0 [a]).wr W88 (Or.inl (List.mem_of_getElem? (i := 0) rfl))
  refine og st88 ?_
  refine og (fun _ k => XS.aloadN X88.here hx rfl (hb hby d42_151_9) rfl rfl k) ?_
  refine og (fun _ k => XS.iloadN X88.here hx rfl (hb hby d42_151_10) rfl k) ?_
  have q90 := (Fc.other W88 (Or.inr (slot_ne (Or.inr (own_g hw 15 rfl)) (Or.inr (own_g hw 14 rfl)) (by decide) (t := .byte) (t' := (.array .byte)) (by decide) (by decide))))
  obtain ⟨T89, h89, X89, e89, W89, st89⟩ := putFN X88 hx hZ hown (own_g hw 29 rfl) Via.refl e88 q90 (E.wr W88) (Or.inr ⟨(own_g hw 15 rfl), rfl, hnm⟩) (own_g hw 12 rfl) (ty := .byte) (v' := (.int (0 : Int32))) (by decide) rfl rfl (g := (mkF m 11 #[.val (.ref a), .val (.ref d), .val (.int (0 : Int32))] [(.int (0 : Int32)), (.ref a)])) rfl rfl (hb hby d42_151_11)
  have Fw89 := q90.same W89
  have N89 := Fr.snoc X89 N88 g_a
  have KK89 : Keep h0 h89 [a] := KK88.wr W89 (Or.inl (List.mem_of_getElem? (i := 0) rfl))
  refine og st89 ?_
  have q91 := (Fw88.other W89 (Or.inr (slot_ne (Or.inr (own_g hw 14 rfl)) (Or.inr (own_g hw 15 rfl)) (by decide) (t := (.array .byte)) (t' := .byte) (by decide) (by decide))))
  show OGo p e below _ T89 (mkF m 14 #[.val (.ref a), .val (.ref d), .val (.int (0 : Int32))] [])
  exact OGo.retV X89 hx hret hlk (hb hby d42_151_14) (by decide) (by decide) (by rw [e89]; exact ⟨rfl, N89, KK89, ⟨((E.wr W88).wr W89), Fw89, q91, ((V.other W88 nda).other W89 nda)⟩⟩)
theorem d43_47_0 : DK jdk_43_method_47_code 0 (.iload_n 2) 1 := by decide +kernel
theorem d43_47_1 : DK jdk_43_method_47_code 1 (.ifCond .ne 6) 3 := by decide +kernel
theorem d43_47_7 : DK jdk_43_method_47_code 7 (.new 1) 3 := by decide +kernel
theorem d43_47_10 : DK jdk_43_method_47_code 10 .dup 1 := by decide +kernel
theorem d43_47_11 : DK jdk_43_method_47_code 11 (.aload_n 0) 1 := by decide +kernel
theorem d43_47_12 : DK jdk_43_method_47_code 12 (.iload_n 1) 1 := by decide +kernel
theorem d43_47_13 : DK jdk_43_method_47_code 13 (.iload_n 1) 1 := by decide +kernel
theorem d43_47_14 : DK jdk_43_method_47_code 14 (.iload_n 2) 1 := by decide +kernel
theorem d43_47_15 : DK jdk_43_method_47_code 15 .iadd 1 := by decide +kernel
theorem d43_47_16 : DK jdk_43_method_47_code 16 (.invokestatic 232) 3 := by decide +kernel
theorem d43_47_19 : DK jdk_43_method_47_code 19 (.iconst 0) 1 := by decide +kernel
theorem opd_18 : parseMethodDescriptor "([BB)V" = some ⟨[(.array .byte), .byte], none⟩ := by decide +kernel
theorem d43_47_20 : DK jdk_43_method_47_code 20 (.invokespecial 112) 3 := by decide +kernel
theorem d43_47_23 : DK jdk_43_method_47_code 23 .areturn 1 := by decide +kernel
theorem opl_rm_newS : plainFor (⟨"java/lang/StringLatin1", "newString", "([BII)Ljava/lang/String;"⟩ : MethodName) = true := plainFor_of_name (by first | (simp [plainName, overriddenIn]; done) | decide +kernel)
theorem rm_newS (l : Launch) (Z : State) (a0 : Array Value) (hw : ∀ d ∈ tables_1, d.before a0 Z = true) (ws : List Jvm.Cond) (d : Addr) (k : ClassId) (us : List Value) (so nn : Nat) (zc : Int32) (wf : Value) (n0 : Nat) (h0 : Heap) (SS : own_SS Z zc wf) (O : Old Z n0 h0) (V : Arv Z h0 d k .byte (Int32.ofNat us.length) us (.int (0 : Int32))) (hul : so + nn ≤ us.length) (h10 : us.length ≤ 10) (hnn : 1 ≤ nn) (hso : 1 ≤ so) :
    Con l Z (⟨"java/lang/StringLatin1", "newString", "([BII)Ljava/lang/String;"⟩ : MethodName) jdk_43_method_47_code 3 (some (.object "java/lang/String")) ws ({ frames := 3, cells := 2, slots := 14, locals := 61 } : Room) #[(.ref d), (.int (Int32.ofNat (so))), (.int (Int32.ofNat (nn)))] h0 (fun v h L => ∃ x r k', v = some (.ref x) ∧ h0.size ≤ x ∧ h0.size ≤ r ∧ Fr n0 L ∧ Keep h0 h [] ∧ STI Z h x r k' ((us.drop so).take nn)) := by
  refine Con.intro opl_rm_newS ?_
  intro p e s m below meth c s₁ hx hby hml hown hret hlk hZ hnm X0 e0
  have SS' := SS
  obtain ⟨hzc, SC, hwf, SF⟩ := SS
  have Z0 : n0 ≤ h0.size := O.1 ▸ O.2.1
  have N0 := Fr.nil n0
  refine OGo.cast (g' := (mkF m 0 #[.val (.ref d), .val (.int (Int32.ofNat (so))), .val (.int (Int32.ofNat (nn)))] [])) (by first | (simp [entryFrame, mkF, argsToLocals, Value.category]; done) | rfl) ?_
  refine og (fun _ k => XS.iloadN X0.here hx rfl (hb hby d43_47_0) rfl k) ?_
  show OGo p e below _ s₁ (mkF m 1 #[.val (.ref d), .val (.int (Int32.ofNat (so))), .val (.int (Int32.ofNat (nn)))] [(.int (Int32.ofNat (nn)))])
  refine og (fun _ k => XS.ifYes X0.here hx rfl (pc0 := 1) (pc' := 7) rfl (hb hby d43_47_1) rfl ((if0 _ _).trans (feq (fun h => by have e1 := congrArg Int32.toInt h; rw [own_toInt (by omega)] at e1; have e0 : (0 : Int32).toInt = 0 := rfl; omega)).2) (by decide) (by decide) k) ?_
  obtain ⟨T92, h92, X92, e92, E92, A92, D92, UN92, st92⟩ := newO X0 hx hZ hown (own_g hw 120 rfl) (own_g hw 12 rfl) (own_g hw 11 rfl) e0 (g := (mkF m 7 #[.val (.ref d), .val (.int (Int32.ofNat (so))), .val (.int (Int32.ofNat (nn)))] [])) rfl (hb hby d43_47_7) (by decide) (by decide)
  obtain ⟨b92, g92⟩ : ∃ z, z = h0.size := ⟨_, rfl⟩
  rw [← g92] at A92 D92 UN92 st92
  have sz_b92 : h0.size ≤ b92 := Nat.le_trans (Keep.refl h0 []).1 (Nat.le_of_eq g92.symm)
  have KK92 : Keep h0 h92 [] := (Keep.refl h0 []).ext E92
  have F92_value : Fld Z h92 b92 "java/lang/String" "value" "[B" .null := D92 (Or.inr (own_g hw 14 rfl)) (ty := (.array .byte)) (by decide)
  have F92_coder : Fld Z h92 b92 "java/lang/String" "coder" "B" (.int (0 : Int32)) := D92 (Or.inr (own_g hw 15 rfl)) (ty := .byte) (by decide)
  refine og st92 ?_
  refine og (fun _ k => XS.dup X92.here hx rfl (hb hby d43_47_10) rfl rfl k) ?_
  refine og (fun _ k => XS.aloadN X92.here hx rfl (hb hby d43_47_11) rfl rfl k) ?_
  refine og (fun _ k => XS.iloadN X92.here hx rfl (hb hby d43_47_12) rfl k) ?_
  refine og (fun _ k => XS.iloadN X92.here hx rfl (hb hby d43_47_13) rfl k) ?_
  refine og (fun _ k => XS.iloadN X92.here hx rfl (hb hby d43_47_14) rfl k) ?_
  refine og (fun _ k => XS.iadd X92.here hx rfl (hb hby d43_47_15) rfl k) ?_
  show OGo p e below _ T92 (mkF m 16 #[.val (.ref d), .val (.int (Int32.ofNat (so))), .val (.int (Int32.ofNat (nn)))] [(.int ((Int32.ofNat (so)) + (Int32.ofNat (nn)))), (.int (Int32.ofNat (so))), (.ref d), (.ref b92), (.ref b92)])
  rw [own_addn]
  obtain ⟨v93, T93, L93, X93, hQ93, st93⟩ := scall X92 hx hZ hown (own_g hw 121 rfl) (own_g hw 122 rfl) (own_g hw 123 rfl) (own_g hw 124 rfl) (by decide) (W := 2) (rm_cor l Z a0 hw [] d k us so nn zc wf n0 h92 SS' (O.ext E92) (V.ext E92) hul h10 hnn hso) e92 (by decide) (by decide) (by decide) (by decide) (g := (mkF m 16 #[.val (.ref d), .val (.int (Int32.ofNat (so))), .val (.int (Int32.ofNat (nn)))] [(.int (Int32.ofNat (so + nn))), (.int (Int32.ofNat (so))), (.ref d), (.ref b92), (.ref b92)])) rfl (by rw [hml]; rfl) (argsL := [(.ref d), (.int (Int32.ofNat (so))), (.int (Int32.ofNat (so + nn)))]) (rest := [(.ref b92), (.ref b92)]) opd_17 rfl rfl rfl (by show 2 * 0 + _ ≤ _; exact Nat.le_of_eq rfl) (hb hby d43_47_16)
  obtain ⟨r93, kr93, rfl, sr93, N93, K93, V93⟩ := hQ93
  have NN93 := Fr.app N0 N93
  have KK93 : Keep h0 T93.heap [] := KK92.trans K93 all0
  have sz_r93 : h0.size ≤ r93 := Nat.le_trans KK92.1 sr93
  refine og st93 ?_
  have hsl : ((us.drop so).take nn).length = nn := by simp; omega
  have VL93 : Arv Z T93.heap r93 kr93 .byte (Int32.ofNat ((us.drop so).take nn).length) ((us.drop so).take nn) (.int (0 : Int32)) := by rw [hsl]; exact V93
  refine og (fun _ k => XS.iconst X93.here hx rfl (hb hby d43_47_19) k) ?_
  have ne94 : r93 ≠ b92 := (Ne.symm (Nat.ne_of_lt (Nat.lt_of_lt_of_le F92_value.lt sr93)))
  obtain ⟨v95, T95, L95, X95, hQ95, st95⟩ := icall X93 hx hZ rfl hown (own_g hw 139 rfl) (own_g hw 140 rfl) (own_g hw 11 rfl) (own_g hw 141 rfl) (by decide) (W := 1) (rm_sbb l Z a0 hw [] b92 r93 kr93 ((us.drop so).take nn) zc wf n0 T93.heap SS' ((O.ext E92).keep K93 all0) VL93 (A92.keep K93) (F92_coder.keep K93 nin0) (F92_value.keep K93 nin0) (Nat.le_trans Z0 sz_b92) ne94) rfl (by decide) (by decide) (by decide) (by decide) (g := (mkF m 20 #[.val (.ref d), .val (.int (Int32.ofNat (so))), .val (.int (Int32.ofNat (nn)))] [(.int (0 : Int32)), (.ref r93), (.ref b92), (.ref b92)])) rfl (by rw [hml]; rfl) (a := b92) (argsL := [(.ref r93), (.int (0 : Int32))]) (rest := [(.ref b92)]) opd_18 rfl rfl rfl (by show 2 * 0 + _ ≤ _; exact Nat.le_of_eq rfl) (hb hby d43_47_20)
  obtain ⟨rfl, N95, K95, I95⟩ := hQ95
  have NN95 := Fr.app NN93 N95
  have KK95 : Keep h0 T95.heap [] := KK93.trans K95 (allS (Or.inr sz_b92) all0)
  refine og st95 ?_
  show OGo p e below _ T95 (mkF m 23 #[.val (.ref d), .val (.int (Int32.ofNat (so))), .val (.int (Int32.ofNat (nn)))] [(.ref b92)])
  exact OGo.ret X95 hx (t := (.object "java/lang/String")) hret hlk rfl (Or.inr (Or.inr (Or.inr (Or.inr ⟨rfl, rfl, rfl⟩)))) (hb hby d43_47_23) (by decide) (by decide) ⟨b92, r93, _, rfl, sz_b92, sz_r93, NN95, KK95, I95⟩
theorem own_b8sl (cs : List Int32) (f r : Nat) : ((own_b8 cs).drop f).take r = own_b8 ((cs.drop f).take r) := by simp [own_b8, List.map_take, List.map_drop]
/-- bs is cs without the white space at both ends -/
def own_strips (cs bs : List Int32) : Prop := (bs = [] ∧ ∀ j, j < cs.length → own_wsb (cs.getD j 0) = true) ∨ ∃ f r : Nat, f < r ∧ r ≤ cs.length ∧ bs = (cs.drop f).take (r - f) ∧ (∀ j, j < f → own_wsb (cs.getD j 0) = true) ∧ ¬ own_wsb (cs.getD f 0) = true ∧ (∀ j, r ≤ j → j < cs.length → own_wsb (cs.getD j 0) = true) ∧ ¬ own_wsb (cs.getD (r - 1) 0) = true
theorem d43_39_0 : DK jdk_43_method_39_code 0 (.aload_n 0) 1 := by decide +kernel
theorem opd_19 : parseMethodDescriptor "([B)I" = some ⟨[(.array .byte)], some .int⟩ := by decide +kernel
theorem d43_39_1 : DK jdk_43_method_39_code 1 (.invokestatic 214) 3 := by decide +kernel
theorem d43_39_4 : DK jdk_43_method_39_code 4 (.istore_n 1) 1 := by decide +kernel
theorem d43_39_5 : DK jdk_43_method_39_code 5 (.iload_n 1) 1 := by decide +kernel
theorem d43_39_6 : DK jdk_43_method_39_code 6 (.aload_n 0) 1 := by decide +kernel
theorem d43_39_7 : DK jdk_43_method_39_code 7 .arraylength 1 := by decide +kernel
theorem d43_39_8 : DK jdk_43_method_39_code 8 (.if_icmp .ne 6) 3 := by decide +kernel
theorem d43_39_11 : DK jdk_43_method_39_code 11 (.ldc 151) 2 := by decide +kernel
theorem d43_39_13 : DK jdk_43_method_39_code 13 .areturn 1 := by decide +kernel
theorem d43_39_14 : DK jdk_43_method_39_code 14 (.aload_n 0) 1 := by decide +kernel
theorem d43_39_15 : DK jdk_43_method_39_code 15 (.invokestatic 217) 3 := by decide +kernel
theorem d43_39_18 : DK jdk_43_method_39_code 18 (.istore_n 2) 1 := by decide +kernel
theorem d43_39_19 : DK jdk_43_method_39_code 19 (.iload_n 1) 1 := by decide +kernel
theorem d43_39_20 : DK jdk_43_method_39_code 20 (.ifCond .gt 9) 3 := by decide +kernel
theorem d43_39_29 : DK jdk_43_method_39_code 29 (.iconst 1) 1 := by decide +kernel
theorem d43_39_30 : DK jdk_43_method_39_code 30 (.goto 4) 3 := by decide +kernel
theorem d43_39_34 : DK jdk_43_method_39_code 34 (.istore_n 3) 1 := by decide +kernel
theorem d43_39_35 : DK jdk_43_method_39_code 35 (.iload_n 3) 1 := by decide +kernel
theorem d43_39_36 : DK jdk_43_method_39_code 36 (.ifCond .eq 14) 3 := by decide +kernel
theorem d43_39_39 : DK jdk_43_method_39_code 39 (.aload_n 0) 1 := by decide +kernel
theorem d43_39_40 : DK jdk_43_method_39_code 40 (.iload_n 1) 1 := by decide +kernel
theorem d43_39_41 : DK jdk_43_method_39_code 41 (.iload_n 2) 1 := by decide +kernel
theorem d43_39_42 : DK jdk_43_method_39_code 42 (.iload_n 1) 1 := by decide +kernel
theorem d43_39_43 : DK jdk_43_method_39_code 43 .isub 1 := by decide +kernel
theorem opd_20 : parseMethodDescriptor "([BII)Ljava/lang/String;" = some ⟨[(.array .byte), .int, .int], some (.object "java/lang/String")⟩ := by decide +kernel
theorem d43_39_44 : DK jdk_43_method_39_code 44 (.invokestatic 210) 3 := by decide +kernel
theorem d43_39_47 : DK jdk_43_method_39_code 47 (.goto 4) 3 := by decide +kernel
theorem d43_39_51 : DK jdk_43_method_39_code 51 .areturn 1 := by decide +kernel
theorem opl_rm_l1st : plainFor (⟨"java/lang/StringLatin1", "strip", "([B)Ljava/lang/String;"⟩ : MethodName) = true := plainFor_of_name (by first | (simp [plainName, overriddenIn]; done) | decide +kernel)
theorem rm_l1st (l : Launch) (Z : State) (a0 : Array Value) (hw : ∀ d ∈ tables_1, d.before a0 Z = true) (ws : List Jvm.Cond) (d : Addr) (k : ClassId) (cs : List Int32) (zc : Int32) (wf : Value) (n0 : Nat) (ic dA : Addr) (kA : ClassId) (h0 : Heap) (SS : own_SS Z zc wf) (O : Old Z n0 h0) (SC' : own_SC Z ic dA kA) (V : Arv Z h0 d k .byte (Int32.ofNat cs.length) (own_b8 cs) (.int (0 : Int32))) (hok : own_ok8 cs) (h10 : cs.length ≤ 10) (h1 : 1 ≤ cs.length) (hw0 : own_wsb (cs.getD 0 0) = true) :
    ConH l Z own_EL (⟨"java/lang/StringLatin1", "strip", "([B)Ljava/lang/String;"⟩ : MethodName) jdk_43_method_39_code 4 (some (.object "java/lang/String")) ws ({ frames := 4, cells := 2, slots := 14, locals := 75 } : Room) #[(.ref d)] h0 (fun v h L => ∃ x r k' bs, v = some (.ref x) ∧ Fr n0 L ∧ Keep h0 h [] ∧ STI Z h x r k' (own_b8 bs) ∧ own_strips cs bs) := by
  refine ConH.intro opl_rm_l1st ?_
  intro p e s m below meth c s₁ hx hby hml hown hret hlk hZ hnm X0 e0 hs0 hS0 H0 R0
  have SS' := SS
  obtain ⟨hzc, SC, hwf, SF⟩ := SS
  have Z0 : n0 ≤ h0.size := O.1 ▸ O.2.1
  have N0 := Fr.nil n0
  have SCk := SC'
  obtain ⟨Si, Ei, Sa, Va⟩ := SC'
  have Ei0 := Ei.ext O.2
  have Va0 := Va.ext O.2
  refine OGo.cast (g' := (mkF m 0 #[.val (.ref d), .unset, .unset, .unset] [])) (by first | (simp [entryFrame, mkF, argsToLocals, Value.category]; done) | rfl) ?_
  refine og (fun _ k => XS.aloadN X0.here hx rfl (hb hby d43_39_0) rfl rfl k) ?_
  obtain ⟨v96, T96, L96, X96, hQ96, st96⟩ := scall X0 hx hZ hown (own_g hw 150 rfl) (own_g hw 151 rfl) (own_g hw 33 rfl) (own_g hw 152 rfl) (by decide) (W := 0) (rm_iws l Z a0 hw [] d k cs zc wf n0 ic dA kA h0 SS' O SCk V hok h10) e0 (by decide) (by decide) (by decide) (by decide) (g := (mkF m 1 #[.val (.ref d), .unset, .unset, .unset] [(.ref d)])) rfl (by rw [hml]; rfl) (argsL := [(.ref d)]) (rest := []) opd_19 rfl rfl rfl (by show 2 * 0 + _ ≤ _; exact Nat.le_of_eq rfl) (hb hby d43_39_1)
  obtain ⟨f, rfl, f1, f2, f3, rfl, e96⟩ := hQ96
  rw [List.append_nil] at X96
  refine og st96 ?_
  refine og (fun _ k => XS.istoreN X96.here hx rfl (hb hby d43_39_4) rfl (l' := #[.val (.ref d), .val (.int (Int32.ofNat (f))), .unset, .unset]) rfl k) ?_
  refine og (fun _ k => XS.iloadN X96.here hx rfl (hb hby d43_39_5) rfl k) ?_
  refine og (fun _ k => XS.aloadN X96.here hx rfl (hb hby d43_39_6) rfl rfl k) ?_
  refine og (fun _ k => alenV X96 hx hZ e96 V (g := (mkF m 7 #[.val (.ref d), .val (.int (Int32.ofNat (f))), .unset, .unset] [(.ref d), (.int (Int32.ofNat (f)))])) rfl rfl (hb hby d43_39_7) _ k) ?_
  by_cases q : f = cs.length
  case pos =>
    show OGo p e below _ T96 (mkF m 8 #[.val (.ref d), .val (.int (Int32.ofNat (f))), .unset, .unset] [(.int (Int32.ofNat cs.length)), (.int (Int32.ofNat (f)))])
    refine og (fun _ k => XS.icmpNo X96.here hx rfl (hb hby d43_39_8) rfl (teq (by rw [q])).2 k) ?_
    obtain ⟨a97, T97, h97, kk97, d97, kd97, X97, e97, E97, hS97, hk97, hZ97, hown97, A97, C97, F97, V97, lt97, ltd97, CR97, Li97, sf97, st97⟩ := ldcCH X96 hx hZ hown (own_g hw 176 rfl) (own_wS hw) e96 hS0 (Nat.zero_le _) (own_hEL hw) (List.mem_of_getElem? (i := 4) rfl) H0 (vs := []) (z := (0 : Int32)) (by decide) (by decide) (by decide) (g := (mkF m 11 #[.val (.ref d), .val (.int (Int32.ofNat (f))), .unset, .unset] [])) rfl (hb hby d43_39_11) (n := 0) (by decide) (by decide) (by decide) (by decide)
    have KK97 : Keep h0 h97 [] := (Keep.refl h0 []).ext E97
    have H97 := CR97.1
    have R97 := CHr.trans R0 CR97
    refine og st97 ?_
    have LV97 : Arv Z h97 d97 kd97 .byte (Int32.ofNat own_l151.length) own_l151 (.int (0 : Int32)) := V97
    show OGo p e below _ T97 (mkF m 13 #[.val (.ref d), .val (.int (Int32.ofNat (f))), .unset, .unset] [(.ref a97)])
    exact OGo.retH X97 hx hZ97 (own_hEL hw) hs0 e97 hS97 hk97 H97 R97 (t := (.object "java/lang/String")) hret hlk rfl (Or.inr (Or.inr (Or.inr (Or.inr ⟨rfl, rfl, rfl⟩)))) (hb hby d43_39_13) (by decide) (by decide) ⟨a97, d97, _, [], rfl, N0, KK97, ⟨A97, C97, F97, LV97⟩, Or.inl ⟨rfl, fun j h => f2 j (by omega)⟩⟩
  show OGo p e below _ T96 (mkF m 8 #[.val (.ref d), .val (.int (Int32.ofNat (f))), .unset, .unset] [(.int (Int32.ofNat cs.length)), (.int (Int32.ofNat (f)))])
  refine og (fun _ k => XS.icmpYes X96.here hx rfl (pc0 := 8) (pc' := 14) rfl (hb hby d43_39_8) rfl (feq (fun h => q (by have e1 := congrArg Int32.toInt h; rw [own_toInt (by omega), own_toInt (by omega)] at e1; omega))).2 (by decide) (by decide) k) ?_
  refine og (fun _ k => XS.aloadN X96.here hx rfl (hb hby d43_39_14) rfl rfl k) ?_
  obtain ⟨v98, T98, L98, X98, hQ98, st98⟩ := scall X96 hx hZ hown (own_g hw 168 rfl) (own_g hw 169 rfl) (own_g hw 33 rfl) (own_g hw 170 rfl) (by decide) (W := 0) (rm_lws l Z a0 hw [] d k cs zc wf n0 ic dA kA h0 SS' O SCk V hok h10) e96 (by decide) (by decide) (by decide) (by decide) (g := (mkF m 15 #[.val (.ref d), .val (.int (Int32.ofNat (f))), .unset, .unset] [(.ref d)])) rfl (by rw [hml]; rfl) (argsL := [(.ref d)]) (rest := []) opd_19 rfl rfl rfl (by show 2 * 0 + _ ≤ _; exact Nat.le_of_eq rfl) (hb hby d43_39_15)
  obtain ⟨r, rfl, r1, r2, r3, rfl, e98⟩ := hQ98
  rw [List.append_nil] at X98
  refine og st98 ?_
  have hfl : f < cs.length := by omega
  have hf1 : 1 ≤ f := Nat.one_le_iff_ne_zero.mpr (fun h => by subst h; exact f3 hfl hw0)
  have hfr : f < r := Nat.lt_of_not_le (fun h => f3 hfl (r2 f h hfl))
  refine og (fun _ k => XS.istoreN X98.here hx rfl (hb hby d43_39_18) rfl (l' := #[.val (.ref d), .val (.int (Int32.ofNat (f))), .val (.int (Int32.ofNat (r))), .unset]) rfl k) ?_
  refine og (fun _ k => XS.iloadN X98.here hx rfl (hb hby d43_39_19) rfl k) ?_
  show OGo p e below _ T98 (mkF m 20 #[.val (.ref d), .val (.int (Int32.ofNat (f))), .val (.int (Int32.ofNat (r))), .unset] [(.int (Int32.ofNat (f)))])
  refine og (fun _ k => XS.ifYes X98.here hx rfl (pc0 := 20) (pc' := 29) rfl (hb hby d43_39_20) rfl ((if0 _ _).trans (tlt (show Int32.ofNat 0 < Int32.ofNat f from (own_lt (by decide) (by omega)).mpr (by omega))).2.2.1) (by decide) (by decide) k) ?_
  refine og (fun _ k => XS.iconst X98.here hx rfl (hb hby d43_39_29) k) ?_
  refine og (fun _ k => XS.goto X98.here hx rfl (pc0 := 30) (pc' := 34) rfl (hb hby d43_39_30) (by decide) (by decide) k) ?_
  refine og (fun _ k => XS.istoreN X98.here hx rfl (hb hby d43_39_34) rfl (l' := #[.val (.ref d), .val (.int (Int32.ofNat (f))), .val (.int (Int32.ofNat (r))), .val (.int (1 : Int32))]) rfl k) ?_
  refine og (fun _ k => XS.iloadN X98.here hx rfl (hb hby d43_39_35) rfl k) ?_
  show OGo p e below _ T98 (mkF m 36 #[.val (.ref d), .val (.int (Int32.ofNat (f))), .val (.int (Int32.ofNat (r))), .val (.int (1 : Int32))] [(.int (1 : Int32))])
  refine og (fun _ k => XS.ifNo X98.here hx rfl (hb hby d43_39_36) rfl ((if0 _ _).trans (feq (by decide : ¬ (1 : Int32) = 0)).1) k) ?_
  refine og (fun _ k => XS.aloadN X98.here hx rfl (hb hby d43_39_39) rfl rfl k) ?_
  refine og (fun _ k => XS.iloadN X98.here hx rfl (hb hby d43_39_40) rfl k) ?_
  refine og (fun _ k => XS.iloadN X98.here hx rfl (hb hby d43_39_41) rfl k) ?_
  refine og (fun _ k => XS.iloadN X98.here hx rfl (hb hby d43_39_42) rfl k) ?_
  refine og (fun _ k => XS.isub X98.here hx rfl (hb hby d43_39_43) rfl k) ?_
  show OGo p e below _ T98 (mkF m 44 #[.val (.ref d), .val (.int (Int32.ofNat (f))), .val (.int (Int32.ofNat (r))), .val (.int (1 : Int32))] [(.int ((Int32.ofNat (r)) - (Int32.ofNat (f)))), (.int (Int32.ofNat (f))), (.ref d)])
  rw [own_subn (show f ≤ r by omega) (by omega)]
  have V8 : Arv Z h0 d k .byte (Int32.ofNat (own_b8 cs).length) (own_b8 cs) (.int (0 : Int32)) := by rw [own_b8_len]; exact V
  obtain ⟨v99, T99, L99, X99, hQ99, st99⟩ := scall X98 hx hZ hown (own_g hw 171 rfl) (own_g hw 118 rfl) (own_g hw 33 rfl) (own_g hw 119 rfl) (by decide) (W := 0) (rm_newS l Z a0 hw [] d k (own_b8 cs) f (r - f) zc wf n0 h0 SS' O V8 (by rw [own_b8_len]; omega) (by rw [own_b8_len]; omega) (by omega) hf1) e98 (by decide) (by decide) (by decide) (by decide) (g := (mkF m 44 #[.val (.ref d), .val (.int (Int32.ofNat (f))), .val (.int (Int32.ofNat (r))), .val (.int (1 : Int32))] [(.int (Int32.ofNat (r - f))), (.int (Int32.ofNat (f))), (.ref d)])) rfl (by rw [hml]; rfl) (argsL := [(.ref d), (.int (Int32.ofNat (f))), (.int (Int32.ofNat (r - f)))]) (rest := []) opd_20 rfl rfl rfl (by show 2 * 0 + _ ≤ _; exact Nat.le_of_eq rfl) (hb hby d43_39_44)
  obtain ⟨x99, r99, kr99, rfl, sx99, sr99, N99, K99, I99⟩ := hQ99
  have NN99 := Fr.app N0 N99
  have KK99 : Keep h0 T99.heap [] := (Keep.refl h0 []).trans K99 all0
  have H99 := CHv.keep K99 sf0 H0
  have R99 := CHr.trans R0 (CHr.keep K99 sf0 H0)
  refine og st99 ?_
  rw [own_b8sl] at I99
  refine og (fun _ k => XS.goto X99.here hx rfl (pc0 := 47) (pc' := 51) rfl (hb hby d43_39_47) (by decide) (by decide) k) ?_
  show OGo p e below _ T99 (mkF m 51 #[.val (.ref d), .val (.int (Int32.ofNat (f))), .val (.int (Int32.ofNat (r))), .val (.int (1 : Int32))] [(.ref x99)])
  exact OGo.retH X99 hx hZ (own_hEL hw) hs0 rfl hS0 (Nat.le_trans (Nat.zero_le _) K99.1) H99 R99 (t := (.object "java/lang/String")) hret hlk rfl (Or.inr (Or.inr (Or.inr (Or.inr ⟨rfl, rfl, rfl⟩)))) (hb hby d43_39_51) (by decide) (by decide) ⟨x99, r99, _, _, rfl, NN99, KK99, I99, Or.inr ⟨f, r, hfr, r1, rfl, f2, f3 hfl, r2, r3 (by omega)⟩⟩
theorem d42_114_0 : DK jdk_42_method_114_code 0 (.aload_n 0) 1 := by decide +kernel
theorem d42_114_1 : DK jdk_42_method_114_code 1 (.invokevirtual 492) 3 := by decide +kernel
theorem d42_114_4 : DK jdk_42_method_114_code 4 (.ifCond .eq 13) 3 := by decide +kernel
theorem d42_114_7 : DK jdk_42_method_114_code 7 (.aload_n 0) 1 := by decide +kernel
theorem d42_114_8 : DK jdk_42_method_114_code 8 (.getfield 9) 3 := by decide +kernel
theorem opd_21 : parseMethodDescriptor "([B)Ljava/lang/String;" = some ⟨[(.array .byte)], some (.object "java/lang/String")⟩ := by decide +kernel
theorem d42_114_11 : DK jdk_42_method_114_code 11 (.invokestatic 864) 3 := by decide +kernel
theorem d42_114_14 : DK jdk_42_method_114_code 14 (.goto 10) 3 := by decide +kernel
theorem d42_114_24 : DK jdk_42_method_114_code 24 (.astore_n 1) 1 := by decide +kernel
theorem d42_114_25 : DK jdk_42_method_114_code 25 (.aload_n 1) 1 := by decide +kernel
theorem d42_114_26 : DK jdk_42_method_114_code 26 (.ifnonnull 7) 3 := by decide +kernel
theorem d42_114_33 : DK jdk_42_method_114_code 33 (.aload_n 1) 1 := by decide +kernel
theorem d42_114_34 : DK jdk_42_method_114_code 34 .areturn 1 := by decide +kernel
theorem opl_rm_strip : plainFor (⟨"java/lang/String", "strip", "()Ljava/lang/String;"⟩ : MethodName) = true := plainFor_of_name (by first | (simp [plainName, overriddenIn]; done) | decide +kernel)
theorem rm_strip (l : Launch) (Z : State) (a0 : Array Value) (hw : ∀ d ∈ tables_1, d.before a0 Z = true) (ws : List Jvm.Cond) (a d : Addr) (k : ClassId) (cs : List Int32) (zc : Int32) (wf : Value) (n0 : Nat) (ic dA : Addr) (kA : ClassId) (h0 : Heap) (SS : own_SS Z zc wf) (O : Old Z n0 h0) (SC' : own_SC Z ic dA kA) (I : STI Z h0 a d k (own_b8 cs)) (hok : own_ok8 cs) (h10 : cs.length ≤ 10) (h1 : 1 ≤ cs.length) (hw0 : own_wsb (cs.getD 0 0) = true) :
    ConH l Z own_EL (⟨"java/lang/String", "strip", "()Ljava/lang/String;"⟩ : MethodName) jdk_42_method_114_code 2 (some (.object "java/lang/String")) ws ({ frames := 5, cells := 2, slots := 14, locals := 90 } : Room) #[(.ref a)] h0 (fun v h L => ∃ x r k' bs, v = some (.ref x) ∧ Fr n0 L ∧ Keep h0 h [] ∧ STI Z h x r k' (own_b8 bs) ∧ own_strips cs bs) := by
  refine ConH.intro opl_rm_strip ?_
  intro p e s m below meth c s₁ hx hby hml hown hret hlk hZ hnm X0 e0 hs0 hS0 H0 R0
  have SS' := SS
  obtain ⟨hzc, SC, hwf, SF⟩ := SS
  have Z0 : n0 ≤ h0.size := O.1 ▸ O.2.1
  have N0 := Fr.nil n0
  have SCk := SC'
  obtain ⟨IE, IC, IF, IV⟩ := I
  refine OGo.cast (g' := (mkF m 0 #[.val (.ref a), .unset] [])) (by first | (simp [entryFrame, mkF, argsToLocals, Value.category]; done) | rfl) ?_
  refine og (fun _ k => XS.aloadN X0.here hx rfl (hb hby d42_114_0) rfl rfl k) ?_
  obtain ⟨v100, T100, L100, X100, hQ100, st100⟩ := vcall X0 hx hZ hown (own_g hw 23 rfl) (own_g hw 24 rfl) (own_g hw 26 rfl) rfl (own_g hw 26 rfl) (own_g hw 25 rfl) (own_g hw 11 rfl) (own_g hw 27 rfl) (by decide) (W := 0) (rm_isLatin1 l Z a0 hw [] a zc wf n0 h0 SS' O IC) e0 (by decide) (by decide) (by decide) (by decide) (g := (mkF m 1 #[.val (.ref a), .unset] [(.ref a)])) rfl (by rw [hml]; rfl) IE (argsL := []) (rest := []) opd_3 rfl rfl rfl (by show 2 * 0 + _ ≤ _; exact Nat.le_of_eq rfl) (hb hby d42_114_1)
  obtain ⟨rfl, rfl, e100⟩ := hQ100
  rw [List.append_nil] at X100
  refine og st100 ?_
  show OGo p e below _ T100 (mkF m 4 #[.val (.ref a), .unset] [(.int (1 : Int32))])
  refine og (fun _ k => XS.ifNo X100.here hx rfl (hb hby d42_114_4) rfl ((if0 _ _).trans (feq (by decide : ¬ (1 : Int32) = 0)).1) k) ?_
  refine og (fun _ k => XS.aloadN X100.here hx rfl (hb hby d42_114_7) rfl rfl k) ?_
  obtain ⟨T101, X101, e101, st101⟩ := getF X100 hx hZ hown (host := "") (Or.inl (own_g hw 30 rfl)) Via.refl e100 IF (g := (mkF m 8 #[.val (.ref a), .unset] [(.ref a)])) rfl rfl (hb hby d42_114_8)
  refine og st101 ?_
  have V8 : Arv Z h0 d k .byte (Int32.ofNat cs.length) (own_b8 cs) (.int (0 : Int32)) := by have q := IV; rw [own_b8_len] at q; exact q
  obtain ⟨v102, T102, L102, kk102, X102, hS102, hk102, hZ102, hown102, CR102, hQ102, st102⟩ := scallH X101 hx hZ hown (own_hEL hw) hS0 (Nat.zero_le _) H0 (own_g hw 147 rfl) (own_g hw 148 rfl) (own_g hw 33 rfl) (own_g hw 149 rfl) (by decide) (W := 0) (rm_l1st l Z a0 hw [] d k cs zc wf n0 ic dA kA h0 SS' O SCk V8 hok h10 h1 hw0) e101 (by decide) (by decide) (by decide) (by decide) (g := (mkF m 11 #[.val (.ref a), .unset] [(.ref d)])) rfl (by rw [hml]; rfl) (argsL := [(.ref d)]) (rest := []) opd_21 rfl rfl rfl (by show 2 * 0 + _ ≤ _; exact Nat.le_of_eq rfl) (hb hby d42_114_11)
  obtain ⟨x102, r102, kr102, bs102, rfl, N102, K102, I102, hs102⟩ := hQ102
  have NN102 := Fr.app N0 N102
  have KK102 : Keep h0 T102.heap [] := (Keep.refl h0 []).trans K102 all0
  have H102 := CR102.1
  have R102 := CHr.trans R0 CR102
  refine og st102 ?_
  refine og (fun _ k => XS.goto X102.here hx rfl (pc0 := 14) (pc' := 24) rfl (hb hby d42_114_14) (by decide) (by decide) k) ?_
  refine og (fun _ k => XS.astoreN X102.here hx rfl (hb hby d42_114_24) rfl rfl (l' := #[.val (.ref a), .val (.ref x102)]) rfl k) ?_
  refine og (fun _ k => XS.aloadN X102.here hx rfl (hb hby d42_114_25) rfl rfl k) ?_
  refine og (fun _ k => XS.ifnonnullYes X102.here hx rfl (pc0 := 26) (pc' := 33) rfl (hb hby d42_114_26) rfl (by decide) (by decide) k) ?_
  refine og (fun _ k => XS.aloadN X102.here hx rfl (hb hby d42_114_33) rfl rfl k) ?_
  show OGo p e below _ T102 (mkF m 34 #[.val (.ref a), .val (.ref x102)] [(.ref x102)])
  exact OGo.retH X102 hx hZ102 (own_hEL hw) hs0 rfl hS102 hk102 H102 R102 (t := (.object "java/lang/String")) hret hlk rfl (Or.inr (Or.inr (Or.inr (Or.inr ⟨rfl, rfl, rfl⟩)))) (hb hby d42_114_34) (by decide) (by decide) ⟨x102, r102, _, bs102, rfl, NN102, KK102, I102, hs102⟩
theorem d41_12_0 : DK jdk_41_method_12_code 0 (.iload_n 0) 1 := by decide +kernel
theorem d41_12_1 : DK jdk_41_method_12_code 1 (.ifCond .lt 13) 3 := by decide +kernel
theorem d41_12_4 : DK jdk_41_method_12_code 4 (.iload_n 0) 1 := by decide +kernel
theorem d41_12_5 : DK jdk_41_method_12_code 5 (.iload_n 1) 1 := by decide +kernel
theorem d41_12_6 : DK jdk_41_method_12_code 6 (.if_icmp .gt 8) 3 := by decide +kernel
theorem d41_12_9 : DK jdk_41_method_12_code 9 (.iload_n 1) 1 := by decide +kernel
theorem d41_12_10 : DK jdk_41_method_12_code 10 (.iload_n 2) 1 := by decide +kernel
theorem d41_12_11 : DK jdk_41_method_12_code 11 (.if_icmp .le 11) 3 := by decide +kernel
theorem d41_12_22 : DK jdk_41_method_12_code 22 (.iload_n 0) 1 := by decide +kernel
theorem d41_12_23 : DK jdk_41_method_12_code 23 .ireturn 1 := by decide +kernel
theorem opl_rm_cft : plainFor (⟨"jdk/internal/util/Preconditions", "checkFromToIndex", "(IIILjava/util/function/BiFunction;)I"⟩ : MethodName) = true := plainFor_of_name (by first | (simp [plainName, overriddenIn]; done) | decide +kernel)
theorem rm_cft (l : Launch) (Z : State) (a0 : Array Value) (hw : ∀ d ∈ tables_1, d.before a0 Z = true) (ws : List Jvm.Cond) (f t n : Int32) (wf : Value) (h0 : Heap) (hwf : wf.isRef = true) (h1 : ¬ f < 0) (h2 : ¬ t < f) (h3 : ¬ n < t) :
    Con l Z (⟨"jdk/internal/util/Preconditions", "checkFromToIndex", "(IIILjava/util/function/BiFunction;)I"⟩ : MethodName) jdk_41_method_12_code 4 (some .int) ws ({ frames := 0, cells := 0, slots := 0, locals := 0 } : Room) #[(.int f), (.int t), (.int n), wf] h0 (fun v h L => v = some (.int f) ∧ L = [] ∧ h = h0) := by
  refine Con.intro opl_rm_cft ?_
  intro p e s m below meth c s₁ hx hby hml hown hret hlk hZ hnm X0 e0
  refine OGo.cast (g' := (mkF m 0 #[.val (.int f), .val (.int t), .val (.int n), .val wf] [])) (by rcases ref_cases hwf with rfl | ⟨f, rfl⟩ <;> simp [entryFrame, mkF, argsToLocals, Value.category]) ?_
  refine og (fun _ k => XS.iloadN X0.here hx rfl (hb hby d41_12_0) rfl k) ?_
  show OGo p e below _ s₁ (mkF m 1 #[.val (.int f), .val (.int t), .val (.int n), .val wf] [(.int f)])
  refine og (fun _ k => XS.ifNo X0.here hx rfl (hb hby d41_12_1) rfl ((if0 _ _).trans (flt h1).1) k) ?_
  refine og (fun _ k => XS.iloadN X0.here hx rfl (hb hby d41_12_4) rfl k) ?_
  refine og (fun _ k => XS.iloadN X0.here hx rfl (hb hby d41_12_5) rfl k) ?_
  show OGo p e below _ s₁ (mkF m 6 #[.val (.int f), .val (.int t), .val (.int n), .val wf] [(.int t), (.int f)])
  refine og (fun _ k => XS.icmpNo X0.here hx rfl (hb hby d41_12_6) rfl (flt h2).2.2.1 k) ?_
  refine og (fun _ k => XS.iloadN X0.here hx rfl (hb hby d41_12_9) rfl k) ?_
  refine og (fun _ k => XS.iloadN X0.here hx rfl (hb hby d41_12_10) rfl k) ?_
  show OGo p e below _ s₁ (mkF m 11 #[.val (.int f), .val (.int t), .val (.int n), .val wf] [(.int n), (.int t)])
  refine og (fun _ k => XS.icmpYes X0.here hx rfl (pc0 := 11) (pc' := 22) rfl (hb hby d41_12_11) rfl (flt h3).2.2.2 (by decide) (by decide) k) ?_
  refine og (fun _ k => XS.iloadN X0.here hx rfl (hb hby d41_12_22) rfl k) ?_
  show OGo p e below _ s₁ (mkF m 23 #[.val (.int f), .val (.int t), .val (.int n), .val wf] [(.int f)])
  exact OGo.ret X0 hx (t := .int) hret hlk rfl (Or.inl ⟨rfl, by simp, _, rfl⟩) (hb hby d41_12_23) (by decide) (by decide) ⟨rfl, rfl, e0⟩
theorem d42_158_0 : DK jdk_42_method_158_code 0 (.iload_n 0) 1 := by decide +kernel
theorem d42_158_1 : DK jdk_42_method_158_code 1 (.iload_n 1) 1 := by decide +kernel
theorem d42_158_2 : DK jdk_42_method_158_code 2 (.iload_n 2) 1 := by decide +kernel
theorem d42_158_3 : DK jdk_42_method_158_code 3 (.getstatic 1053) 3 := by decide +kernel
theorem opd_22 : parseMethodDescriptor "(IIILjava/util/function/BiFunction;)I" = some ⟨[.int, .int, .int, (.object "java/util/function/BiFunction")], some .int⟩ := by decide +kernel
theorem d42_158_6 : DK jdk_42_method_158_code 6 (.invokestatic 1062) 3 := by decide +kernel
theorem d42_158_9 : DK jdk_42_method_158_code 9 .pop 1 := by decide +kernel
theorem d42_158_10 : DK jdk_42_method_158_code 10 .return_ 1 := by decide +kernel
theorem opl_rm_cbbe : plainFor (⟨"java/lang/String", "checkBoundsBeginEnd", "(III)V"⟩ : MethodName) = true := plainFor_of_name (by first | (simp [plainName, overriddenIn]; done) | decide +kernel)
theorem rm_cbbe (l : Launch) (Z : State) (a0 : Array Value) (hw : ∀ d ∈ tables_1, d.before a0 Z = true) (ws : List Jvm.Cond) (f t n : Int32) (zc : Int32) (wf : Value) (n0 : Nat) (h0 : Heap) (SS : own_SS Z zc wf) (O : Old Z n0 h0) (h1 : ¬ f < 0) (h2 : ¬ t < f) (h3 : ¬ n < t) :
    Con l Z (⟨"java/lang/String", "checkBoundsBeginEnd", "(III)V"⟩ : MethodName) jdk_42_method_158_code 3 none ws ({ frames := 1, cells := 0, slots := 0, locals := 15 } : Room) #[(.int f), (.int t), (.int n)] h0 (fun v h L => v = none ∧ L = [] ∧ h = h0) := by
  refine Con.intro opl_rm_cbbe ?_
  intro p e s m below meth c s₁ hx hby hml hown hret hlk hZ hnm X0 e0
  obtain ⟨hzc, SC, hwf, SF⟩ := SS
  have Z0 : n0 ≤ h0.size := O.1 ▸ O.2.1
  have N0 := Fr.nil n0
  refine OGo.cast (g' := (mkF m 0 #[.val (.int f), .val (.int t), .val (.int n)] [])) (by first | (simp [entryFrame, mkF, argsToLocals, Value.category]; done) | rfl) ?_
  refine og (fun _ k => XS.iloadN X0.here hx rfl (hb hby d42_158_0) rfl k) ?_
  refine og (fun _ k => XS.iloadN X0.here hx rfl (hb hby d42_158_1) rfl k) ?_
  refine og (fun _ k => XS.iloadN X0.here hx rfl (hb hby d42_158_2) rfl k) ?_
  obtain ⟨T103, X103, e103, st103⟩ := getS2 X0 hx hZ hown (host := "") (Or.inl (own_g hw 38 rfl)) Via.refl e0 (SF.ext O.2) (g := (mkF m 3 #[.val (.int f), .val (.int t), .val (.int n)] [(.int n), (.int t), (.int f)])) rfl (hb hby d42_158_3)
  refine og st103 ?_
  obtain ⟨v104, T104, L104, X104, hQ104, st104⟩ := scall X103 hx hZ hown (own_g hw 114 rfl) (own_g hw 115 rfl) (own_g hw 39 rfl) (own_g hw 116 rfl) (by decide) (W := 0) (rm_cft l Z a0 hw [] f t n wf h0 hwf h1 h2 h3) e103 (by decide) (by decide) (by decide) (by decide) (g := (mkF m 6 #[.val (.int f), .val (.int t), .val (.int n)] [wf, (.int n), (.int t), (.int f)])) rfl (by rw [hml]; rfl) (argsL := [(.int f), (.int t), (.int n), wf]) (rest := []) opd_22 rfl rfl rfl (by show 2 * 0 + _ ≤ _; exact Nat.le_of_eq rfl) (hb hby d42_158_6)
  obtain ⟨rfl, rfl, e104⟩ := hQ104
  rw [List.append_nil] at X104
  refine og st104 ?_
  refine og (fun _ k => XS.pop X104.here hx rfl (hb hby d42_158_9) rfl rfl k) ?_
  show OGo p e below _ T104 (mkF m 10 #[.val (.int f), .val (.int t), .val (.int n)] [])
  exact OGo.retV X104 hx hret hlk (hb hby d42_158_10) (by decide) (by decide) ⟨rfl, rfl, e104⟩
theorem d42_92_0 : DK jdk_42_method_92_code 0 (.aload_n 0) 1 := by decide +kernel
theorem d42_92_1 : DK jdk_42_method_92_code 1 (.invokevirtual 505) 3 := by decide +kernel
theorem d42_92_4 : DK jdk_42_method_92_code 4 (.istore_n 3) 1 := by decide +kernel
theorem d42_92_5 : DK jdk_42_method_92_code 5 (.iload_n 1) 1 := by decide +kernel
theorem d42_92_6 : DK jdk_42_method_92_code 6 (.iload_n 2) 1 := by decide +kernel
theorem d42_92_7 : DK jdk_42_method_92_code 7 (.iload_n 3) 1 := by decide +kernel
theorem opd_23 : parseMethodDescriptor "(III)V" = some ⟨[.int, .int, .int], none⟩ := by decide +kernel
theorem d42_92_8 : DK jdk_42_method_92_code 8 (.invokestatic 521) 3 := by decide +kernel
theorem d42_92_11 : DK jdk_42_method_92_code 11 (.iload_n 1) 1 := by decide +kernel
theorem d42_92_12 : DK jdk_42_method_92_code 12 (.ifCond .ne 10) 3 := by decide +kernel
theorem d42_92_22 : DK jdk_42_method_92_code 22 (.iload_n 2) 1 := by decide +kernel
theorem d42_92_23 : DK jdk_42_method_92_code 23 (.iload_n 1) 1 := by decide +kernel
theorem d42_92_24 : DK jdk_42_method_92_code 24 .isub 1 := by decide +kernel
theorem d42_92_25 : DK jdk_42_method_92_code 25 (.istore 4) 2 := by decide +kernel
theorem d42_92_27 : DK jdk_42_method_92_code 27 (.aload_n 0) 1 := by decide +kernel
theorem d42_92_28 : DK jdk_42_method_92_code 28 (.invokevirtual 492) 3 := by decide +kernel
theorem d42_92_31 : DK jdk_42_method_92_code 31 (.ifCond .eq 16) 3 := by decide +kernel
theorem d42_92_34 : DK jdk_42_method_92_code 34 (.aload_n 0) 1 := by decide +kernel
theorem d42_92_35 : DK jdk_42_method_92_code 35 (.getfield 9) 3 := by decide +kernel
theorem d42_92_38 : DK jdk_42_method_92_code 38 (.iload_n 1) 1 := by decide +kernel
theorem d42_92_39 : DK jdk_42_method_92_code 39 (.iload 4) 2 := by decide +kernel
theorem d42_92_41 : DK jdk_42_method_92_code 41 (.invokestatic 685) 3 := by decide +kernel
theorem d42_92_44 : DK jdk_42_method_92_code 44 (.goto 13) 3 := by decide +kernel
theorem d42_92_57 : DK jdk_42_method_92_code 57 .areturn 1 := by decide +kernel
theorem opl_rm_sub2 : plainFor (⟨"java/lang/String", "substring", "(II)Ljava/lang/String;"⟩ : MethodName) = true := plainFor_of_name (by first | (simp [plainName, overriddenIn]; done) | decide +kernel)
theorem rm_sub2 (l : Launch) (Z : State) (a0 : Array Value) (hw : ∀ d ∈ tables_1, d.before a0 Z = true) (ws : List Jvm.Cond) (a d : Addr) (k : ClassId) (us : List Value) (so : Nat) (zc : Int32) (wf : Value) (n0 : Nat) (h0 : Heap) (SS : own_SS Z zc wf) (O : Old Z n0 h0) (I : STI Z h0 a d k us) (hso : 1 ≤ so) (hsl : so < us.length) (h10 : us.length ≤ 10) :
    Con l Z (⟨"java/lang/String", "substring", "(II)Ljava/lang/String;"⟩ : MethodName) jdk_42_method_92_code 5 (some (.object "java/lang/String")) ws ({ frames := 4, cells := 2, slots := 14, locals := 75 } : Room) #[(.ref a), (.int (Int32.ofNat (so))), (.int (Int32.ofNat us.length))] h0 (fun v h L => ∃ x r k', v = some (.ref x) ∧ h0.size ≤ x ∧ h0.size ≤ r ∧ Fr n0 L ∧ Keep h0 h [] ∧ STI Z h x r k' (us.drop so)) := by
  refine Con.intro opl_rm_sub2 ?_
  intro p e s m below meth c s₁ hx hby hml hown hret hlk hZ hnm X0 e0
  have SS' := SS
  obtain ⟨hzc, SC, hwf, SF⟩ := SS
  have Z0 : n0 ≤ h0.size := O.1 ▸ O.2.1
  have N0 := Fr.nil n0
  obtain ⟨IE, IC, IF, IV⟩ := I
  refine OGo.cast (g' := (mkF m 0 #[.val (.ref a), .val (.int (Int32.ofNat (so))), .val (.int (Int32.ofNat us.length)), .unset, .unset] [])) (by first | (simp [entryFrame, mkF, argsToLocals, Value.category]; done) | rfl) ?_
  refine og (fun _ k => XS.aloadN X0.here hx rfl (hb hby d42_92_0) rfl rfl k) ?_
  obtain ⟨v105, T105, L105, X105, hQ105, st105⟩ := vcall X0 hx hZ hown (own_g hw 78 rfl) (own_g hw 64 rfl) (own_g hw 66 rfl) rfl (own_g hw 66 rfl) (own_g hw 65 rfl) (own_g hw 11 rfl) (own_g hw 67 rfl) (by decide) (W := 0) (rm_length l Z a0 hw [] a d k us zc wf n0 h0 SS' O ⟨IE, IC, IF, IV⟩) e0 (by decide) (by decide) (by decide) (by decide) (g := (mkF m 1 #[.val (.ref a), .val (.int (Int32.ofNat (so))), .val (.int (Int32.ofNat us.length)), .unset, .unset] [(.ref a)])) rfl (by rw [hml]; rfl) IE (argsL := []) (rest := []) opd_12 rfl rfl rfl (by show 2 * 0 + _ ≤ _; exact Nat.le_of_eq rfl) (hb hby d42_92_1)
  obtain ⟨rfl, rfl, e105⟩ := hQ105
  rw [List.append_nil] at X105
  refine og st105 ?_
  refine og (fun _ k => XS.istoreN X105.here hx rfl (hb hby d42_92_4) rfl (l' := #[.val (.ref a), .val (.int (Int32.ofNat (so))), .val (.int (Int32.ofNat us.length)), .val (.int (Int32.ofNat us.length)), .unset]) rfl k) ?_
  refine og (fun _ k => XS.iloadN X105.here hx rfl (hb hby d42_92_5) rfl k) ?_
  refine og (fun _ k => XS.iloadN X105.here hx rfl (hb hby d42_92_6) rfl k) ?_
  refine og (fun _ k => XS.iloadN X105.here hx rfl (hb hby d42_92_7) rfl k) ?_
  obtain ⟨v106, T106, L106, X106, hQ106, st106⟩ := scall X105 hx hZ hown (own_g hw 111 rfl) (own_g hw 112 rfl) (own_g hw 11 rfl) (own_g hw 113 rfl) (by decide) (W := 0) (rm_cbbe l Z a0 hw [] (Int32.ofNat so) (Int32.ofNat us.length) (Int32.ofNat us.length) zc wf n0 h0 SS' O (own_nn (by omega)) (own_gelt (by omega) (by omega) (by omega)) Int32.lt_irrefl) e105 (by decide) (by decide) (by decide) (by decide) (g := (mkF m 8 #[.val (.ref a), .val (.int (Int32.ofNat (so))), .val (.int (Int32.ofNat us.length)), .val (.int (Int32.ofNat us.length)), .unset] [(.int (Int32.ofNat us.length)), (.int (Int32.ofNat us.length)), (.int (Int32.ofNat (so)))])) rfl (by rw [hml]; rfl) (argsL := [(.int (Int32.ofNat (so))), (.int (Int32.ofNat us.length)), (.int (Int32.ofNat us.length))]) (rest := []) opd_23 rfl rfl rfl (by show 2 * 0 + _ ≤ _; exact Nat.le_of_eq rfl) (hb hby d42_92_8)
  obtain ⟨rfl, rfl, e106⟩ := hQ106
  rw [List.append_nil] at X106
  refine og st106 ?_
  refine og (fun _ k => XS.iloadN X106.here hx rfl (hb hby d42_92_11) rfl k) ?_
  show OGo p e below _ T106 (mkF m 12 #[.val (.ref a), .val (.int (Int32.ofNat (so))), .val (.int (Int32.ofNat us.length)), .val (.int (Int32.ofNat us.length)), .unset] [(.int (Int32.ofNat (so)))])
  refine og (fun _ k => XS.ifYes X106.here hx rfl (pc0 := 12) (pc' := 22) rfl (hb hby d42_92_12) rfl ((if0 _ _).trans (feq (fun h => by have e1 := congrArg Int32.toInt h; rw [own_toInt (by omega)] at e1; have e0 : (0 : Int32).toInt = 0 := rfl; omega)).2) (by decide) (by decide) k) ?_
  refine og (fun _ k => XS.iloadN X106.here hx rfl (hb hby d42_92_22) rfl k) ?_
  refine og (fun _ k => XS.iloadN X106.here hx rfl (hb hby d42_92_23) rfl k) ?_
  refine og (fun _ k => XS.isub X106.here hx rfl (hb hby d42_92_24) rfl k) ?_
  show OGo p e below _ T106 (mkF m 25 #[.val (.ref a), .val (.int (Int32.ofNat (so))), .val (.int (Int32.ofNat us.length)), .val (.int (Int32.ofNat us.length)), .unset] [(.int ((Int32.ofNat us.length) - (Int32.ofNat (so))))])
  rw [own_subn (show so ≤ us.length by omega) (by omega)]
  refine og (fun _ k => XS.istore X106.here hx rfl (hb hby d42_92_25) rfl (l' := #[.val (.ref a), .val (.int (Int32.ofNat (so))), .val (.int (Int32.ofNat us.length)), .val (.int (Int32.ofNat us.length)), .val (.int (Int32.ofNat (us.length - so)))]) rfl k) ?_
  refine og (fun _ k => XS.aloadN X106.here hx rfl (hb hby d42_92_27) rfl rfl k) ?_
  obtain ⟨v107, T107, L107, X107, hQ107, st107⟩ := vcall X106 hx hZ hown (own_g hw 23 rfl) (own_g hw 24 rfl) (own_g hw 26 rfl) rfl (own_g hw 26 rfl) (own_g hw 25 rfl) (own_g hw 11 rfl) (own_g hw 27 rfl) (by decide) (W := 0) (rm_isLatin1 l Z a0 hw [] a zc wf n0 h0 SS' O IC) e106 (by decide) (by decide) (by decide) (by decide) (g := (mkF m 28 #[.val (.ref a), .val (.int (Int32.ofNat (so))), .val (.int (Int32.ofNat us.length)), .val (.int (Int32.ofNat us.length)), .val (.int (Int32.ofNat (us.length - so)))] [(.ref a)])) rfl (by rw [hml]; rfl) IE (argsL := []) (rest := []) opd_3 rfl rfl rfl (by show 2 * 0 + _ ≤ _; exact Nat.le_of_eq rfl) (hb hby d42_92_28)
  obtain ⟨rfl, rfl, e107⟩ := hQ107
  rw [List.append_nil] at X107
  refine og st107 ?_
  show OGo p e below _ T107 (mkF m 31 #[.val (.ref a), .val (.int (Int32.ofNat (so))), .val (.int (Int32.ofNat us.length)), .val (.int (Int32.ofNat us.length)), .val (.int (Int32.ofNat (us.length - so)))] [(.int (1 : Int32))])
  refine og (fun _ k => XS.ifNo X107.here hx rfl (hb hby d42_92_31) rfl ((if0 _ _).trans (feq (by decide : ¬ (1 : Int32) = 0)).1) k) ?_
  refine og (fun _ k => XS.aloadN X107.here hx rfl (hb hby d42_92_34) rfl rfl k) ?_
  obtain ⟨T108, X108, e108, st108⟩ := getF X107 hx hZ hown (host := "") (Or.inl (own_g hw 30 rfl)) Via.refl e107 IF (g := (mkF m 35 #[.val (.ref a), .val (.int (Int32.ofNat (so))), .val (.int (Int32.ofNat us.length)), .val (.int (Int32.ofNat us.length)), .val (.int (Int32.ofNat (us.length - so)))] [(.ref a)])) rfl rfl (hb hby d42_92_35)
  refine og st108 ?_
  refine og (fun _ k => XS.iloadN X108.here hx rfl (hb hby d42_92_38) rfl k) ?_
  refine og (fun _ k => XS.iload X108.here hx rfl (hb hby d42_92_39) rfl k) ?_
  obtain ⟨v109, T109, L109, X109, hQ109, st109⟩ := scall X108 hx hZ hown (own_g hw 117 rfl) (own_g hw 118 rfl) (own_g hw 33 rfl) (own_g hw 119 rfl) (by decide) (W := 0) (rm_newS l Z a0 hw [] d k us so (us.length - so) zc wf n0 h0 SS' O IV (by omega) h10 (by omega) hso) e108 (by decide) (by decide) (by decide) (by decide) (g := (mkF m 41 #[.val (.ref a), .val (.int (Int32.ofNat (so))), .val (.int (Int32.ofNat us.length)), .val (.int (Int32.ofNat us.length)), .val (.int (Int32.ofNat (us.length - so)))] [(.int (Int32.ofNat (us.length - so))), (.int (Int32.ofNat (so))), (.ref d)])) rfl (by rw [hml]; rfl) (argsL := [(.ref d), (.int (Int32.ofNat (so))), (.int (Int32.ofNat (us.length - so)))]) (rest := []) opd_20 rfl rfl rfl (by show 2 * 0 + _ ≤ _; exact Nat.le_of_eq rfl) (hb hby d42_92_41)
  obtain ⟨x109, r109, kr109, rfl, sx109, sr109, N109, K109, I109⟩ := hQ109
  have NN109 := Fr.app N0 N109
  have KK109 : Keep h0 T109.heap [] := (Keep.refl h0 []).trans K109 all0
  refine og st109 ?_
  rw [List.take_of_length_le (by simp)] at I109
  refine og (fun _ k => XS.goto X109.here hx rfl (pc0 := 44) (pc' := 57) rfl (hb hby d42_92_44) (by decide) (by decide) k) ?_
  show OGo p e below _ T109 (mkF m 57 #[.val (.ref a), .val (.int (Int32.ofNat (so))), .val (.int (Int32.ofNat us.length)), .val (.int (Int32.ofNat us.length)), .val (.int (Int32.ofNat (us.length - so)))] [(.ref x109)])
  exact OGo.ret X109 hx (t := (.object "java/lang/String")) hret hlk rfl (Or.inr (Or.inr (Or.inr (Or.inr ⟨rfl, rfl, rfl⟩)))) (hb hby d42_92_57) (by decide) (by decide) ⟨x109, r109, _, rfl, sx109, sr109, NN109, KK109, I109⟩
theorem d42_91_0 : DK jdk_42_method_91_code 0 (.aload_n 0) 1 := by decide +kernel
theorem d42_91_1 : DK jdk_42_method_91_code 1 (.iload_n 1) 1 := by decide +kernel
theorem d42_91_2 : DK jdk_42_method_91_code 2 (.aload_n 0) 1 := by decide +kernel
theorem d42_91_3 : DK jdk_42_method_91_code 3 (.invokevirtual 505) 3 := by decide +kernel
theorem opd_24 : parseMethodDescriptor "(II)Ljava/lang/String;" = some ⟨[.int, .int], some (.object "java/lang/String")⟩ := by decide +kernel
theorem d42_91_6 : DK jdk_42_method_91_code 6 (.invokevirtual 681) 3 := by decide +kernel
theorem d42_91_9 : DK jdk_42_method_91_code 9 .areturn 1 := by decide +kernel
theorem opl_rm_sub1 : plainFor (⟨"java/lang/String", "substring", "(I)Ljava/lang/String;"⟩ : MethodName) = true := plainFor_of_name (by first | (simp [plainName, overriddenIn]; done) | decide +kernel)
theorem rm_sub1 (l : Launch) (Z : State) (a0 : Array Value) (hw : ∀ d ∈ tables_1, d.before a0 Z = true) (ws : List Jvm.Cond) (a d : Addr) (k : ClassId) (us : List Value) (so : Nat) (zc : Int32) (wf : Value) (n0 : Nat) (h0 : Heap) (SS : own_SS Z zc wf) (O : Old Z n0 h0) (I : STI Z h0 a d k us) (hso : 1 ≤ so) (hsl : so < us.length) (h10 : us.length ≤ 10) :
    Con l Z (⟨"java/lang/String", "substring", "(I)Ljava/lang/String;"⟩ : MethodName) jdk_42_method_91_code 2 (some (.object "java/lang/String")) ws ({ frames := 5, cells := 2, slots := 14, locals := 91 } : Room) #[(.ref a), (.int (Int32.ofNat (so)))] h0 (fun v h L => ∃ x r k', v = some (.ref x) ∧ h0.size ≤ x ∧ h0.size ≤ r ∧ Fr n0 L ∧ Keep h0 h [] ∧ STI Z h x r k' (us.drop so)) := by
  refine Con.intro opl_rm_sub1 ?_
  intro p e s m below meth c s₁ hx hby hml hown hret hlk hZ hnm X0 e0
  have SS' := SS
  obtain ⟨hzc, SC, hwf, SF⟩ := SS
  have Z0 : n0 ≤ h0.size := O.1 ▸ O.2.1
  have N0 := Fr.nil n0
  obtain ⟨IE, IC, IF, IV⟩ := I
  refine OGo.cast (g' := (mkF m 0 #[.val (.ref a), .val (.int (Int32.ofNat (so)))] [])) (by first | (simp [entryFrame, mkF, argsToLocals, Value.category]; done) | rfl) ?_
  refine og (fun _ k => XS.aloadN X0.here hx rfl (hb hby d42_91_0) rfl rfl k) ?_
  refine og (fun _ k => XS.iloadN X0.here hx rfl (hb hby d42_91_1) rfl k) ?_
  refine og (fun _ k => XS.aloadN X0.here hx rfl (hb hby d42_91_2) rfl rfl k) ?_
  obtain ⟨v110, T110, L110, X110, hQ110, st110⟩ := vcall X0 hx hZ hown (own_g hw 78 rfl) (own_g hw 64 rfl) (own_g hw 66 rfl) rfl (own_g hw 66 rfl) (own_g hw 65 rfl) (own_g hw 11 rfl) (own_g hw 67 rfl) (by decide) (W := 2) (rm_length l Z a0 hw [] a d k us zc wf n0 h0 SS' O ⟨IE, IC, IF, IV⟩) e0 (by decide) (by decide) (by decide) (by decide) (g := (mkF m 3 #[.val (.ref a), .val (.int (Int32.ofNat (so)))] [(.ref a), (.int (Int32.ofNat (so))), (.ref a)])) rfl (by rw [hml]; rfl) IE (argsL := []) (rest := [(.int (Int32.ofNat (so))), (.ref a)]) opd_12 rfl rfl rfl (by show 2 * 0 + _ ≤ _; exact Nat.le_of_eq rfl) (hb hby d42_91_3)
  obtain ⟨rfl, rfl, e110⟩ := hQ110
  rw [List.append_nil] at X110
  refine og st110 ?_
  obtain ⟨v111, T111, L111, X111, hQ111, st111⟩ := vcall X110 hx hZ hown (own_g hw 106 rfl) (own_g hw 107 rfl) (own_g hw 109 rfl) rfl (own_g hw 109 rfl) (own_g hw 108 rfl) (own_g hw 11 rfl) (own_g hw 110 rfl) (by decide) (W := 0) (rm_sub2 l Z a0 hw [] a d k us so zc wf n0 h0 SS' O ⟨IE, IC, IF, IV⟩ hso hsl h10) e110 (by decide) (by decide) (by decide) (by decide) (g := (mkF m 6 #[.val (.ref a), .val (.int (Int32.ofNat (so)))] [(.int (Int32.ofNat us.length)), (.int (Int32.ofNat (so))), (.ref a)])) rfl (by rw [hml]; rfl) IE (argsL := [(.int (Int32.ofNat (so))), (.int (Int32.ofNat us.length))]) (rest := []) opd_24 rfl rfl rfl (by show 2 * 0 + _ ≤ _; exact Nat.le_of_eq rfl) (hb hby d42_91_6)
  obtain ⟨x111, r111, kr111, rfl, sx111, sr111, N111, K111, I111⟩ := hQ111
  have NN111 := Fr.app N0 N111
  have KK111 : Keep h0 T111.heap [] := (Keep.refl h0 []).trans K111 all0
  refine og st111 ?_
  show OGo p e below _ T111 (mkF m 9 #[.val (.ref a), .val (.int (Int32.ofNat (so)))] [(.ref x111)])
  exact OGo.ret X111 hx (t := (.object "java/lang/String")) hret hlk rfl (Or.inr (Or.inr (Or.inr (Or.inr ⟨rfl, rfl, rfl⟩)))) (hb hby d42_91_9) (by decide) (by decide) ⟨x111, r111, _, rfl, sx111, sr111, NN111, KK111, I111⟩
theorem d9_4_0 : DK prog_9_method_4_code 0 (.aload_n 0) 1 := by decide +kernel
theorem d9_4_1 : DK prog_9_method_4_code 1 (.ifnull 46) 3 := by decide +kernel
theorem d9_4_47 : DK prog_9_method_4_code 47 .aconst_null 1 := by decide +kernel
theorem d9_4_48 : DK prog_9_method_4_code 48 .areturn 1 := by decide +kernel
theorem opl_rm_ptN : plainFor (⟨"com/example/provisa/provisa/server/BearerTokens", "presentedToken", "(Ljava/lang/String;)Ljava/lang/String;"⟩ : MethodName) = true := plainFor_of_name (by first | (simp [plainName, overriddenIn]; done) | decide +kernel)
theorem rm_ptN (l : Launch) (Z : State) (a0 : Array Value) (hw : ∀ d ∈ tables_1, d.before a0 Z = true) (ws : List Jvm.Cond) (zc : Int32) (wf : Value) (n0 : Nat) (h0 : Heap) (SS : own_SS Z zc wf) (O : Old Z n0 h0) :
    ConH l Z own_EL (⟨"com/example/provisa/provisa/server/BearerTokens", "presentedToken", "(Ljava/lang/String;)Ljava/lang/String;"⟩ : MethodName) prog_9_method_4_code 1 (some (.object "java/lang/String")) ws ({ frames := 0, cells := 0, slots := 0, locals := 0 } : Room) #[.null] h0 (fun v h L => v = some .null ∧ Fr n0 L ∧ Keep h0 h []) := by
  refine ConH.intro opl_rm_ptN ?_
  intro p e s m below meth c s₁ hx hby hml hown hret hlk hZ hnm X0 e0 hs0 hS0 H0 R0
  have SS' := SS
  obtain ⟨hzc, SC, hwf, SF⟩ := SS
  have Z0 : n0 ≤ h0.size := O.1 ▸ O.2.1
  have N0 := Fr.nil n0
  refine OGo.cast (g' := (mkF m 0 #[.val .null] [])) (by first | (simp [entryFrame, mkF, argsToLocals, Value.category]; done) | rfl) ?_
  refine og (fun _ k => XS.aloadN X0.here hx rfl (hb hby d9_4_0) rfl rfl k) ?_
  refine og (fun _ k => XS.ifnullYes X0.here hx rfl (pc0 := 1) (pc' := 47) rfl (hb hby d9_4_1) rfl (by decide) (by decide) k) ?_
  refine og (fun _ k => XS.aconstNull X0.here hx rfl (hb hby d9_4_47) k) ?_
  show OGo p e below _ s₁ (mkF m 48 #[.val .null] [.null])
  exact OGo.retH X0 hx hZ (own_hEL hw) hs0 e0 hS0 (Nat.zero_le _) H0 R0 (t := (.object "java/lang/String")) hret hlk rfl (Or.inr (Or.inr (Or.inr (Or.inr ⟨rfl, rfl, rfl⟩)))) (hb hby d9_4_48) (by decide) (by decide) ⟨rfl, N0, (Keep.refl h0 [])⟩
abbrev own_pres (cs : List Int32) : Prop := 6 < cs.length ∧ own_bear cs ∧ cs.getD 6 0 = 32
theorem own_dr6 {cs : List Int32} (h : 6 < cs.length) : (cs.drop 6).getD 0 0 = cs.getD 6 0 := by simp [List.getD]
theorem own_ok6 {cs : List Int32} (o : own_ok8 cs) : own_ok8 (cs.drop 6) := fun x hx => o x (List.mem_of_mem_drop hx)
theorem own_b8dr (cs : List Int32) : (own_b8 cs).drop 6 = own_b8 (cs.drop 6) := by simp [own_b8, List.map_drop]
theorem d9_4_4 : DK prog_9_method_4_code 4 (.aload_n 0) 1 := by decide +kernel
theorem d9_4_5 : DK prog_9_method_4_code 5 (.iconst 1) 1 := by decide +kernel
theorem d9_4_6 : DK prog_9_method_4_code 6 (.iconst 0) 1 := by decide +kernel
theorem d9_4_7 : DK prog_9_method_4_code 7 (.ldc 110) 2 := by decide +kernel
theorem d9_4_9 : DK prog_9_method_4_code 9 (.iconst 0) 1 := by decide +kernel
theorem d9_4_10 : DK prog_9_method_4_code 10 (.ldc 110) 2 := by decide +kernel
theorem d9_4_12 : DK prog_9_method_4_code 12 (.invokevirtual 112) 3 := by decide +kernel
theorem opd_25 : parseMethodDescriptor "(ZILjava/lang/String;II)Z" = some ⟨[.boolean, .int, (.object "java/lang/String"), .int, .int], some .boolean⟩ := by decide +kernel
theorem d9_4_15 : DK prog_9_method_4_code 15 (.invokevirtual 115) 3 := by decide +kernel
theorem d9_4_18 : DK prog_9_method_4_code 18 (.ifCond .eq 29) 3 := by decide +kernel
theorem d9_4_21 : DK prog_9_method_4_code 21 (.aload_n 0) 1 := by decide +kernel
theorem d9_4_22 : DK prog_9_method_4_code 22 (.invokevirtual 112) 3 := by decide +kernel
theorem d9_4_25 : DK prog_9_method_4_code 25 (.ldc 110) 2 := by decide +kernel
theorem d9_4_27 : DK prog_9_method_4_code 27 (.invokevirtual 112) 3 := by decide +kernel
theorem d9_4_30 : DK prog_9_method_4_code 30 (.if_icmp .eq 17) 3 := by decide +kernel
theorem d9_4_33 : DK prog_9_method_4_code 33 (.aload_n 0) 1 := by decide +kernel
theorem d9_4_34 : DK prog_9_method_4_code 34 (.ldc 110) 2 := by decide +kernel
theorem d9_4_36 : DK prog_9_method_4_code 36 (.invokevirtual 112) 3 := by decide +kernel
theorem d9_4_39 : DK prog_9_method_4_code 39 (.invokevirtual 119) 3 := by decide +kernel
theorem d9_4_42 : DK prog_9_method_4_code 42 (.bipush 32) 2 := by decide +kernel
theorem d9_4_44 : DK prog_9_method_4_code 44 (.if_icmp .eq 5) 3 := by decide +kernel
theorem d9_4_49 : DK prog_9_method_4_code 49 (.aload_n 0) 1 := by decide +kernel
theorem d9_4_50 : DK prog_9_method_4_code 50 (.ldc 110) 2 := by decide +kernel
theorem d9_4_52 : DK prog_9_method_4_code 52 (.invokevirtual 112) 3 := by decide +kernel
theorem opd_26 : parseMethodDescriptor "(I)Ljava/lang/String;" = some ⟨[.int], some (.object "java/lang/String")⟩ := by decide +kernel
theorem d9_4_55 : DK prog_9_method_4_code 55 (.invokevirtual 123) 3 := by decide +kernel
theorem opd_27 : parseMethodDescriptor "()Ljava/lang/String;" = some ⟨[], some (.object "java/lang/String")⟩ := by decide +kernel
theorem d9_4_58 : DK prog_9_method_4_code 58 (.invokevirtual 64) 3 := by decide +kernel
theorem d9_4_61 : DK prog_9_method_4_code 61 .areturn 1 := by decide +kernel
theorem opl_rm_pt : plainFor (⟨"com/example/provisa/provisa/server/BearerTokens", "presentedToken", "(Ljava/lang/String;)Ljava/lang/String;"⟩ : MethodName) = true := plainFor_of_name (by first | (simp [plainName, overriddenIn]; done) | decide +kernel)
theorem rm_pt (l : Launch) (Z : State) (a0 : Array Value) (hw : ∀ d ∈ tables_1, d.before a0 Z = true) (ws : List Jvm.Cond) (a d : Addr) (k : ClassId) (cs : List Int32) (zc : Int32) (wf : Value) (n0 : Nat) (ic dA : Addr) (kA : ClassId) (h0 : Heap) (SS : own_SS Z zc wf) (O : Old Z n0 h0) (SC' : own_SC Z ic dA kA) (I : STI Z h0 a d k (own_b8 cs)) (hok : own_ok8 cs) (h10 : cs.length ≤ 10) :
    ConH l Z own_EL (⟨"com/example/provisa/provisa/server/BearerTokens", "presentedToken", "(Ljava/lang/String;)Ljava/lang/String;"⟩ : MethodName) prog_9_method_4_code 1 (some (.object "java/lang/String")) ws ({ frames := 6, cells := 6, slots := 56, locals := 104 } : Room) #[(.ref a)] h0 (fun v h L => Fr n0 L ∧ Keep h0 h [] ∧ ((¬ own_pres cs ∧ v = some .null) ∨ (own_pres cs ∧ ∃ x r k' bs, v = some (.ref x) ∧ STI Z h x r k' (own_b8 bs) ∧ own_strips (cs.drop 6) bs))) := by
  refine ConH.intro opl_rm_pt ?_
  intro p e s m below meth c s₁ hx hby hml hown hret hlk hZ hnm X0 e0 hs0 hS0 H0 R0
  have SS' := SS
  obtain ⟨hzc, SC, hwf, SF⟩ := SS
  have Z0 : n0 ≤ h0.size := O.1 ▸ O.2.1
  have N0 := Fr.nil n0
  have SCk := SC'
  obtain ⟨IE, IC, IF, IV⟩ := I
  refine OGo.cast (g' := (mkF m 0 #[.val (.ref a)] [])) (by first | (simp [entryFrame, mkF, argsToLocals, Value.category]; done) | rfl) ?_
  refine og (fun _ k => XS.aloadN X0.here hx rfl (hb hby d9_4_0) rfl rfl k) ?_
  refine og (fun _ k => XS.ifnullNo X0.here hx rfl (hb hby d9_4_1) rfl k) ?_
  refine og (fun _ k => XS.aloadN X0.here hx rfl (hb hby d9_4_4) rfl rfl k) ?_
  refine og (fun _ k => XS.iconst X0.here hx rfl (hb hby d9_4_5) k) ?_
  refine og (fun _ k => XS.iconst X0.here hx rfl (hb hby d9_4_6) k) ?_
  obtain ⟨a112, T112, h112, kk112, d112, kd112, X112, e112, E112, hS112, hk112, hZ112, hown112, A112, C112, F112, V112, lt112, ltd112, CR112, Li112, sf112, st112⟩ := ldcCH X0 hx hZ hown (own_g hw 62 rfl) (own_wS hw) e0 hS0 (Nat.zero_le _) (own_hEL hw) (List.mem_of_getElem? (i := 0) rfl) H0 (vs := [(.int (66 : Int32)), (.int (101 : Int32)), (.int (97 : Int32)), (.int (114 : Int32)), (.int (101 : Int32)), (.int (114 : Int32))]) (z := (6 : Int32)) (by decide) (by decide) (by decide) (g := (mkF m 7 #[.val (.ref a)] [(.int (0 : Int32)), (.int (1 : Int32)), (.ref a)])) rfl (hb hby d9_4_7) (n := 24) (by decide) (by decide) (by decide) (by decide)
  have KK112 : Keep h0 h112 [] := (Keep.refl h0 []).ext E112
  have H112 := CR112.1
  have R112 := CHr.trans R0 CR112
  refine og st112 ?_
  have LV112 : Arv Z h112 d112 kd112 .byte (Int32.ofNat own_l110.length) own_l110 (.int (0 : Int32)) := V112
  refine og (fun _ k => XS.iconst X112.here hx rfl (hb hby d9_4_9) k) ?_
  refine og (ldcAgain X112 hx hZ112 hown112 (own_g hw 62 rfl) (show Lit (s.setVm T112.vm) _ _ _ from Li112) (g := (mkF m 10 #[.val (.ref a)] [(.int (0 : Int32)), (.ref a112), (.int (0 : Int32)), (.int (1 : Int32)), (.ref a)])) rfl (hb hby d9_4_10)) ?_
  obtain ⟨v113, T113, L113, X113, hQ113, st113⟩ := vcall X112 hx hZ112 hown112 (own_g hw 63 rfl) (own_g hw 64 rfl) (own_g hw 66 rfl) rfl (own_g hw 66 rfl) (own_g hw 65 rfl) (own_g hw 11 rfl) (own_g hw 67 rfl) (by decide) (W := 5) (rm_length l Z a0 hw [] a112 d112 kd112 own_l110 zc wf n0 h112 SS' (O.ext E112) ⟨A112, C112, F112, LV112⟩) e112 (by decide) (by decide) (by decide) (by decide) (g := (mkF m 12 #[.val (.ref a)] [(.ref a112), (.int (0 : Int32)), (.ref a112), (.int (0 : Int32)), (.int (1 : Int32)), (.ref a)])) rfl (by rw [hml]; rfl) A112 (argsL := []) (rest := [(.int (0 : Int32)), (.ref a112), (.int (0 : Int32)), (.int (1 : Int32)), (.ref a)]) opd_12 rfl rfl rfl (by show 2 * 0 + _ ≤ _; exact Nat.le_of_eq rfl) (hb hby d9_4_12)
  obtain ⟨rfl, rfl, e113⟩ := hQ113
  rw [List.append_nil] at X113
  refine og st113 ?_
  obtain ⟨v114, T114, L114, X114, hQ114, st114⟩ := vcall X113 hx hZ112 hown112 (own_g hw 73 rfl) (own_g hw 74 rfl) (own_g hw 76 rfl) rfl (own_g hw 76 rfl) (own_g hw 75 rfl) (own_g hw 11 rfl) (own_g hw 77 rfl) (by decide) (W := 0) (rm_regm l Z a0 hw [] a a112 d d112 k kd112 cs zc wf n0 h112 SS' (O.ext E112) ⟨(IE.ext E112), (IC.ext E112), (IF.ext E112), (IV.ext E112)⟩ ⟨A112, C112, F112, LV112⟩ hok h10) e113 (by decide) (by decide) (by decide) (by decide) (g := (mkF m 15 #[.val (.ref a)] [(.int (6 : Int32)), (.int (0 : Int32)), (.ref a112), (.int (0 : Int32)), (.int (1 : Int32)), (.ref a)])) rfl (by rw [hml]; rfl) (IE.ext E112) (argsL := [(.int (1 : Int32)), (.int (0 : Int32)), (.ref a112), (.int (0 : Int32)), (.int (6 : Int32))]) (rest := []) opd_25 rfl rfl rfl (by show 2 * 0 + _ ≤ _; exact Nat.le_of_eq rfl) (hb hby d9_4_15)
  obtain ⟨rfl, rfl, e114⟩ := hQ114
  rw [List.append_nil] at X114
  refine og st114 ?_
  by_cases q1 : 6 ≤ cs.length ∧ own_bear cs
  case neg =>
    show OGo p e below _ T114 (mkF m 18 #[.val (.ref a)] [(.int (if 6 ≤ cs.length ∧ own_bear cs then 1 else 0))])
    rw [if_neg q1]
    show OGo p e below _ T114 (mkF m 18 #[.val (.ref a)] [(.int (0 : Int32))])
    refine og (fun _ k => XS.ifYes X114.here hx rfl (pc0 := 18) (pc' := 47) rfl (hb hby d9_4_18) rfl ((if0 _ _).trans (teq (rfl : (0 : Int32) = 0)).1) (by decide) (by decide) k) ?_
    refine og (fun _ k => XS.aconstNull X114.here hx rfl (hb hby d9_4_47) k) ?_
    show OGo p e below _ T114 (mkF m 48 #[.val (.ref a)] [.null])
    exact OGo.retH X114 hx hZ112 (own_hEL hw) hs0 e114 hS112 hk112 H112 R112 (t := (.object "java/lang/String")) hret hlk rfl (Or.inr (Or.inr (Or.inr (Or.inr ⟨rfl, rfl, rfl⟩)))) (hb hby d9_4_48) (by decide) (by decide) ⟨N0, KK112, Or.inl ⟨fun h => q1 ⟨by omega, h.2.1⟩, rfl⟩⟩
  show OGo p e below _ T114 (mkF m 18 #[.val (.ref a)] [(.int (if 6 ≤ cs.length ∧ own_bear cs then 1 else 0))])
  rw [if_pos q1]
  show OGo p e below _ T114 (mkF m 18 #[.val (.ref a)] [(.int (1 : Int32))])
  refine og (fun _ k => XS.ifNo X114.here hx rfl (hb hby d9_4_18) rfl ((if0 _ _).trans (feq (by decide : ¬ (1 : Int32) = 0)).1) k) ?_
  refine og (fun _ k => XS.aloadN X114.here hx rfl (hb hby d9_4_21) rfl rfl k) ?_
  obtain ⟨v115, T115, L115, X115, hQ115, st115⟩ := vcall X114 hx hZ112 hown112 (own_g hw 63 rfl) (own_g hw 64 rfl) (own_g hw 66 rfl) rfl (own_g hw 66 rfl) (own_g hw 65 rfl) (own_g hw 11 rfl) (own_g hw 67 rfl) (by decide) (W := 0) (rm_length l Z a0 hw [] a d k (own_b8 cs) zc wf n0 h112 SS' (O.ext E112) ⟨(IE.ext E112), (IC.ext E112), (IF.ext E112), (IV.ext E112)⟩) e114 (by decide) (by decide) (by decide) (by decide) (g := (mkF m 22 #[.val (.ref a)] [(.ref a)])) rfl (by rw [hml]; rfl) (IE.ext E112) (argsL := []) (rest := []) opd_12 rfl rfl rfl (by show 2 * 0 + _ ≤ _; exact Nat.le_of_eq rfl) (hb hby d9_4_22)
  obtain ⟨rfl, rfl, e115⟩ := hQ115
  rw [List.append_nil] at X115
  refine og st115 ?_
  show OGo p e below _ T115 (mkF m 25 #[.val (.ref a)] [(.int (Int32.ofNat (own_b8 cs).length))])
  rw [own_b8_len]
  refine og (ldcAgain X115 hx hZ112 hown112 (own_g hw 62 rfl) (show Lit (s.setVm T112.vm) _ _ _ from Li112) (g := (mkF m 25 #[.val (.ref a)] [(.int (Int32.ofNat cs.length))])) rfl (hb hby d9_4_25)) ?_
  obtain ⟨v116, T116, L116, X116, hQ116, st116⟩ := vcall X115 hx hZ112 hown112 (own_g hw 63 rfl) (own_g hw 64 rfl) (own_g hw 66 rfl) rfl (own_g hw 66 rfl) (own_g hw 65 rfl) (own_g hw 11 rfl) (own_g hw 67 rfl) (by decide) (W := 1) (rm_length l Z a0 hw [] a112 d112 kd112 own_l110 zc wf n0 h112 SS' (O.ext E112) ⟨A112, C112, F112, LV112⟩) e115 (by decide) (by decide) (by decide) (by decide) (g := (mkF m 27 #[.val (.ref a)] [(.ref a112), (.int (Int32.ofNat cs.length))])) rfl (by rw [hml]; rfl) A112 (argsL := []) (rest := [(.int (Int32.ofNat cs.length))]) opd_12 rfl rfl rfl (by show 2 * 0 + _ ≤ _; exact Nat.le_of_eq rfl) (hb hby d9_4_27)
  obtain ⟨rfl, rfl, e116⟩ := hQ116
  rw [List.append_nil] at X116
  refine og st116 ?_
  by_cases q2 : cs.length = 6
  case pos =>
    show OGo p e below _ T116 (mkF m 30 #[.val (.ref a)] [(.int (6 : Int32)), (.int (Int32.ofNat cs.length))])
    refine og (fun _ k => XS.icmpYes X116.here hx rfl (pc0 := 30) (pc' := 47) rfl (hb hby d9_4_30) rfl (teq (by rw [q2]; rfl)).1 (by decide) (by decide) k) ?_
    refine og (fun _ k => XS.aconstNull X116.here hx rfl (hb hby d9_4_47) k) ?_
    show OGo p e below _ T116 (mkF m 48 #[.val (.ref a)] [.null])
    exact OGo.retH X116 hx hZ112 (own_hEL hw) hs0 e116 hS112 hk112 H112 R112 (t := (.object "java/lang/String")) hret hlk rfl (Or.inr (Or.inr (Or.inr (Or.inr ⟨rfl, rfl, rfl⟩)))) (hb hby d9_4_48) (by decide) (by decide) ⟨N0, KK112, Or.inl ⟨fun h => by have := h.1; omega, rfl⟩⟩
  show OGo p e below _ T116 (mkF m 30 #[.val (.ref a)] [(.int (6 : Int32)), (.int (Int32.ofNat cs.length))])
  refine og (fun _ k => XS.icmpNo X116.here hx rfl (hb hby d9_4_30) rfl (feq (fun h => q2 (by have e1 := congrArg Int32.toInt h; rw [own_toInt (by omega)] at e1; have e6 : (6 : Int32).toInt = 6 := rfl; omega))).1 k) ?_
  have h7 : 6 < cs.length := by omega
  refine og (fun _ k => XS.aloadN X116.here hx rfl (hb hby d9_4_33) rfl rfl k) ?_
  refine og (ldcAgain X116 hx hZ112 hown112 (own_g hw 62 rfl) (show Lit (s.setVm T112.vm) _ _ _ from Li112) (g := (mkF m 34 #[.val (.ref a)] [(.ref a)])) rfl (hb hby d9_4_34)) ?_
  obtain ⟨v117, T117, L117, X117, hQ117, st117⟩ := vcall X116 hx hZ112 hown112 (own_g hw 63 rfl) (own_g hw 64 rfl) (own_g hw 66 rfl) rfl (own_g hw 66 rfl) (own_g hw 65 rfl) (own_g hw 11 rfl) (own_g hw 67 rfl) (by decide) (W := 1) (rm_length l Z a0 hw [] a112 d112 kd112 own_l110 zc wf n0 h112 SS' (O.ext E112) ⟨A112, C112, F112, LV112⟩) e116 (by decide) (by decide) (by decide) (by decide) (g := (mkF m 36 #[.val (.ref a)] [(.ref a112), (.ref a)])) rfl (by rw [hml]; rfl) A112 (argsL := []) (rest := [(.ref a)]) opd_12 rfl rfl rfl (by show 2 * 0 + _ ≤ _; exact Nat.le_of_eq rfl) (hb hby d9_4_36)
  obtain ⟨rfl, rfl, e117⟩ := hQ117
  rw [List.append_nil] at X117
  refine og st117 ?_
  obtain ⟨v118, T118, L118, X118, hQ118, st118⟩ := vcall X117 hx hZ112 hown112 (own_g hw 100 rfl) (own_g hw 19 rfl) (own_g hw 21 rfl) rfl (own_g hw 21 rfl) (own_g hw 20 rfl) (own_g hw 11 rfl) (own_g hw 22 rfl) (by decide) (W := 0) (rm_charAt l Z a0 hw [] a d k (own_b8 cs) (6 : Int32) (cs.getD 6 0).toInt8.toInt32 zc wf n0 h112 SS' (O.ext E112) ⟨(IE.ext E112), (IC.ext E112), (IF.ext E112), (IV.ext E112)⟩ (by decide) (show Int32.ofNat 6 < _ from (own_lt (by decide) (by rw [own_b8_len]; omega)).mpr (by rw [own_b8_len]; omega)) (own_b8at h7)) e117 (by decide) (by decide) (by decide) (by decide) (g := (mkF m 39 #[.val (.ref a)] [(.int (6 : Int32)), (.ref a)])) rfl (by rw [hml]; rfl) (IE.ext E112) (argsL := [(.int (6 : Int32))]) (rest := []) opd_10 rfl rfl rfl (by show 2 * 0 + _ ≤ _; exact Nat.le_of_eq rfl) (hb hby d9_4_39)
  obtain ⟨rfl, rfl, e118⟩ := hQ118
  rw [List.append_nil] at X118
  refine og st118 ?_
  show OGo p e below _ T118 (mkF m 42 #[.val (.ref a)] [(.int ((cs.getD 6 0).toInt8.toInt32 &&& 255))])
  rw [own_lo8 (own_okat h7 hok)]
  refine og (fun _ k => XS.bipush X118.here hx rfl (hb hby d9_4_42) k) ?_
  by_cases q3 : cs.getD 6 0 = 32
  case neg =>
    show OGo p e below _ T118 (mkF m 44 #[.val (.ref a)] [(.int (32 : Int32)), (.int (cs.getD 6 0))])
    refine og (fun _ k => XS.icmpNo X118.here hx rfl (hb hby d9_4_44) rfl (feq q3).1 k) ?_
    refine og (fun _ k => XS.aconstNull X118.here hx rfl (hb hby d9_4_47) k) ?_
    show OGo p e below _ T118 (mkF m 48 #[.val (.ref a)] [.null])
    exact OGo.retH X118 hx hZ112 (own_hEL hw) hs0 e118 hS112 hk112 H112 R112 (t := (.object "java/lang/String")) hret hlk rfl (Or.inr (Or.inr (Or.inr (Or.inr ⟨rfl, rfl, rfl⟩)))) (hb hby d9_4_48) (by decide) (by decide) ⟨N0, KK112, Or.inl ⟨fun h => q3 h.2.2, rfl⟩⟩
  show OGo p e below _ T118 (mkF m 44 #[.val (.ref a)] [(.int (32 : Int32)), (.int (cs.getD 6 0))])
  refine og (fun _ k => XS.icmpYes X118.here hx rfl (pc0 := 44) (pc' := 49) rfl (hb hby d9_4_44) rfl (teq q3).1 (by decide) (by decide) k) ?_
  refine og (fun _ k => XS.aloadN X118.here hx rfl (hb hby d9_4_49) rfl rfl k) ?_
  refine og (ldcAgain X118 hx hZ112 hown112 (own_g hw 62 rfl) (show Lit (s.setVm T112.vm) _ _ _ from Li112) (g := (mkF m 50 #[.val (.ref a)] [(.ref a)])) rfl (hb hby d9_4_50)) ?_
  obtain ⟨v119, T119, L119, X119, hQ119, st119⟩ := vcall X118 hx hZ112 hown112 (own_g hw 63 rfl) (own_g hw 64 rfl) (own_g hw 66 rfl) rfl (own_g hw 66 rfl) (own_g hw 65 rfl) (own_g hw 11 rfl) (own_g hw 67 rfl) (by decide) (W := 1) (rm_length l Z a0 hw [] a112 d112 kd112 own_l110 zc wf n0 h112 SS' (O.ext E112) ⟨A112, C112, F112, LV112⟩) e118 (by decide) (by decide) (by decide) (by decide) (g := (mkF m 52 #[.val (.ref a)] [(.ref a112), (.ref a)])) rfl (by rw [hml]; rfl) A112 (argsL := []) (rest := [(.ref a)]) opd_12 rfl rfl rfl (by show 2 * 0 + _ ≤ _; exact Nat.le_of_eq rfl) (hb hby d9_4_52)
  obtain ⟨rfl, rfl, e119⟩ := hQ119
  rw [List.append_nil] at X119
  refine og st119 ?_
  obtain ⟨v120, T120, L120, X120, hQ120, st120⟩ := vcall X119 hx hZ112 hown112 (own_g hw 101 rfl) (own_g hw 102 rfl) (own_g hw 104 rfl) rfl (own_g hw 104 rfl) (own_g hw 103 rfl) (own_g hw 11 rfl) (own_g hw 105 rfl) (by decide) (W := 0) (rm_sub1 l Z a0 hw [] a d k (own_b8 cs) 6 zc wf n0 h112 SS' (O.ext E112) ⟨(IE.ext E112), (IC.ext E112), (IF.ext E112), (IV.ext E112)⟩ (by decide) (by rw [own_b8_len]; exact h7) (by rw [own_b8_len]; exact h10)) e119 (by decide) (by decide) (by decide) (by decide) (g := (mkF m 55 #[.val (.ref a)] [(.int (6 : Int32)), (.ref a)])) rfl (by rw [hml]; rfl) (IE.ext E112) (argsL := [(.int (6 : Int32))]) (rest := []) opd_26 rfl rfl rfl (by show 2 * 0 + _ ≤ _; exact Nat.le_of_eq rfl) (hb hby d9_4_55)
  obtain ⟨x120, r120, kr120, rfl, sx120, sr120, N120, K120, I120⟩ := hQ120
  have NN120 := Fr.app N0 N120
  have KK120 : Keep h0 T120.heap [] := KK112.trans K120 all0
  have H120 := CHv.keep K120 sf0 H112
  have R120 := CHr.trans R112 (CHr.keep K120 sf0 H112)
  have sz_x120 : h0.size ≤ x120 := Nat.le_trans KK112.1 sx120
  have sz_r120 : h0.size ≤ r120 := Nat.le_trans KK112.1 sr120
  refine og st120 ?_
  rw [own_b8dr] at I120
  obtain ⟨v121, T121, L121, kk121, X121, hS121, hk121, hZ121, hown121, CR121, hQ121, st121⟩ := vcallH X120 hx hZ112 hown112 (own_hEL hw) hS112 (Nat.le_trans hk112 K120.1) H120 (own_g hw 142 rfl) (own_g hw 143 rfl) (own_g hw 145 rfl) rfl (own_g hw 145 rfl) (own_g hw 144 rfl) (own_g hw 11 rfl) (own_g hw 146 rfl) (by decide) (W := 0) (rm_strip l Z a0 hw [] x120 r120 kr120 (cs.drop 6) zc wf n0 ic dA kA T120.heap SS' ((O.ext E112).keep K120 all0) SCk I120 (own_ok6 hok) (by simp; omega) (by simp; omega) (by rw [own_dr6 h7, q3]; decide)) rfl (by decide) (by decide) (by decide) (by decide) (g := (mkF m 58 #[.val (.ref a)] [(.ref x120)])) rfl (by rw [hml]; rfl) I120.1 (argsL := []) (rest := []) opd_27 rfl rfl rfl (by show 2 * 0 + _ ≤ _; exact Nat.le_of_eq rfl) (hb hby d9_4_58)
  obtain ⟨x121, r121, kr121, bs121, rfl, N121, K121, I121, hs121⟩ := hQ121
  have NN121 := Fr.app NN120 N121
  have KK121 : Keep h0 T121.heap [] := KK120.trans K121 all0
  have H121 := CR121.1
  have R121 := CHr.trans R120 CR121
  refine og st121 ?_
  show OGo p e below _ T121 (mkF m 61 #[.val (.ref a)] [(.ref x121)])
  exact OGo.retH X121 hx hZ121 (own_hEL hw) hs0 rfl hS121 hk121 H121 R121 (t := (.object "java/lang/String")) hret hlk rfl (Or.inr (Or.inr (Or.inr (Or.inr ⟨rfl, rfl, rfl⟩)))) (hb hby d9_4_61) (by decide) (by decide) ⟨NN121, KK121, Or.inr ⟨⟨h7, q1.2, q3⟩, x121, r121, _, bs121, rfl, I121, hs121⟩⟩
def own_lo1 (n : Nat) (w9 : Bool) : Nat := if 9 < n ∧ w9 = false then 9 else n
def own_lo2 (n : Nat) (w8 w9 : Bool) : Nat := if 8 < n ∧ w8 = false then 8 else own_lo1 n w9
def own_lo3 (n : Nat) (w7 w8 w9 : Bool) : Nat := if 7 < n ∧ w7 = false then 7 else own_lo2 n w8 w9
def own_hi1 (n : Nat) (w7 : Bool) : Nat := if 7 < n ∧ w7 = false then 7 else 6
def own_hi2 (n : Nat) (w7 w8 : Bool) : Nat := if 8 < n ∧ w8 = false then 8 else own_hi1 n w7
def own_hi3 (n : Nat) (w7 w8 w9 : Bool) : Nat := if 9 < n ∧ w9 = false then 9 else own_hi2 n w7 w8
def own_mm (lo hi : Nat) : Nat := if hi < lo then 0 else hi - lo + 1

theorem own_fin7 {x7 x8 x9 : Int32} {bs : List Int32} (h : own_strips [32] bs) : bs.length = own_mm (own_lo3 7 (own_wsb x7) (own_wsb x8) (own_wsb x9)) (own_hi3 7 (own_wsb x7) (own_wsb x8) (own_wsb x9)) ∧ bs.length ≤ 3 ∧ own_lo3 7 (own_wsb x7) (own_wsb x8) (own_wsb x9) ≤ 10 ∧ ∀ j, j < bs.length → own_lo3 7 (own_wsb x7) (own_wsb x8) (own_wsb x9) + j < 10 ∧ bs.getD j 0 = ([32, x7, x8, x9] : List Int32).getD (own_lo3 7 (own_wsb x7) (own_wsb x8) (own_wsb x9) + j - 6) 0 := by
  have w0 : own_wsb 32 = true := by decide
  rcases h with ⟨rfl, h⟩ | ⟨f, r, hfr, hr, rfl, h1, h2, h3, h4⟩
  · have a0 := h 0 (show 0 < 1 by decide)
    simp at a0
    simp [own_mm, own_lo3, own_lo2, own_lo1, own_hi3, own_hi2, own_hi1]
  · have hr' : r ≤ 1 := hr
    have hf0 : f ≠ 0 := fun q => by subst q; exact h2 w0
    omega
theorem own_fin8 {x7 x8 x9 : Int32} {bs : List Int32} (h : own_strips [32, x7] bs) : bs.length = own_mm (own_lo3 8 (own_wsb x7) (own_wsb x8) (own_wsb x9)) (own_hi3 8 (own_wsb x7) (own_wsb x8) (own_wsb x9)) ∧ bs.length ≤ 3 ∧ own_lo3 8 (own_wsb x7) (own_wsb x8) (own_wsb x9) ≤ 10 ∧ ∀ j, j < bs.length → own_lo3 8 (own_wsb x7) (own_wsb x8) (own_wsb x9) + j < 10 ∧ bs.getD j 0 = ([32, x7, x8, x9] : List Int32).getD (own_lo3 8 (own_wsb x7) (own_wsb x8) (own_wsb x9) + j - 6) 0 := by
  have w0 : own_wsb 32 = true := by decide
  rcases h with ⟨rfl, h⟩ | ⟨f, r, hfr, hr, rfl, h1, h2, h3, h4⟩
  · have a0 := h 0 (show 0 < 2 by decide)
    have a1 := h 1 (show 1 < 2 by decide)
    simp at a0 a1
    simp [own_mm, own_lo3, own_lo2, own_lo1, own_hi3, own_hi2, own_hi1, a1]
  · have hr' : r ≤ 2 := hr
    have hf0 : f ≠ 0 := fun q => by subst q; exact h2 w0
    rcases (by omega : (f = 1 ∧ r = 2)) with ⟨rfl, rfl⟩
    · simp at h2 h4
      refine ⟨by simp [own_mm, own_lo3, own_lo2, own_lo1, own_hi3, own_hi2, own_hi1, h2, h4], by simp, by simp [own_lo3, own_lo2, own_lo1, h2, h4], fun j hj => ?_⟩
      simp at hj
      rcases (by omega : j = 0) with rfl <;> simp [own_lo3, own_lo2, own_lo1, h2, h4]
theorem own_fin9 {x7 x8 x9 : Int32} {bs : List Int32} (h : own_strips [32, x7, x8] bs) : bs.length = own_mm (own_lo3 9 (own_wsb x7) (own_wsb x8) (own_wsb x9)) (own_hi3 9 (own_wsb x7) (own_wsb x8) (own_wsb x9)) ∧ bs.length ≤ 3 ∧ own_lo3 9 (own_wsb x7) (own_wsb x8) (own_wsb x9) ≤ 10 ∧ ∀ j, j < bs.length → own_lo3 9 (own_wsb x7) (own_wsb x8) (own_wsb x9) + j < 10 ∧ bs.getD j 0 = ([32, x7, x8, x9] : List Int32).getD (own_lo3 9 (own_wsb x7) (own_wsb x8) (own_wsb x9) + j - 6) 0 := by
  have w0 : own_wsb 32 = true := by decide
  rcases h with ⟨rfl, h⟩ | ⟨f, r, hfr, hr, rfl, h1, h2, h3, h4⟩
  · have a0 := h 0 (show 0 < 3 by decide)
    have a1 := h 1 (show 1 < 3 by decide)
    have a2 := h 2 (show 2 < 3 by decide)
    simp at a0 a1 a2
    simp [own_mm, own_lo3, own_lo2, own_lo1, own_hi3, own_hi2, own_hi1, a1, a2]
  · have hr' : r ≤ 3 := hr
    have hf0 : f ≠ 0 := fun q => by subst q; exact h2 w0
    rcases (by omega : (f = 1 ∧ r = 2) ∨ (f = 1 ∧ r = 3) ∨ (f = 2 ∧ r = 3)) with ⟨rfl, rfl⟩ | ⟨rfl, rfl⟩ | ⟨rfl, rfl⟩
    · have b2 := h3 2 (by decide) (show 2 < 3 by decide)
      simp at b2 h2 h4
      refine ⟨by simp [own_mm, own_lo3, own_lo2, own_lo1, own_hi3, own_hi2, own_hi1, b2, h2, h4], by simp, by simp [own_lo3, own_lo2, own_lo1, b2, h2, h4], fun j hj => ?_⟩
      simp at hj
      rcases (by omega : j = 0) with rfl <;> simp [own_lo3, own_lo2, own_lo1, b2, h2, h4]
    · simp at h2 h4
      refine ⟨by simp [own_mm, own_lo3, own_lo2, own_lo1, own_hi3, own_hi2, own_hi1, h2, h4], by simp, by simp [own_lo3, own_lo2, own_lo1, h2, h4], fun j hj => ?_⟩
      simp at hj
      rcases (by omega : j = 0 ∨ j = 1) with rfl | rfl <;> simp [own_lo3, own_lo2, own_lo1, h2, h4]
    · have b1 := h1 1 (by decide)
      simp at b1 h2 h4
      refine ⟨by simp [own_mm, own_lo3, own_lo2, own_lo1, own_hi3, own_hi2, own_hi1, b1, h2, h4], by simp, by simp [own_lo3, own_lo2, own_lo1, b1, h2, h4], fun j hj => ?_⟩
      simp at hj
      rcases (by omega : j = 0) with rfl <;> simp [own_lo3, own_lo2, own_lo1, b1, h2, h4]
theorem own_fin10 {x7 x8 x9 : Int32} {bs : List Int32} (h : own_strips [32, x7, x8, x9] bs) : bs.length = own_mm (own_lo3 10 (own_wsb x7) (own_wsb x8) (own_wsb x9)) (own_hi3 10 (own_wsb x7) (own_wsb x8) (own_wsb x9)) ∧ bs.length ≤ 3 ∧ own_lo3 10 (own_wsb x7) (own_wsb x8) (own_wsb x9) ≤ 10 ∧ ∀ j, j < bs.length → own_lo3 10 (own_wsb x7) (own_wsb x8) (own_wsb x9) + j < 10 ∧ bs.getD j 0 = ([32, x7, x8, x9] : List Int32).getD (own_lo3 10 (own_wsb x7) (own_wsb x8) (own_wsb x9) + j - 6) 0 := by
  have w0 : own_wsb 32 = true := by decide
  rcases h with ⟨rfl, h⟩ | ⟨f, r, hfr, hr, rfl, h1, h2, h3, h4⟩
  · have a0 := h 0 (show 0 < 4 by decide)
    have a1 := h 1 (show 1 < 4 by decide)
    have a2 := h 2 (show 2 < 4 by decide)
    have a3 := h 3 (show 3 < 4 by decide)
    simp at a0 a1 a2 a3
    simp [own_mm, own_lo3, own_lo2, own_lo1, own_hi3, own_hi2, own_hi1, a1, a2, a3]
  · have hr' : r ≤ 4 := hr
    have hf0 : f ≠ 0 := fun q => by subst q; exact h2 w0
    rcases (by omega : (f = 1 ∧ r = 2) ∨ (f = 1 ∧ r = 3) ∨ (f = 1 ∧ r = 4) ∨ (f = 2 ∧ r = 3) ∨ (f = 2 ∧ r = 4) ∨ (f = 3 ∧ r = 4)) with ⟨rfl, rfl⟩ | ⟨rfl, rfl⟩ | ⟨rfl, rfl⟩ | ⟨rfl, rfl⟩ | ⟨rfl, rfl⟩ | ⟨rfl, rfl⟩
    · have b2 := h3 2 (by decide) (show 2 < 4 by decide)
      have b3 := h3 3 (by decide) (show 3 < 4 by decide)
      simp at b2 b3 h2 h4
      refine ⟨by simp [own_mm, own_lo3, own_lo2, own_lo1, own_hi3, own_hi2, own_hi1, b2, b3, h2, h4], by simp, by simp [own_lo3, own_lo2, own_lo1, b2, b3, h2, h4], fun j hj => ?_⟩
      simp at hj
      rcases (by omega : j = 0) with rfl <;> simp [own_lo3, own_lo2, own_lo1, b2, b3, h2, h4]
    · have b3 := h3 3 (by decide) (show 3 < 4 by decide)
      simp at b3 h2 h4
      refine ⟨by simp [own_mm, own_lo3, own_lo2, own_lo1, own_hi3, own_hi2, own_hi1, b3, h2, h4], by simp, by simp [own_lo3, own_lo2, own_lo1, b3, h2, h4], fun j hj => ?_⟩
      simp at hj
      rcases (by omega : j = 0 ∨ j = 1) with rfl | rfl <;> simp [own_lo3, own_lo2, own_lo1, b3, h2, h4]
    · simp at h2 h4
      refine ⟨by simp [own_mm, own_lo3, own_lo2, own_lo1, own_hi3, own_hi2, own_hi1, h2, h4], by simp, by simp [own_lo3, own_lo2, own_lo1, h2, h4], fun j hj => ?_⟩
      simp at hj
      rcases (by omega : j = 0 ∨ j = 1 ∨ j = 2) with rfl | rfl | rfl <;> simp [own_lo3, own_lo2, own_lo1, h2, h4]
    · have b1 := h1 1 (by decide)
      have b3 := h3 3 (by decide) (show 3 < 4 by decide)
      simp at b1 b3 h2 h4
      refine ⟨by simp [own_mm, own_lo3, own_lo2, own_lo1, own_hi3, own_hi2, own_hi1, b1, b3, h2, h4], by simp, by simp [own_lo3, own_lo2, own_lo1, b1, b3, h2, h4], fun j hj => ?_⟩
      simp at hj
      rcases (by omega : j = 0) with rfl <;> simp [own_lo3, own_lo2, own_lo1, b1, b3, h2, h4]
    · have b1 := h1 1 (by decide)
      simp at b1 h2 h4
      refine ⟨by simp [own_mm, own_lo3, own_lo2, own_lo1, own_hi3, own_hi2, own_hi1, b1, h2, h4], by simp, by simp [own_lo3, own_lo2, own_lo1, b1, h2, h4], fun j hj => ?_⟩
      simp at hj
      rcases (by omega : j = 0 ∨ j = 1) with rfl | rfl <;> simp [own_lo3, own_lo2, own_lo1, b1, h2, h4]
    · have b1 := h1 1 (by decide)
      have b2 := h1 2 (by decide)
      simp at b1 b2 h2 h4
      refine ⟨by simp [own_mm, own_lo3, own_lo2, own_lo1, own_hi3, own_hi2, own_hi1, b1, b2, h2, h4], by simp, by simp [own_lo3, own_lo2, own_lo1, b1, b2, h2, h4], fun j hj => ?_⟩
      simp at hj
      rcases (by omega : j = 0) with rfl <;> simp [own_lo3, own_lo2, own_lo1, b1, b2, h2, h4]
theorem own_mod11 (x : Int32) : ∃ k : Nat, k ≤ 10 ∧ (x &&& 2147483647) % 11 = Int32.ofNat k := by
  have q := c_and x 2147483647 (by decide)
  have r := (c_irem (x &&& 2147483647) 11 11 rfl).1 q.1
  refine ⟨((x &&& 2147483647).toInt % 11).toNat, by omega, ?_⟩
  apply Int32.toInt_inj.mp
  rw [r, own_toInt (by omega)]
  omega
theorem own_safeA {Z : State} {EL : List (String × Nat)} {vm : Vm} {h : Heap} {a : Addr} {k : ClassId} {z : Int32} {vs : List Value} {d : Value} (hal : Z.vm.Alike vm) (V : Arv Z h a k .char z vs d) : Safe Z EL vm h a := by
  obtain ⟨c, A, -⟩ := V
  exact Safe.arr hal A (by decide)
theorem own_tk1 {ds : List Int32} {i : Nat} (h : ds.length ≤ i) : ds.take i = ds.take (i + 1) := by rw [List.take_of_length_le h, List.take_of_length_le (by omega)]
theorem own_tkg {cs : List Int32} {n i : Nat} (h : i < n) : (cs.take n).getD i 0 = cs.getD i 0 := by simp [List.getD, h]
theorem own_beart {cs : List Int32} {n : Nat} (h : 6 < n) : own_bear (cs.take n) ↔ own_bear cs := by
  simp only [own_bear, own_tkg (show 0 < n by omega), own_tkg (show 1 < n by omega), own_tkg (show 2 < n by omega), own_tkg (show 3 < n by omega), own_tkg (show 4 < n by omega), own_tkg (show 5 < n by omega)]
theorem own_okt {cs : List Int32} {n : Nat} (o : own_ok8 cs) : own_ok8 (cs.take n) := fun x hx => o x (List.mem_of_mem_take hx)
theorem own_fin {x0 x1 x2 x3 x4 x5 x7 x8 x9 : Int32} {n : Nat} {bs : List Int32} (h7 : 6 < n) (h10 : n ≤ 10) (h : own_strips ((([x0, x1, x2, x3, x4, x5, 32, x7, x8, x9] : List Int32).take n).drop 6) bs) : bs.length = own_mm (own_lo3 n (own_wsb x7) (own_wsb x8) (own_wsb x9)) (own_hi3 n (own_wsb x7) (own_wsb x8) (own_wsb x9)) ∧ bs.length ≤ 3 ∧ own_lo3 n (own_wsb x7) (own_wsb x8) (own_wsb x9) ≤ 10 ∧ ∀ j, j < bs.length → own_lo3 n (own_wsb x7) (own_wsb x8) (own_wsb x9) + j < 10 ∧ bs.getD j 0 = ([x0, x1, x2, x3, x4, x5, 32, x7, x8, x9] : List Int32).getD (own_lo3 n (own_wsb x7) (own_wsb x8) (own_wsb x9) + j) 0 := by
  have g : ∀ l : Nat, 6 ≤ l → ([32, x7, x8, x9] : List Int32).getD (l - 6) 0 = ([x0, x1, x2, x3, x4, x5, 32, x7, x8, x9] : List Int32).getD l 0 := fun l hl => by
    obtain ⟨k, rfl⟩ : ∃ k, l = k + 6 := ⟨l - 6, by omega⟩
    rw [Nat.add_sub_cancel]; rfl
  have hlo : 6 ≤ own_lo3 n (own_wsb x7) (own_wsb x8) (own_wsb x9) := by
    unfold own_lo3 own_lo2 own_lo1; (repeat' split) <;> omega
  rcases (by omega : n = 7 ∨ n = 8 ∨ n = 9 ∨ n = 10) with rfl | rfl | rfl | rfl
  · obtain ⟨a, b, c, d⟩ := own_fin7 (x7 := x7) (x8 := x8) (x9 := x9) h
    exact ⟨a, b, c, fun j hj => ⟨(d j hj).1, by rw [(d j hj).2, g _ (by omega)]⟩⟩
  · obtain ⟨a, b, c, d⟩ := own_fin8 (x7 := x7) (x8 := x8) (x9 := x9) h
    exact ⟨a, b, c, fun j hj => ⟨(d j hj).1, by rw [(d j hj).2, g _ (by omega)]⟩⟩
  · obtain ⟨a, b, c, d⟩ := own_fin9 (x7 := x7) (x8 := x8) (x9 := x9) h
    exact ⟨a, b, c, fun j hj => ⟨(d j hj).1, by rw [(d j hj).2, g _ (by omega)]⟩⟩
  · obtain ⟨a, b, c, d⟩ := own_fin10 (x7 := x7) (x8 := x8) (x9 := x9) h
    exact ⟨a, b, c, fun j hj => ⟨(d j hj).1, by rw [(d j hj).2, g _ (by omega)]⟩⟩
def own_Q (n0 : Nat) : Option Value → Heap → List Loc → Prop := fun v _ L => v = some (.int 1) ∧ Fr n0 L
theorem own_mapat {cs : List Int32} {i : Nat} {d : Value} (h : i < cs.length) (hb : i < 2147483648) : (cs.map Value.int).getD (Int32.ofNat i).toNatClampNeg d = .int (cs.getD i 0) := by
  rw [own_cl hb]; simp [List.getD, h]
theorem opd_28 : parseMethodDescriptor "(IZIIJ)C" = some ⟨[.int, .boolean, .int, .int, .long], some .char⟩ := by decide +kernel
theorem opd_29 : parseMethodDescriptor "(CII)C" = some ⟨[.char, .int, .int], some .char⟩ := by decide +kernel
theorem opd_30 : parseMethodDescriptor "(Ljava/lang/String;)Ljava/lang/String;" = some ⟨[(.object "java/lang/String")], some (.object "java/lang/String")⟩ := by decide +kernel
theorem opd_31 : parseMethodDescriptor "([C)V" = some ⟨[(.array .char)], none⟩ := by decide +kernel
theorem opd_32 : parseMethodDescriptor "(CI)Z" = some ⟨[.char, .int], some .boolean⟩ := by decide +kernel
theorem opd_33 : parseMethodDescriptor "(C)Z" = some ⟨[.char], some .boolean⟩ := by decide +kernel
theorem opl_rm_law : plainFor x = true := plainFor_of_name (by first | (simp [plainName, overriddenIn]; done) | decide +kernel)
theorem rm_law (l : Launch) (Z : State) (a0 : Array Value) (hw : ∀ d ∈ tables_1, d.before a0 Z = true) (ws : List Jvm.Cond) (len mode : Int32) (a b : Int64) (zc : Int32) (wf : Value) (n0 : Nat) (ic dA : Addr) (kA : ClassId) (h0 : Heap) (SS : own_SS Z zc wf) (O : Old Z n0 h0) (SCk : own_SC Z ic dA kA) :
    ConH l Z own_EL x code maxLocals ret ws room_1 #[(.int len), (.int mode), (.long a), (.long b)] h0 (own_Q n0) := by
  refine ConH.intro opl_rm_law ?_
  intro p e s m below meth c s₁ hx hby hml hown hret hlk hZ hnm X0 e0 hs0 hS0 H0 R0
  have SS' := SS
  obtain ⟨hzc, SC, hwf, SF⟩ := SS
  have Z0 : n0 ≤ h0.size := O.1 ▸ O.2.1
  have N0 := Fr.nil n0
  refine OGo.cast (g' := (mkF m 0 #[.val (.int len), .val (.int mode), .val (.long a), .second, .val (.long b), .second, .unset, .unset, .unset, .unset, .unset, .unset, .unset, .unset, .unset, .unset, .unset, .unset] [])) (by first | (simp [entryFrame, mkF, argsToLocals, Value.category, maxLocals]; done) | rfl) ?_
  show OGo p e below _ s₁ (mkF m 0 #[.val (.int len), .val (.int mode), .val (.long a), .second, .val (.long b), .second, .unset, .unset, .unset, .unset, .unset, .unset, .unset, .unset, .unset, .unset, .unset, .unset] [])
  refine og (fun _ k => XS.iloadN X0.here hx rfl (hb hby at_0) rfl k) ?_
  show OGo p e below _ s₁ (mkF m 1 #[.val (.int len), .val (.int mode), .val (.long a), .second, .val (.long b), .second, .unset, .unset, .unset, .unset, .unset, .unset, .unset, .unset, .unset, .unset, .unset, .unset] [(.int len)])
  refine og (fun _ k => Jvm.Stand.ldcI X0 hx hown (mvT hZ (own_g hw 0 rfl)) rfl (hb hby at_1) k) ?_
  show OGo p e below _ s₁ (mkF m 3 #[.val (.int len), .val (.int mode), .val (.long a), .second, .val (.long b), .second, .unset, .unset, .unset, .unset, .unset, .unset, .unset, .unset, .unset, .unset, .unset, .unset] [(.int (2147483647 : Int32)), (.int len)])
  refine og (fun _ k => XS.iand X0.here hx rfl (hb hby at_3) rfl k) ?_
  show OGo p e below _ s₁ (mkF m 4 #[.val (.int len), .val (.int mode), .val (.long a), .second, .val (.long b), .second, .unset, .unset, .unset, .unset, .unset, .unset, .unset, .unset, .unset, .unset, .unset, .unset] [(.int (len &&& (2147483647 : Int32)))])
  refine og (fun _ k => XS.bipush X0.here hx rfl (hb hby at_4) k) ?_
  show OGo p e below _ s₁ (mkF m 6 #[.val (.int len), .val (.int mode), .val (.long a), .second, .val (.long b), .second, .unset, .unset, .unset, .unset, .unset, .unset, .unset, .unset, .unset, .unset, .unset, .unset] [(.int (11 : Int32)), (.int (len &&& (2147483647 : Int32)))])
  refine og (fun _ k => iremM X0 hx rfl (hb hby at_6) rfl (by decide) k) ?_
  show OGo p e below _ s₁ (mkF m 7 #[.val (.int len), .val (.int mode), .val (.long a), .second, .val (.long b), .second, .unset, .unset, .unset, .unset, .unset, .unset, .unset, .unset, .unset, .unset, .unset, .unset] [(.int ((len &&& (2147483647 : Int32)) % (11 : Int32)))])
  obtain ⟨n, hn, en⟩ := own_mod11 len
  rw [en]
  show OGo p e below _ s₁ (mkF m 7 #[.val (.int len), .val (.int mode), .val (.long a), .second, .val (.long b), .second, .unset, .unset, .unset, .unset, .unset, .unset, .unset, .unset, .unset, .unset, .unset, .unset] [(.int (Int32.ofNat (n)))])
  refine og (fun _ k => XS.istore X0.here hx rfl (hb hby at_7) rfl (l' := #[.val (.int len), .val (.int mode), .val (.long a), .second, .val (.long b), .second, .val (.int (Int32.ofNat (n))), .unset, .unset, .unset, .unset, .unset, .unset, .unset, .unset, .unset, .unset, .unset]) rfl k) ?_
  show OGo p e below _ s₁ (mkF m 9 #[.val (.int len), .val (.int mode), .val (.long a), .second, .val (.long b), .second, .val (.int (Int32.ofNat (n))), .unset, .unset, .unset, .unset, .unset, .unset, .unset, .unset, .unset, .unset, .unset] [])
  refine og (fun _ k => XS.iloadN X0.here hx rfl (hb hby at_9) rfl k) ?_
  show OGo p e below _ s₁ (mkF m 10 #[.val (.int len), .val (.int mode), .val (.long a), .second, .val (.long b), .second, .val (.int (Int32.ofNat (n))), .unset, .unset, .unset, .unset, .unset, .unset, .unset, .unset, .unset, .unset, .unset] [(.int mode)])
  refine og (fun _ k => XS.iconst X0.here hx rfl (hb hby at_10) k) ?_
  show OGo p e below _ s₁ (mkF m 11 #[.val (.int len), .val (.int mode), .val (.long a), .second, .val (.long b), .second, .val (.int (Int32.ofNat (n))), .unset, .unset, .unset, .unset, .unset, .unset, .unset, .unset, .unset, .unset, .unset] [(.int (1 : Int32)), (.int mode)])
  refine og (fun _ k => XS.iand X0.here hx rfl (hb hby at_11) rfl k) ?_
  show OGo p e below _ s₁ (mkF m 12 #[.val (.int len), .val (.int mode), .val (.long a), .second, .val (.long b), .second, .val (.int (Int32.ofNat (n))), .unset, .unset, .unset, .unset, .unset, .unset, .unset, .unset, .unset, .unset, .unset] [(.int (mode &&& (1 : Int32)))])
  have K41 : ∀ (s7 br : Int32) (T : State) (locs : List Loc), Stand p l e room_1 (s.setVm s.vm) m #[(.int len), (.int mode), (.long a), (.long b)] below meth c T locs 0 0 → Fr n0 locs → T.heap = h0 → OGo p e below (EndH Z own_EL s room_1 (own_Q n0)) T (mkF m 41 #[.val (.int len), .val (.int mode), .val (.long a), .second, .val (.long b), .second, .val (.int (Int32.ofNat (n))), .val (.int s7), .unset, .unset, .unset, .unset, .unset, .unset, .unset, .unset, .unset, .unset] [(.int br)]) := by
    intro s7 br T locs X N eT
    show OGo p e below _ T (mkF m 41 #[.val (.int len), .val (.int mode), .val (.long a), .second, .val (.long b), .second, .val (.int (Int32.ofNat (n))), .val (.int s7), .unset, .unset, .unset, .unset, .unset, .unset, .unset, .unset, .unset, .unset] [(.int br)])
    refine og (fun _ k => XS.istore X.here hx rfl (hb hby at_41) rfl (l' := #[.val (.int len), .val (.int mode), .val (.long a), .second, .val (.long b), .second, .val (.int (Int32.ofNat (n))), .val (.int s7), .val (.int br), .unset, .unset, .unset, .unset, .unset, .unset, .unset, .unset, .unset]) rfl k) ?_
    show OGo p e below _ T (mkF m 43 #[.val (.int len), .val (.int mode), .val (.long a), .second, .val (.long b), .second, .val (.int (Int32.ofNat (n))), .val (.int s7), .val (.int br), .unset, .unset, .unset, .unset, .unset, .unset, .unset, .unset, .unset] [])
    refine og (fun _ k => XS.bipush X.here hx rfl (hb hby at_43) k) ?_
    show OGo p e below _ T (mkF m 45 #[.val (.int len), .val (.int mode), .val (.long a), .second, .val (.long b), .second, .val (.int (Int32.ofNat (n))), .val (.int s7), .val (.int br), .unset, .unset, .unset, .unset, .unset, .unset, .unset, .unset, .unset] [(.int (10 : Int32))])
    obtain ⟨T122, h122, k122, X122, e122, E122, A122, AE122, st122⟩ := newPE X hx hZ (own_g hw 1 rfl) eT (g := (mkF m 45 #[.val (.int len), .val (.int mode), .val (.long a), .second, .val (.long b), .second, .val (.int (Int32.ofNat (n))), .val (.int s7), .val (.int br), .unset, .unset, .unset, .unset, .unset, .unset, .unset, .unset, .unset] [(.int (10 : Int32))])) rfl (hb hby at_45) rfl (by decide) (cap := 10) (by decide) (by decide) (by decide) (by decide) (ad := "[C") (by decide)
    obtain ⟨b122, g122⟩ : ∃ z, z = h0.size := ⟨_, rfl⟩
    rw [← g122] at A122 AE122 st122
    have sz_b122 : h0.size ≤ b122 := Nat.le_trans (Keep.refl h0 []).1 (Nat.le_of_eq g122.symm)
    have KK122 : Keep h0 h122 [] := (Keep.refl h0 []).ext E122
    have H122 := CHv.ext E122 H0
    have R122 := CHr.trans R0 (CHr.ext E122 H0)
    have V122 : Arv Z h122 b122 k122 .char (10 : Int32) [(.int (0 : Int32)), (.int (0 : Int32)), (.int (0 : Int32)), (.int (0 : Int32)), (.int (0 : Int32)), (.int (0 : Int32)), (.int (0 : Int32)), (.int (0 : Int32)), (.int (0 : Int32)), (.int (0 : Int32))] (.int (0 : Int32)) := (Arv.new A122 (by decide)).pad (pad_rep [] (.int (0 : Int32)) 10)
    refine og st122 ?_
    show OGo p e below _ T122 (mkF m 47 #[.val (.int len), .val (.int mode), .val (.long a), .second, .val (.long b), .second, .val (.int (Int32.ofNat (n))), .val (.int s7), .val (.int br), .unset, .unset, .unset, .unset, .unset, .unset, .unset, .unset, .unset] [(.ref b122)])
    refine og (fun _ k => XS.astore X122.here hx rfl (hb hby at_47) rfl rfl (l' := #[.val (.int len), .val (.int mode), .val (.long a), .second, .val (.long b), .second, .val (.int (Int32.ofNat (n))), .val (.int s7), .val (.int br), .val (.ref b122), .unset, .unset, .unset, .unset, .unset, .unset, .unset, .unset]) rfl k) ?_
    show OGo p e below _ T122 (mkF m 49 #[.val (.int len), .val (.int mode), .val (.long a), .second, .val (.long b), .second, .val (.int (Int32.ofNat (n))), .val (.int s7), .val (.int br), .val (.ref b122), .unset, .unset, .unset, .unset, .unset, .unset, .unset, .unset] [])
    refine og (fun _ k => XS.aload X122.here hx rfl (hb hby at_49) rfl rfl k) ?_
    show OGo p e below _ T122 (mkF m 51 #[.val (.int len), .val (.int mode), .val (.long a), .second, .val (.long b), .second, .val (.int (Int32.ofNat (n))), .val (.int s7), .val (.int br), .val (.ref b122), .unset, .unset, .unset, .unset, .unset, .unset, .unset, .unset] [(.ref b122)])
    refine og (fun _ k => XS.iconst X122.here hx rfl (hb hby at_51) k) ?_
    show OGo p e below _ T122 (mkF m 52 #[.val (.int len), .val (.int mode), .val (.long a), .second, .val (.long b), .second, .val (.int (Int32.ofNat (n))), .val (.int s7), .val (.int br), .val (.ref b122), .unset, .unset, .unset, .unset, .unset, .unset, .unset, .unset] [(.int (0 : Int32)), (.ref b122)])
    refine og (fun _ k => XS.iconst X122.here hx rfl (hb hby at_52) k) ?_
    show OGo p e below _ T122 (mkF m 53 #[.val (.int len), .val (.int mode), .val (.long a), .second, .val (.long b), .second, .val (.int (Int32.ofNat (n))), .val (.int s7), .val (.int br), .val (.ref b122), .unset, .unset, .unset, .unset, .unset, .unset, .unset, .unset] [(.int (0 : Int32)), (.int (0 : Int32)), (.ref b122)])
    refine og (fun _ k => XS.iload X122.here hx rfl (hb hby at_53) rfl k) ?_
    show OGo p e below _ T122 (mkF m 55 #[.val (.int len), .val (.int mode), .val (.long a), .second, .val (.long b), .second, .val (.int (Int32.ofNat (n))), .val (.int s7), .val (.int br), .val (.ref b122), .unset, .unset, .unset, .unset, .unset, .unset, .unset, .unset] [(.int s7), (.int (0 : Int32)), (.int (0 : Int32)), (.ref b122)])
    refine og (fun _ k => XS.iload X122.here hx rfl (hb hby at_55) rfl k) ?_
    show OGo p e below _ T122 (mkF m 57 #[.val (.int len), .val (.int mode), .val (.long a), .second, .val (.long b), .second, .val (.int (Int32.ofNat (n))), .val (.int s7), .val (.int br), .val (.ref b122), .unset, .unset, .unset, .unset, .unset, .unset, .unset, .unset] [(.int br), (.int s7), (.int (0 : Int32)), (.int (0 : Int32)), (.ref b122)])
    refine og (fun _ k => XS.iloadN X122.here hx rfl (hb hby at_57) rfl k) ?_
    show OGo p e below _ T122 (mkF m 58 #[.val (.int len), .val (.int mode), .val (.long a), .second, .val (.long b), .second, .val (.int (Int32.ofNat (n))), .val (.int s7), .val (.int br), .val (.ref b122), .unset, .unset, .unset, .unset, .unset, .unset, .unset, .unset] [(.int mode), (.int br), (.int s7), (.int (0 : Int32)), (.int (0 : Int32)), (.ref b122)])
    refine og (fun _ k => XS.lloadN X122.here hx rfl (hb hby at_58) rfl k) ?_
    show OGo p e below _ T122 (mkF m 59 #[.val (.int len), .val (.int mode), .val (.long a), .second, .val (.long b), .second, .val (.int (Int32.ofNat (n))), .val (.int s7), .val (.int br), .val (.ref b122), .unset, .unset, .unset, .unset, .unset, .unset, .unset, .unset] [(.long a), (.int mode), (.int br), (.int s7), (.int (0 : Int32)), (.int (0 : Int32)), (.ref b122)])
    obtain ⟨v123, T123, L123, kk123, X123, hS123, hk123, hZ123, hown123, CR123, hQ123, st123⟩ := scallH X122 hx hZ hown (own_hEL hw) hS0 (Nat.le_trans (Nat.zero_le _) E122.1) H122 (own_g hw 2 rfl) (own_g hw 3 rfl) (own_g hw 4 rfl) (own_g hw 5 rfl) (by decide) (W := 2) (rm_head l Z a0 hw [] 0 s7 br mode a zc wf n0 h122 SS' (O.ext E122) (by decide)) e122 (by decide) (by decide) (by decide) (by decide) (g := (mkF m 59 #[.val (.int len), .val (.int mode), .val (.long a), .second, .val (.long b), .second, .val (.int (Int32.ofNat (n))), .val (.int s7), .val (.int br), .val (.ref b122), .unset, .unset, .unset, .unset, .unset, .unset, .unset, .unset] [(.long a), (.int mode), (.int br), (.int s7), (.int (0 : Int32)), (.int (0 : Int32)), (.ref b122)])) rfl (by rw [hml]; rfl) (argsL := [(.int (0 : Int32)), (.int s7), (.int br), (.int mode), (.long a)]) (rest := [(.int (0 : Int32)), (.ref b122)]) opd_28 rfl rfl rfl (by show 2 * 0 + _ ≤ _; exact Nat.le_of_eq rfl) (hb hby at_59)
    obtain ⟨u0, rfl, hu0, N123, K123⟩ := hQ123
    have NN123 := Fr.app N N123
    have KK123 : Keep h0 T123.heap [] := KK122.trans K123 all0
    have H123 := CR123.1
    have R123 := CHr.trans R122 CR123
    refine og st123 ?_
    show OGo p e below _ T123 (mkF m 62 #[.val (.int len), .val (.int mode), .val (.long a), .second, .val (.long b), .second, .val (.int (Int32.ofNat (n))), .val (.int s7), .val (.int br), .val (.ref b122), .unset, .unset, .unset, .unset, .unset, .unset, .unset, .unset] [(.int u0), (.int (0 : Int32)), (.ref b122)])
    obtain ⟨T124, h124, X124, e124, W124, Vq124, st124⟩ := castoreV X123 hx hZ123 rfl (V122.keep K123 nin0) (j := (0 : Int32)) ⟨by decide, by decide⟩ (show (0 : Int32).toNatClampNeg < 10 by decide) (g := (mkF m 62 #[.val (.int len), .val (.int mode), .val (.long a), .second, .val (.long b), .second, .val (.int (Int32.ofNat (n))), .val (.int s7), .val (.int br), .val (.ref b122), .unset, .unset, .unset, .unset, .unset, .unset, .unset, .unset] [(.int u0), (.int (0 : Int32)), (.ref b122)])) rfl rfl (hb hby at_62)
    have q125 := (CHr.safe CR123 AE122.lt (Safe.ext E122 H0 (Safe.new (Nat.le_of_eq g122.symm))))
    have N124 := Fr.snoc X124 NN123 (Nat.le_trans Z0 sz_b122)
    have KK124 : Keep h0 h124 [] := KK123.wr W124 (Or.inr sz_b122)
    have H124 := CHv.wr W124 q125 H123
    have R124 := CHr.trans R123 (CHr.wr W124 q125 H123)
    have V124 : Arv Z h124 b122 k122 .char (10 : Int32) [(.int (nar .char u0)), (.int (0 : Int32)), (.int (0 : Int32)), (.int (0 : Int32)), (.int (0 : Int32)), (.int (0 : Int32)), (.int (0 : Int32)), (.int (0 : Int32)), (.int (0 : Int32)), (.int (0 : Int32))] (.int (0 : Int32)) := Vq124
    refine og st124 ?_
    show OGo p e below _ T124 (mkF m 63 #[.val (.int len), .val (.int mode), .val (.long a), .second, .val (.long b), .second, .val (.int (Int32.ofNat (n))), .val (.int s7), .val (.int br), .val (.ref b122), .unset, .unset, .unset, .unset, .unset, .unset, .unset, .unset] [])
    refine og (fun _ k => XS.aload X124.here hx rfl (hb hby at_63) rfl rfl k) ?_
    show OGo p e below _ T124 (mkF m 65 #[.val (.int len), .val (.int mode), .val (.long a), .second, .val (.long b), .second, .val (.int (Int32.ofNat (n))), .val (.int s7), .val (.int br), .val (.ref b122), .unset, .unset, .unset, .unset, .unset, .unset, .unset, .unset] [(.ref b122)])
    refine og (fun _ k => XS.iconst X124.here hx rfl (hb hby at_65) k) ?_
    show OGo p e below _ T124 (mkF m 66 #[.val (.int len), .val (.int mode), .val (.long a), .second, .val (.long b), .second, .val (.int (Int32.ofNat (n))), .val (.int s7), .val (.int br), .val (.ref b122), .unset, .unset, .unset, .unset, .unset, .unset, .unset, .unset] [(.int (1 : Int32)), (.ref b122)])
    refine og (fun _ k => XS.iconst X124.here hx rfl (hb hby at_66) k) ?_
    show OGo p e below _ T124 (mkF m 67 #[.val (.int len), .val (.int mode), .val (.long a), .second, .val (.long b), .second, .val (.int (Int32.ofNat (n))), .val (.int s7), .val (.int br), .val (.ref b122), .unset, .unset, .unset, .unset, .unset, .unset, .unset, .unset] [(.int (1 : Int32)), (.int (1 : Int32)), (.ref b122)])
    refine og (fun _ k => XS.iload X124.here hx rfl (hb hby at_67) rfl k) ?_
    show OGo p e below _ T124 (mkF m 69 #[.val (.int len), .val (.int mode), .val (.long a), .second, .val (.long b), .second, .val (.int (Int32.ofNat (n))), .val (.int s7), .val (.int br), .val (.ref b122), .unset, .unset, .unset, .unset, .unset, .unset, .unset, .unset] [(.int s7), (.int (1 : Int32)), (.int (1 : Int32)), (.ref b122)])
    refine og (fun _ k => XS.iload X124.here hx rfl (hb hby at_69) rfl k) ?_
    show OGo p e below _ T124 (mkF m 71 #[.val (.int len), .val (.int mode), .val (.long a), .second, .val (.long b), .second, .val (.int (Int32.ofNat (n))), .val (.int s7), .val (.int br), .val (.ref b122), .unset, .unset, .unset, .unset, .unset, .unset, .unset, .unset] [(.int br), (.int s7), (.int (1 : Int32)), (.int (1 : Int32)), (.ref b122)])
    refine og (fun _ k => XS.iloadN X124.here hx rfl (hb hby at_71) rfl k) ?_
    show OGo p e below _ T124 (mkF m 72 #[.val (.int len), .val (.int mode), .val (.long a), .second, .val (.long b), .second, .val (.int (Int32.ofNat (n))), .val (.int s7), .val (.int br), .val (.ref b122), .unset, .unset, .unset, .unset, .unset, .unset, .unset, .unset] [(.int mode), (.int br), (.int s7), (.int (1 : Int32)), (.int (1 : Int32)), (.ref b122)])
    refine og (fun _ k => XS.lloadN X124.here hx rfl (hb hby at_72) rfl k) ?_
    show OGo p e below _ T124 (mkF m 73 #[.val (.int len), .val (.int mode), .val (.long a), .second, .val (.long b), .second, .val (.int (Int32.ofNat (n))), .val (.int s7), .val (.int br), .val (.ref b122), .unset, .unset, .unset, .unset, .unset, .unset, .unset, .unset] [(.long a), (.int mode), (.int br), (.int s7), (.int (1 : Int32)), (.int (1 : Int32)), (.ref b122)])
    have q126 := (((O.ext E122).keep K123 all0).wr W124 (Nat.le_trans Z0 sz_b122))
    obtain ⟨v127, T127, L127, kk127, X127, hS127, hk127, hZ127, hown127, CR127, hQ127, st127⟩ := scallH X124 hx hZ123 hown123 (own_hEL hw) hS123 (Nat.le_trans hk123 (Nat.le_of_eq W124.size.symm)) H124 (own_g hw 2 rfl) (own_g hw 3 rfl) (own_g hw 4 rfl) (own_g hw 5 rfl) (by decide) (W := 2) (rm_head l Z a0 hw [] 1 s7 br mode a zc wf n0 h124 SS' q126 (by decide)) e124 (by decide) (by decide) (by decide) (by decide) (g := (mkF m 73 #[.val (.int len), .val (.int mode), .val (.long a), .second, .val (.long b), .second, .val (.int (Int32.ofNat (n))), .val (.int s7), .val (.int br), .val (.ref b122), .unset, .unset, .unset, .unset, .unset, .unset, .unset, .unset] [(.long a), (.int mode), (.int br), (.int s7), (.int (1 : Int32)), (.int (1 : Int32)), (.ref b122)])) rfl (by rw [hml]; rfl) (argsL := [(.int (1 : Int32)), (.int s7), (.int br), (.int mode), (.long a)]) (rest := [(.int (1 : Int32)), (.ref b122)]) opd_28 rfl rfl rfl (by show 2 * 0 + _ ≤ _; exact Nat.le_of_eq rfl) (hb hby at_73)
    obtain ⟨u1, rfl, hu1, N127, K127⟩ := hQ127
    have NN127 := Fr.app N124 N127
    have KK127 : Keep h0 T127.heap [] := KK124.trans K127 all0
    have H127 := CR127.1
    have R127 := CHr.trans R124 CR127
    refine og st127 ?_
    show OGo p e below _ T127 (mkF m 76 #[.val (.int len), .val (.int mode), .val (.long a), .second, .val (.long b), .second, .val (.int (Int32.ofNat (n))), .val (.int s7), .val (.int br), .val (.ref b122), .unset, .unset, .unset, .unset, .unset, .unset, .unset, .unset] [(.int u1), (.int (1 : Int32)), (.ref b122)])
    obtain ⟨T128, h128, X128, e128, W128, Vq128, st128⟩ := castoreV X127 hx hZ127 rfl (V124.keep K127 nin0) (j := (1 : Int32)) ⟨by decide, by decide⟩ (show (1 : Int32).toNatClampNeg < 10 by decide) (g := (mkF m 76 #[.val (.int len), .val (.int mode), .val (.long a), .second, .val (.long b), .second, .val (.int (Int32.ofNat (n))), .val (.int s7), .val (.int br), .val (.ref b122), .unset, .unset, .unset, .unset, .unset, .unset, .unset, .unset] [(.int u1), (.int (1 : Int32)), (.ref b122)])) rfl rfl (hb hby at_76)
    have q129 := (CHr.safe CR127 ((AE122.keep K123).wr W124).lt (Safe.wr W124 q125 H123 q125))
    have N128 := Fr.snoc X128 NN127 (Nat.le_trans Z0 sz_b122)
    have KK128 : Keep h0 h128 [] := KK127.wr W128 (Or.inr sz_b122)
    have H128 := CHv.wr W128 q129 H127
    have R128 := CHr.trans R127 (CHr.wr W128 q129 H127)
    have V128 : Arv Z h128 b122 k122 .char (10 : Int32) [(.int (nar .char u0)), (.int (nar .char u1)), (.int (0 : Int32)), (.int (0 : Int32)), (.int (0 : Int32)), (.int (0 : Int32)), (.int (0 : Int32)), (.int (0 : Int32)), (.int (0 : Int32)), (.int (0 : Int32))] (.int (0 : Int32)) := Vq128
    refine og st128 ?_
    show OGo p e below _ T128 (mkF m 77 #[.val (.int len), .val (.int mode), .val (.long a), .second, .val (.long b), .second, .val (.int (Int32.ofNat (n))), .val (.int s7), .val (.int br), .val (.ref b122), .unset, .unset, .unset, .unset, .unset, .unset, .unset, .unset] [])
    refine og (fun _ k => XS.aload X128.here hx rfl (hb hby at_77) rfl rfl k) ?_
    show OGo p e below _ T128 (mkF m 79 #[.val (.int len), .val (.int mode), .val (.long a), .second, .val (.long b), .second, .val (.int (Int32.ofNat (n))), .val (.int s7), .val (.int br), .val (.ref b122), .unset, .unset, .unset, .unset, .unset, .unset, .unset, .unset] [(.ref b122)])
    refine og (fun _ k => XS.iconst X128.here hx rfl (hb hby at_79) k) ?_
    show OGo p e below _ T128 (mkF m 80 #[.val (.int len), .val (.int mode), .val (.long a), .second, .val (.long b), .second, .val (.int (Int32.ofNat (n))), .val (.int s7), .val (.int br), .val (.ref b122), .unset, .unset, .unset, .unset, .unset, .unset, .unset, .unset] [(.int (2 : Int32)), (.ref b122)])
    refine og (fun _ k => XS.iconst X128.here hx rfl (hb hby at_80) k) ?_
    show OGo p e below _ T128 (mkF m 81 #[.val (.int len), .val (.int mode), .val (.long a), .second, .val (.long b), .second, .val (.int (Int32.ofNat (n))), .val (.int s7), .val (.int br), .val (.ref b122), .unset, .unset, .unset, .unset, .unset, .unset, .unset, .unset] [(.int (2 : Int32)), (.int (2 : Int32)), (.ref b122)])
    refine og (fun _ k => XS.iload X128.here hx rfl (hb hby at_81) rfl k) ?_
    show OGo p e below _ T128 (mkF m 83 #[.val (.int len), .val (.int mode), .val (.long a), .second, .val (.long b), .second, .val (.int (Int32.ofNat (n))), .val (.int s7), .val (.int br), .val (.ref b122), .unset, .unset, .unset, .unset, .unset, .unset, .unset, .unset] [(.int s7), (.int (2 : Int32)), (.int (2 : Int32)), (.ref b122)])
    refine og (fun _ k => XS.iload X128.here hx rfl (hb hby at_83) rfl k) ?_
    show OGo p e below _ T128 (mkF m 85 #[.val (.int len), .val (.int mode), .val (.long a), .second, .val (.long b), .second, .val (.int (Int32.ofNat (n))), .val (.int s7), .val (.int br), .val (.ref b122), .unset, .unset, .unset, .unset, .unset, .unset, .unset, .unset] [(.int br), (.int s7), (.int (2 : Int32)), (.int (2 : Int32)), (.ref b122)])
    refine og (fun _ k => XS.iloadN X128.here hx rfl (hb hby at_85) rfl k) ?_
    show OGo p e below _ T128 (mkF m 86 #[.val (.int len), .val (.int mode), .val (.long a), .second, .val (.long b), .second, .val (.int (Int32.ofNat (n))), .val (.int s7), .val (.int br), .val (.ref b122), .unset, .unset, .unset, .unset, .unset, .unset, .unset, .unset] [(.int mode), (.int br), (.int s7), (.int (2 : Int32)), (.int (2 : Int32)), (.ref b122)])
    refine og (fun _ k => XS.lloadN X128.here hx rfl (hb hby at_86) rfl k) ?_
    show OGo p e below _ T128 (mkF m 87 #[.val (.int len), .val (.int mode), .val (.long a), .second, .val (.long b), .second, .val (.int (Int32.ofNat (n))), .val (.int s7), .val (.int br), .val (.ref b122), .unset, .unset, .unset, .unset, .unset, .unset, .unset, .unset] [(.long a), (.int mode), (.int br), (.int s7), (.int (2 : Int32)), (.int (2 : Int32)), (.ref b122)])
    have q130 := ((q126.keep K127 all0).wr W128 (Nat.le_trans Z0 sz_b122))
    obtain ⟨v131, T131, L131, kk131, X131, hS131, hk131, hZ131, hown131, CR131, hQ131, st131⟩ := scallH X128 hx hZ127 hown127 (own_hEL hw) hS127 (Nat.le_trans hk127 (Nat.le_of_eq W128.size.symm)) H128 (own_g hw 2 rfl) (own_g hw 3 rfl) (own_g hw 4 rfl) (own_g hw 5 rfl) (by decide) (W := 2) (rm_head l Z a0 hw [] 2 s7 br mode a zc wf n0 h128 SS' q130 (by decide)) e128 (by decide) (by decide) (by decide) (by decide) (g := (mkF m 87 #[.val (.int len), .val (.int mode), .val (.long a), .second, .val (.long b), .second, .val (.int (Int32.ofNat (n))), .val (.int s7), .val (.int br), .val (.ref b122), .unset, .unset, .unset, .unset, .unset, .unset, .unset, .unset] [(.long a), (.int mode), (.int br), (.int s7), (.int (2 : Int32)), (.int (2 : Int32)), (.ref b122)])) rfl (by rw [hml]; rfl) (argsL := [(.int (2 : Int32)), (.int s7), (.int br), (.int mode), (.long a)]) (rest := [(.int (2 : Int32)), (.ref b122)]) opd_28 rfl rfl rfl (by show 2 * 0 + _ ≤ _; exact Nat.le_of_eq rfl) (hb hby at_87)
    obtain ⟨u2, rfl, hu2, N131, K131⟩ := hQ131
    have NN131 := Fr.app N128 N131
    have KK131 : Keep h0 T131.heap [] := KK128.trans K131 all0
    have H131 := CR131.1
    have R131 := CHr.trans R128 CR131
    refine og st131 ?_
    show OGo p e below _ T131 (mkF m 90 #[.val (.int len), .val (.int mode), .val (.long a), .second, .val (.long b), .second, .val (.int (Int32.ofNat (n))), .val (.int s7), .val (.int br), .val (.ref b122), .unset, .unset, .unset, .unset, .unset, .unset, .unset, .unset] [(.int u2), (.int (2 : Int32)), (.ref b122)])
    obtain ⟨T132, h132, X132, e132, W132, Vq132, st132⟩ := castoreV X131 hx hZ131 rfl (V128.keep K131 nin0) (j := (2 : Int32)) ⟨by decide, by decide⟩ (show (2 : Int32).toNatClampNeg < 10 by decide) (g := (mkF m 90 #[.val (.int len), .val (.int mode), .val (.long a), .second, .val (.long b), .second, .val (.int (Int32.ofNat (n))), .val (.int s7), .val (.int br), .val (.ref b122), .unset, .unset, .unset, .unset, .unset, .unset, .unset, .unset] [(.int u2), (.int (2 : Int32)), (.ref b122)])) rfl rfl (hb hby at_90)
    have q133 := (CHr.safe CR131 ((((AE122.keep K123).wr W124).keep K127).wr W128).lt (Safe.wr W128 q129 H127 q129))
    have N132 := Fr.snoc X132 NN131 (Nat.le_trans Z0 sz_b122)
    have KK132 : Keep h0 h132 [] := KK131.wr W132 (Or.inr sz_b122)
    have H132 := CHv.wr W132 q133 H131
    have R132 := CHr.trans R131 (CHr.wr W132 q133 H131)
    have V132 : Arv Z h132 b122 k122 .char (10 : Int32) [(.int (nar .char u0)), (.int (nar .char u1)), (.int (nar .char u2)), (.int (0 : Int32)), (.int (0 : Int32)), (.int (0 : Int32)), (.int (0 : Int32)), (.int (0 : Int32)), (.int (0 : Int32)), (.int (0 : Int32))] (.int (0 : Int32)) := Vq132
    refine og st132 ?_
    show OGo p e below _ T132 (mkF m 91 #[.val (.int len), .val (.int mode), .val (.long a), .second, .val (.long b), .second, .val (.int (Int32.ofNat (n))), .val (.int s7), .val (.int br), .val (.ref b122), .unset, .unset, .unset, .unset, .unset, .unset, .unset, .unset] [])
    refine og (fun _ k => XS.aload X132.here hx rfl (hb hby at_91) rfl rfl k) ?_
    show OGo p e below _ T132 (mkF m 93 #[.val (.int len), .val (.int mode), .val (.long a), .second, .val (.long b), .second, .val (.int (Int32.ofNat (n))), .val (.int s7), .val (.int br), .val (.ref b122), .unset, .unset, .unset, .unset, .unset, .unset, .unset, .unset] [(.ref b122)])
    refine og (fun _ k => XS.iconst X132.here hx rfl (hb hby at_93) k) ?_
    show OGo p e below _ T132 (mkF m 94 #[.val (.int len), .val (.int mode), .val (.long a), .second, .val (.long b), .second, .val (.int (Int32.ofNat (n))), .val (.int s7), .val (.int br), .val (.ref b122), .unset, .unset, .unset, .unset, .unset, .unset, .unset, .unset] [(.int (3 : Int32)), (.ref b122)])
    refine og (fun _ k => XS.iconst X132.here hx rfl (hb hby at_94) k) ?_
    show OGo p e below _ T132 (mkF m 95 #[.val (.int len), .val (.int mode), .val (.long a), .second, .val (.long b), .second, .val (.int (Int32.ofNat (n))), .val (.int s7), .val (.int br), .val (.ref b122), .unset, .unset, .unset, .unset, .unset, .unset, .unset, .unset] [(.int (3 : Int32)), (.int (3 : Int32)), (.ref b122)])
    refine og (fun _ k => XS.iload X132.here hx rfl (hb hby at_95) rfl k) ?_
    show OGo p e below _ T132 (mkF m 97 #[.val (.int len), .val (.int mode), .val (.long a), .second, .val (.long b), .second, .val (.int (Int32.ofNat (n))), .val (.int s7), .val (.int br), .val (.ref b122), .unset, .unset, .unset, .unset, .unset, .unset, .unset, .unset] [(.int s7), (.int (3 : Int32)), (.int (3 : Int32)), (.ref b122)])
    refine og (fun _ k => XS.iload X132.here hx rfl (hb hby at_97) rfl k) ?_
    show OGo p e below _ T132 (mkF m 99 #[.val (.int len), .val (.int mode), .val (.long a), .second, .val (.long b), .second, .val (.int (Int32.ofNat (n))), .val (.int s7), .val (.int br), .val (.ref b122), .unset, .unset, .unset, .unset, .unset, .unset, .unset, .unset] [(.int br), (.int s7), (.int (3 : Int32)), (.int (3 : Int32)), (.ref b122)])
    refine og (fun _ k => XS.iloadN X132.here hx rfl (hb hby at_99) rfl k) ?_
    show OGo p e below _ T132 (mkF m 100 #[.val (.int len), .val (.int mode), .val (.long a), .second, .val (.long b), .second, .val (.int (Int32.ofNat (n))), .val (.int s7), .val (.int br), .val (.ref b122), .unset, .unset, .unset, .unset, .unset, .unset, .unset, .unset] [(.int mode), (.int br), (.int s7), (.int (3 : Int32)), (.int (3 : Int32)), (.ref b122)])
    refine og (fun _ k => XS.lloadN X132.here hx rfl (hb hby at_100) rfl k) ?_
    show OGo p e below _ T132 (mkF m 101 #[.val (.int len), .val (.int mode), .val (.long a), .second, .val (.long b), .second, .val (.int (Int32.ofNat (n))), .val (.int s7), .val (.int br), .val (.ref b122), .unset, .unset, .unset, .unset, .unset, .unset, .unset, .unset] [(.long a), (.int mode), (.int br), (.int s7), (.int (3 : Int32)), (.int (3 : Int32)), (.ref b122)])
    have q134 := ((q130.keep K131 all0).wr W132 (Nat.le_trans Z0 sz_b122))
    obtain ⟨v135, T135, L135, kk135, X135, hS135, hk135, hZ135, hown135, CR135, hQ135, st135⟩ := scallH X132 hx hZ131 hown131 (own_hEL hw) hS131 (Nat.le_trans hk131 (Nat.le_of_eq W132.size.symm)) H132 (own_g hw 2 rfl) (own_g hw 3 rfl) (own_g hw 4 rfl) (own_g hw 5 rfl) (by decide) (W := 2) (rm_head l Z a0 hw [] 3 s7 br mode a zc wf n0 h132 SS' q134 (by decide)) e132 (by decide) (by decide) (by decide) (by decide) (g := (mkF m 101 #[.val (.int len), .val (.int mode), .val (.long a), .second, .val (.long b), .second, .val (.int (Int32.ofNat (n))), .val (.int s7), .val (.int br), .val (.ref b122), .unset, .unset, .unset, .unset, .unset, .unset, .unset, .unset] [(.long a), (.int mode), (.int br), (.int s7), (.int (3 : Int32)), (.int (3 : Int32)), (.ref b122)])) rfl (by rw [hml]; rfl) (argsL := [(.int (3 : Int32)), (.int s7), (.int br), (.int mode), (.long a)]) (rest := [(.int (3 : Int32)), (.ref b122)]) opd_28 rfl rfl rfl (by show 2 * 0 + _ ≤ _; exact Nat.le_of_eq rfl) (hb hby at_101)
    obtain ⟨u3, rfl, hu3, N135, K135⟩ := hQ135
    have NN135 := Fr.app N132 N135
    have KK135 : Keep h0 T135.heap [] := KK132.trans K135 all0
    have H135 := CR135.1
    have R135 := CHr.trans R132 CR135
    refine og st135 ?_
    show OGo p e below _ T135 (mkF m 104 #[.val (.int len), .val (.int mode), .val (.long a), .second, .val (.long b), .second, .val (.int (Int32.ofNat (n))), .val (.int s7), .val (.int br), .val (.ref b122), .unset, .unset, .unset, .unset, .unset, .unset, .unset, .unset] [(.int u3), (.int (3 : Int32)), (.ref b122)])
    obtain ⟨T136, h136, X136, e136, W136, Vq136, st136⟩ := castoreV X135 hx hZ135 rfl (V132.keep K135 nin0) (j := (3 : Int32)) ⟨by decide, by decide⟩ (show (3 : Int32).toNatClampNeg < 10 by decide) (g := (mkF m 104 #[.val (.int len), .val (.int mode), .val (.long a), .second, .val (.long b), .second, .val (.int (Int32.ofNat (n))), .val (.int s7), .val (.int br), .val (.ref b122), .unset, .unset, .unset, .unset, .unset, .unset, .unset, .unset] [(.int u3), (.int (3 : Int32)), (.ref b122)])) rfl rfl (hb hby at_104)
    have q137 := (CHr.safe CR135 ((((((AE122.keep K123).wr W124).keep K127).wr W128).keep K131).wr W132).lt (Safe.wr W132 q133 H131 q133))
    have N136 := Fr.snoc X136 NN135 (Nat.le_trans Z0 sz_b122)
    have KK136 : Keep h0 h136 [] := KK135.wr W136 (Or.inr sz_b122)
    have H136 := CHv.wr W136 q137 H135
    have R136 := CHr.trans R135 (CHr.wr W136 q137 H135)
    have V136 : Arv Z h136 b122 k122 .char (10 : Int32) [(.int (nar .char u0)), (.int (nar .char u1)), (.int (nar .char u2)), (.int (nar .char u3)), (.int (0 : Int32)), (.int (0 : Int32)), (.int (0 : Int32)), (.int (0 : Int32)), (.int (0 : Int32)), (.int (0 : Int32))] (.int (0 : Int32)) := Vq136
    refine og st136 ?_
    show OGo p e below _ T136 (mkF m 105 #[.val (.int len), .val (.int mode), .val (.long a), .second, .val (.long b), .second, .val (.int (Int32.ofNat (n))), .val (.int s7), .val (.int br), .val (.ref b122), .unset, .unset, .unset, .unset, .unset, .unset, .unset, .unset] [])
    refine og (fun _ k => XS.aload X136.here hx rfl (hb hby at_105) rfl rfl k) ?_
    show OGo p e below _ T136 (mkF m 107 #[.val (.int len), .val (.int mode), .val (.long a), .second, .val (.long b), .second, .val (.int (Int32.ofNat (n))), .val (.int s7), .val (.int br), .val (.ref b122), .unset, .unset, .unset, .unset, .unset, .unset, .unset, .unset] [(.ref b122)])
    refine og (fun _ k => XS.iconst X136.here hx rfl (hb hby at_107) k) ?_
    show OGo p e below _ T136 (mkF m 108 #[.val (.int len), .val (.int mode), .val (.long a), .second, .val (.long b), .second, .val (.int (Int32.ofNat (n))), .val (.int s7), .val (.int br), .val (.ref b122), .unset, .unset, .unset, .unset, .unset, .unset, .unset, .unset] [(.int (4 : Int32)), (.ref b122)])
    refine og (fun _ k => XS.iconst X136.here hx rfl (hb hby at_108) k) ?_
    show OGo p e below _ T136 (mkF m 109 #[.val (.int len), .val (.int mode), .val (.long a), .second, .val (.long b), .second, .val (.int (Int32.ofNat (n))), .val (.int s7), .val (.int br), .val (.ref b122), .unset, .unset, .unset, .unset, .unset, .unset, .unset, .unset] [(.int (4 : Int32)), (.int (4 : Int32)), (.ref b122)])
    refine og (fun _ k => XS.iload X136.here hx rfl (hb hby at_109) rfl k) ?_
    show OGo p e below _ T136 (mkF m 111 #[.val (.int len), .val (.int mode), .val (.long a), .second, .val (.long b), .second, .val (.int (Int32.ofNat (n))), .val (.int s7), .val (.int br), .val (.ref b122), .unset, .unset, .unset, .unset, .unset, .unset, .unset, .unset] [(.int s7), (.int (4 : Int32)), (.int (4 : Int32)), (.ref b122)])
    refine og (fun _ k => XS.iload X136.here hx rfl (hb hby at_111) rfl k) ?_
    show OGo p e below _ T136 (mkF m 113 #[.val (.int len), .val (.int mode), .val (.long a), .second, .val (.long b), .second, .val (.int (Int32.ofNat (n))), .val (.int s7), .val (.int br), .val (.ref b122), .unset, .unset, .unset, .unset, .unset, .unset, .unset, .unset] [(.int br), (.int s7), (.int (4 : Int32)), (.int (4 : Int32)), (.ref b122)])
    refine og (fun _ k => XS.iloadN X136.here hx rfl (hb hby at_113) rfl k) ?_
    show OGo p e below _ T136 (mkF m 114 #[.val (.int len), .val (.int mode), .val (.long a), .second, .val (.long b), .second, .val (.int (Int32.ofNat (n))), .val (.int s7), .val (.int br), .val (.ref b122), .unset, .unset, .unset, .unset, .unset, .unset, .unset, .unset] [(.int mode), (.int br), (.int s7), (.int (4 : Int32)), (.int (4 : Int32)), (.ref b122)])
    refine og (fun _ k => XS.lloadN X136.here hx rfl (hb hby at_114) rfl k) ?_
    show OGo p e below _ T136 (mkF m 115 #[.val (.int len), .val (.int mode), .val (.long a), .second, .val (.long b), .second, .val (.int (Int32.ofNat (n))), .val (.int s7), .val (.int br), .val (.ref b122), .unset, .unset, .unset, .unset, .unset, .unset, .unset, .unset] [(.long a), (.int mode), (.int br), (.int s7), (.int (4 : Int32)), (.int (4 : Int32)), (.ref b122)])
    have q138 := ((q134.keep K135 all0).wr W136 (Nat.le_trans Z0 sz_b122))
    obtain ⟨v139, T139, L139, kk139, X139, hS139, hk139, hZ139, hown139, CR139, hQ139, st139⟩ := scallH X136 hx hZ135 hown135 (own_hEL hw) hS135 (Nat.le_trans hk135 (Nat.le_of_eq W136.size.symm)) H136 (own_g hw 2 rfl) (own_g hw 3 rfl) (own_g hw 4 rfl) (own_g hw 5 rfl) (by decide) (W := 2) (rm_head l Z a0 hw [] 4 s7 br mode a zc wf n0 h136 SS' q138 (by decide)) e136 (by decide) (by decide) (by decide) (by decide) (g := (mkF m 115 #[.val (.int len), .val (.int mode), .val (.long a), .second, .val (.long b), .second, .val (.int (Int32.ofNat (n))), .val (.int s7), .val (.int br), .val (.ref b122), .unset, .unset, .unset, .unset, .unset, .unset, .unset, .unset] [(.long a), (.int mode), (.int br), (.int s7), (.int (4 : Int32)), (.int (4 : Int32)), (.ref b122)])) rfl (by rw [hml]; rfl) (argsL := [(.int (4 : Int32)), (.int s7), (.int br), (.int mode), (.long a)]) (rest := [(.int (4 : Int32)), (.ref b122)]) opd_28 rfl rfl rfl (by show 2 * 0 + _ ≤ _; exact Nat.le_of_eq rfl) (hb hby at_115)
    obtain ⟨u4, rfl, hu4, N139, K139⟩ := hQ139
    have NN139 := Fr.app N136 N139
    have KK139 : Keep h0 T139.heap [] := KK136.trans K139 all0
    have H139 := CR139.1
    have R139 := CHr.trans R136 CR139
    refine og st139 ?_
    show OGo p e below _ T139 (mkF m 118 #[.val (.int len), .val (.int mode), .val (.long a), .second, .val (.long b), .second, .val (.int (Int32.ofNat (n))), .val (.int s7), .val (.int br), .val (.ref b122), .unset, .unset, .unset, .unset, .unset, .unset, .unset, .unset] [(.int u4), (.int (4 : Int32)), (.ref b122)])
    obtain ⟨T140, h140, X140, e140, W140, Vq140, st140⟩ := castoreV X139 hx hZ139 rfl (V136.keep K139 nin0) (j := (4 : Int32)) ⟨by decide, by decide⟩ (show (4 : Int32).toNatClampNeg < 10 by decide) (g := (mkF m 118 #[.val (.int len), .val (.int mode), .val (.long a), .second, .val (.long b), .second, .val (.int (Int32.ofNat (n))), .val (.int s7), .val (.int br), .val (.ref b122), .unset, .unset, .unset, .unset, .unset, .unset, .unset, .unset] [(.int u4), (.int (4 : Int32)), (.ref b122)])) rfl rfl (hb hby at_118)
    have q141 := (CHr.safe CR139 ((((((((AE122.keep K123).wr W124).keep K127).wr W128).keep K131).wr W132).keep K135).wr W136).lt (Safe.wr W136 q137 H135 q137))
    have N140 := Fr.snoc X140 NN139 (Nat.le_trans Z0 sz_b122)
    have KK140 : Keep h0 h140 [] := KK139.wr W140 (Or.inr sz_b122)
    have H140 := CHv.wr W140 q141 H139
    have R140 := CHr.trans R139 (CHr.wr W140 q141 H139)
    have V140 : Arv Z h140 b122 k122 .char (10 : Int32) [(.int (nar .char u0)), (.int (nar .char u1)), (.int (nar .char u2)), (.int (nar .char u3)), (.int (nar .char u4)), (.int (0 : Int32)), (.int (0 : Int32)), (.int (0 : Int32)), (.int (0 : Int32)), (.int (0 : Int32))] (.int (0 : Int32)) := Vq140
    refine og st140 ?_
    show OGo p e below _ T140 (mkF m 119 #[.val (.int len), .val (.int mode), .val (.long a), .second, .val (.long b), .second, .val (.int (Int32.ofNat (n))), .val (.int s7), .val (.int br), .val (.ref b122), .unset, .unset, .unset, .unset, .unset, .unset, .unset, .unset] [])
    refine og (fun _ k => XS.aload X140.here hx rfl (hb hby at_119) rfl rfl k) ?_
    show OGo p e below _ T140 (mkF m 121 #[.val (.int len), .val (.int mode), .val (.long a), .second, .val (.long b), .second, .val (.int (Int32.ofNat (n))), .val (.int s7), .val (.int br), .val (.ref b122), .unset, .unset, .unset, .unset, .unset, .unset, .unset, .unset] [(.ref b122)])
    refine og (fun _ k => XS.iconst X140.here hx rfl (hb hby at_121) k) ?_
    show OGo p e below _ T140 (mkF m 122 #[.val (.int len), .val (.int mode), .val (.long a), .second, .val (.long b), .second, .val (.int (Int32.ofNat (n))), .val (.int s7), .val (.int br), .val (.ref b122), .unset, .unset, .unset, .unset, .unset, .unset, .unset, .unset] [(.int (5 : Int32)), (.ref b122)])
    refine og (fun _ k => XS.iconst X140.here hx rfl (hb hby at_122) k) ?_
    show OGo p e below _ T140 (mkF m 123 #[.val (.int len), .val (.int mode), .val (.long a), .second, .val (.long b), .second, .val (.int (Int32.ofNat (n))), .val (.int s7), .val (.int br), .val (.ref b122), .unset, .unset, .unset, .unset, .unset, .unset, .unset, .unset] [(.int (5 : Int32)), (.int (5 : Int32)), (.ref b122)])
    refine og (fun _ k => XS.iload X140.here hx rfl (hb hby at_123) rfl k) ?_
    show OGo p e below _ T140 (mkF m 125 #[.val (.int len), .val (.int mode), .val (.long a), .second, .val (.long b), .second, .val (.int (Int32.ofNat (n))), .val (.int s7), .val (.int br), .val (.ref b122), .unset, .unset, .unset, .unset, .unset, .unset, .unset, .unset] [(.int s7), (.int (5 : Int32)), (.int (5 : Int32)), (.ref b122)])
    refine og (fun _ k => XS.iload X140.here hx rfl (hb hby at_125) rfl k) ?_
    show OGo p e below _ T140 (mkF m 127 #[.val (.int len), .val (.int mode), .val (.long a), .second, .val (.long b), .second, .val (.int (Int32.ofNat (n))), .val (.int s7), .val (.int br), .val (.ref b122), .unset, .unset, .unset, .unset, .unset, .unset, .unset, .unset] [(.int br), (.int s7), (.int (5 : Int32)), (.int (5 : Int32)), (.ref b122)])
    refine og (fun _ k => XS.iloadN X140.here hx rfl (hb hby at_127) rfl k) ?_
    show OGo p e below _ T140 (mkF m 128 #[.val (.int len), .val (.int mode), .val (.long a), .second, .val (.long b), .second, .val (.int (Int32.ofNat (n))), .val (.int s7), .val (.int br), .val (.ref b122), .unset, .unset, .unset, .unset, .unset, .unset, .unset, .unset] [(.int mode), (.int br), (.int s7), (.int (5 : Int32)), (.int (5 : Int32)), (.ref b122)])
    refine og (fun _ k => XS.lloadN X140.here hx rfl (hb hby at_128) rfl k) ?_
    show OGo p e below _ T140 (mkF m 129 #[.val (.int len), .val (.int mode), .val (.long a), .second, .val (.long b), .second, .val (.int (Int32.ofNat (n))), .val (.int s7), .val (.int br), .val (.ref b122), .unset, .unset, .unset, .unset, .unset, .unset, .unset, .unset] [(.long a), (.int mode), (.int br), (.int s7), (.int (5 : Int32)), (.int (5 : Int32)), (.ref b122)])
    have q142 := ((q138.keep K139 all0).wr W140 (Nat.le_trans Z0 sz_b122))
    obtain ⟨v143, T143, L143, kk143, X143, hS143, hk143, hZ143, hown143, CR143, hQ143, st143⟩ := scallH X140 hx hZ139 hown139 (own_hEL hw) hS139 (Nat.le_trans hk139 (Nat.le_of_eq W140.size.symm)) H140 (own_g hw 2 rfl) (own_g hw 3 rfl) (own_g hw 4 rfl) (own_g hw 5 rfl) (by decide) (W := 2) (rm_head l Z a0 hw [] 5 s7 br mode a zc wf n0 h140 SS' q142 (by decide)) e140 (by decide) (by decide) (by decide) (by decide) (g := (mkF m 129 #[.val (.int len), .val (.int mode), .val (.long a), .second, .val (.long b), .second, .val (.int (Int32.ofNat (n))), .val (.int s7), .val (.int br), .val (.ref b122), .unset, .unset, .unset, .unset, .unset, .unset, .unset, .unset] [(.long a), (.int mode), (.int br), (.int s7), (.int (5 : Int32)), (.int (5 : Int32)), (.ref b122)])) rfl (by rw [hml]; rfl) (argsL := [(.int (5 : Int32)), (.int s7), (.int br), (.int mode), (.long a)]) (rest := [(.int (5 : Int32)), (.ref b122)]) opd_28 rfl rfl rfl (by show 2 * 0 + _ ≤ _; exact Nat.le_of_eq rfl) (hb hby at_129)
    obtain ⟨u5, rfl, hu5, N143, K143⟩ := hQ143
    have NN143 := Fr.app N140 N143
    have KK143 : Keep h0 T143.heap [] := KK140.trans K143 all0
    have H143 := CR143.1
    have R143 := CHr.trans R140 CR143
    refine og st143 ?_
    show OGo p e below _ T143 (mkF m 132 #[.val (.int len), .val (.int mode), .val (.long a), .second, .val (.long b), .second, .val (.int (Int32.ofNat (n))), .val (.int s7), .val (.int br), .val (.ref b122), .unset, .unset, .unset, .unset, .unset, .unset, .unset, .unset] [(.int u5), (.int (5 : Int32)), (.ref b122)])
    obtain ⟨T144, h144, X144, e144, W144, Vq144, st144⟩ := castoreV X143 hx hZ143 rfl (V140.keep K143 nin0) (j := (5 : Int32)) ⟨by decide, by decide⟩ (show (5 : Int32).toNatClampNeg < 10 by decide) (g := (mkF m 132 #[.val (.int len), .val (.int mode), .val (.long a), .second, .val (.long b), .second, .val (.int (Int32.ofNat (n))), .val (.int s7), .val (.int br), .val (.ref b122), .unset, .unset, .unset, .unset, .unset, .unset, .unset, .unset] [(.int u5), (.int (5 : Int32)), (.ref b122)])) rfl rfl (hb hby at_132)
    have q145 := (CHr.safe CR143 ((((((((((AE122.keep K123).wr W124).keep K127).wr W128).keep K131).wr W132).keep K135).wr W136).keep K139).wr W140).lt (Safe.wr W140 q141 H139 q141))
    have N144 := Fr.snoc X144 NN143 (Nat.le_trans Z0 sz_b122)
    have KK144 : Keep h0 h144 [] := KK143.wr W144 (Or.inr sz_b122)
    have H144 := CHv.wr W144 q145 H143
    have R144 := CHr.trans R143 (CHr.wr W144 q145 H143)
    have V144 : Arv Z h144 b122 k122 .char (10 : Int32) [(.int (nar .char u0)), (.int (nar .char u1)), (.int (nar .char u2)), (.int (nar .char u3)), (.int (nar .char u4)), (.int (nar .char u5)), (.int (0 : Int32)), (.int (0 : Int32)), (.int (0 : Int32)), (.int (0 : Int32))] (.int (0 : Int32)) := Vq144
    refine og st144 ?_
    show OGo p e below _ T144 (mkF m 133 #[.val (.int len), .val (.int mode), .val (.long a), .second, .val (.long b), .second, .val (.int (Int32.ofNat (n))), .val (.int s7), .val (.int br), .val (.ref b122), .unset, .unset, .unset, .unset, .unset, .unset, .unset, .unset] [])
    refine og (fun _ k => XS.aload X144.here hx rfl (hb hby at_133) rfl rfl k) ?_
    show OGo p e below _ T144 (mkF m 135 #[.val (.int len), .val (.int mode), .val (.long a), .second, .val (.long b), .second, .val (.int (Int32.ofNat (n))), .val (.int s7), .val (.int br), .val (.ref b122), .unset, .unset, .unset, .unset, .unset, .unset, .unset, .unset] [(.ref b122)])
    refine og (fun _ k => XS.bipush X144.here hx rfl (hb hby at_135) k) ?_
    show OGo p e below _ T144 (mkF m 137 #[.val (.int len), .val (.int mode), .val (.long a), .second, .val (.long b), .second, .val (.int (Int32.ofNat (n))), .val (.int s7), .val (.int br), .val (.ref b122), .unset, .unset, .unset, .unset, .unset, .unset, .unset, .unset] [(.int (6 : Int32)), (.ref b122)])
    refine og (fun _ k => XS.iloadN X144.here hx rfl (hb hby at_137) rfl k) ?_
    show OGo p e below _ T144 (mkF m 138 #[.val (.int len), .val (.int mode), .val (.long a), .second, .val (.long b), .second, .val (.int (Int32.ofNat (n))), .val (.int s7), .val (.int br), .val (.ref b122), .unset, .unset, .unset, .unset, .unset, .unset, .unset, .unset] [(.int mode), (.int (6 : Int32)), (.ref b122)])
    refine og (fun _ k => XS.iconst X144.here hx rfl (hb hby at_138) k) ?_
    show OGo p e below _ T144 (mkF m 139 #[.val (.int len), .val (.int mode), .val (.long a), .second, .val (.long b), .second, .val (.int (Int32.ofNat (n))), .val (.int s7), .val (.int br), .val (.ref b122), .unset, .unset, .unset, .unset, .unset, .unset, .unset, .unset] [(.int (5 : Int32)), (.int mode), (.int (6 : Int32)), (.ref b122)])
    refine og (fun _ k => XS.iushr X144.here hx rfl (hb hby at_139) rfl k) ?_
    show OGo p e below _ T144 (mkF m 140 #[.val (.int len), .val (.int mode), .val (.long a), .second, .val (.long b), .second, .val (.int (Int32.ofNat (n))), .val (.int s7), .val (.int br), .val (.ref b122), .unset, .unset, .unset, .unset, .unset, .unset, .unset, .unset] [(.int ((mode.toUInt32 >>> ((5 : Int32) &&& 31).toUInt32).toInt32)), (.int (6 : Int32)), (.ref b122)])
    refine og (fun _ k => XS.iconst X144.here hx rfl (hb hby at_140) k) ?_
    show OGo p e below _ T144 (mkF m 141 #[.val (.int len), .val (.int mode), .val (.long a), .second, .val (.long b), .second, .val (.int (Int32.ofNat (n))), .val (.int s7), .val (.int br), .val (.ref b122), .unset, .unset, .unset, .unset, .unset, .unset, .unset, .unset] [(.int (1 : Int32)), (.int ((mode.toUInt32 >>> ((5 : Int32) &&& 31).toUInt32).toInt32)), (.int (6 : Int32)), (.ref b122)])
    refine og (fun _ k => XS.iand X144.here hx rfl (hb hby at_141) rfl k) ?_
    show OGo p e below _ T144 (mkF m 142 #[.val (.int len), .val (.int mode), .val (.long a), .second, .val (.long b), .second, .val (.int (Int32.ofNat (n))), .val (.int s7), .val (.int br), .val (.ref b122), .unset, .unset, .unset, .unset, .unset, .unset, .unset, .unset] [(.int (((mode.toUInt32 >>> ((5 : Int32) &&& 31).toUInt32).toInt32) &&& (1 : Int32))), (.int (6 : Int32)), (.ref b122)])
    have K156 : ∀ (u6 : Int32) (hu6 : own_c8 u6) (T : State) (locs : List Loc), Stand p l e room_1 (s.setVm T143.vm) m #[(.int len), (.int mode), (.long a), (.long b)] below meth c T locs 13 178 → Fr n0 locs → T.heap = h144 → OGo p e below (EndH Z own_EL s room_1 (own_Q n0)) T (mkF m 156 #[.val (.int len), .val (.int mode), .val (.long a), .second, .val (.long b), .second, .val (.int (Int32.ofNat (n))), .val (.int s7), .val (.int br), .val (.ref b122), .unset, .unset, .unset, .unset, .unset, .unset, .unset, .unset] [(.int u6), (.int (6 : Int32)), (.ref b122)]) := by
      intro u6 hu6 T locs X N eT
      show OGo p e below _ T (mkF m 156 #[.val (.int len), .val (.int mode), .val (.long a), .second, .val (.long b), .second, .val (.int (Int32.ofNat (n))), .val (.int s7), .val (.int br), .val (.ref b122), .unset, .unset, .unset, .unset, .unset, .unset, .unset, .unset] [(.int u6), (.int (6 : Int32)), (.ref b122)])
      obtain ⟨T146, h146, X146, e146, W146, Vq146, st146⟩ := castoreV X hx hZ143 eT V144 (j := (6 : Int32)) ⟨by decide, by decide⟩ (show (6 : Int32).toNatClampNeg < 10 by decide) (g := (mkF m 156 #[.val (.int len), .val (.int mode), .val (.long a), .second, .val (.long b), .second, .val (.int (Int32.ofNat (n))), .val (.int s7), .val (.int br), .val (.ref b122), .unset, .unset, .unset, .unset, .unset, .unset, .unset, .unset] [(.int u6), (.int (6 : Int32)), (.ref b122)])) rfl rfl (hb hby at_156)
      have N146 := Fr.snoc X146 N (Nat.le_trans Z0 sz_b122)
      have KK146 : Keep h0 h146 [] := KK144.wr W146 (Or.inr sz_b122)
      have H146 := CHv.wr W146 (Safe.wr W144 q145 H143 q145) H144
      have R146 := CHr.trans R144 (CHr.wr W146 (Safe.wr W144 q145 H143 q145) H144)
      have V146 : Arv Z h146 b122 k122 .char (10 : Int32) [(.int (nar .char u0)), (.int (nar .char u1)), (.int (nar .char u2)), (.int (nar .char u3)), (.int (nar .char u4)), (.int (nar .char u5)), (.int (nar .char u6)), (.int (0 : Int32)), (.int (0 : Int32)), (.int (0 : Int32))] (.int (0 : Int32)) := Vq146
      refine og st146 ?_
      show OGo p e below _ T146 (mkF m 157 #[.val (.int len), .val (.int mode), .val (.long a), .second, .val (.long b), .second, .val (.int (Int32.ofNat (n))), .val (.int s7), .val (.int br), .val (.ref b122), .unset, .unset, .unset, .unset, .unset, .unset, .unset, .unset] [])
      refine og (fun _ k => XS.aload X146.here hx rfl (hb hby at_157) rfl rfl k) ?_
      show OGo p e below _ T146 (mkF m 159 #[.val (.int len), .val (.int mode), .val (.long a), .second, .val (.long b), .second, .val (.int (Int32.ofNat (n))), .val (.int s7), .val (.int br), .val (.ref b122), .unset, .unset, .unset, .unset, .unset, .unset, .unset, .unset] [(.ref b122)])
      refine og (fun _ k => XS.bipush X146.here hx rfl (hb hby at_159) k) ?_
      show OGo p e below _ T146 (mkF m 161 #[.val (.int len), .val (.int mode), .val (.long a), .second, .val (.long b), .second, .val (.int (Int32.ofNat (n))), .val (.int s7), .val (.int br), .val (.ref b122), .unset, .unset, .unset, .unset, .unset, .unset, .unset, .unset] [(.int (7 : Int32)), (.ref b122)])
      refine og (fun _ k => XS.lloadN X146.here hx rfl (hb hby at_161) rfl k) ?_
      show OGo p e below _ T146 (mkF m 162 #[.val (.int len), .val (.int mode), .val (.long a), .second, .val (.long b), .second, .val (.int (Int32.ofNat (n))), .val (.int s7), .val (.int br), .val (.ref b122), .unset, .unset, .unset, .unset, .unset, .unset, .unset, .unset] [(.long a), (.int (7 : Int32)), (.ref b122)])
      refine og (fun _ k => XS.bipush X146.here hx rfl (hb hby at_162) k) ?_
      show OGo p e below _ T146 (mkF m 164 #[.val (.int len), .val (.int mode), .val (.long a), .second, .val (.long b), .second, .val (.int (Int32.ofNat (n))), .val (.int s7), .val (.int br), .val (.ref b122), .unset, .unset, .unset, .unset, .unset, .unset, .unset, .unset] [(.int (7 : Int32)), (.long a), (.int (7 : Int32)), (.ref b122)])
      obtain ⟨v147, T147, L147, X147, hQ147, st147⟩ := scall X146 hx hZ143 hown143 (own_g hw 6 rfl) (own_g hw 7 rfl) (own_g hw 4 rfl) (own_g hw 8 rfl) (by decide) (W := 2) (rm_raw l Z a0 hw [] a (7 : Int32) h146 ) e146 (by decide) (by decide) (by decide) (by decide) (g := (mkF m 164 #[.val (.int len), .val (.int mode), .val (.long a), .second, .val (.long b), .second, .val (.int (Int32.ofNat (n))), .val (.int s7), .val (.int br), .val (.ref b122), .unset, .unset, .unset, .unset, .unset, .unset, .unset, .unset] [(.int (7 : Int32)), (.long a), (.int (7 : Int32)), (.ref b122)])) rfl (by rw [hml]; rfl) (argsL := [(.long a), (.int (7 : Int32))]) (rest := [(.int (7 : Int32)), (.ref b122)]) opd_9 rfl rfl rfl (by show 2 * 0 + _ ≤ _; exact Nat.le_of_eq rfl) (hb hby at_164)
      obtain ⟨r7, rfl, hr7, rfl, e147⟩ := hQ147
      rw [List.append_nil] at X147
      refine og st147 ?_
      show OGo p e below _ T147 (mkF m 167 #[.val (.int len), .val (.int mode), .val (.long a), .second, .val (.long b), .second, .val (.int (Int32.ofNat (n))), .val (.int s7), .val (.int br), .val (.ref b122), .unset, .unset, .unset, .unset, .unset, .unset, .unset, .unset] [(.int r7), (.int (7 : Int32)), (.ref b122)])
      refine og (fun _ k => XS.iloadN X147.here hx rfl (hb hby at_167) rfl k) ?_
      show OGo p e below _ T147 (mkF m 168 #[.val (.int len), .val (.int mode), .val (.long a), .second, .val (.long b), .second, .val (.int (Int32.ofNat (n))), .val (.int s7), .val (.int br), .val (.ref b122), .unset, .unset, .unset, .unset, .unset, .unset, .unset, .unset] [(.int mode), (.int r7), (.int (7 : Int32)), (.ref b122)])
      refine og (fun _ k => XS.bipush X147.here hx rfl (hb hby at_168) k) ?_
      show OGo p e below _ T147 (mkF m 170 #[.val (.int len), .val (.int mode), .val (.long a), .second, .val (.long b), .second, .val (.int (Int32.ofNat (n))), .val (.int s7), .val (.int br), .val (.ref b122), .unset, .unset, .unset, .unset, .unset, .unset, .unset, .unset] [(.int (16 : Int32)), (.int mode), (.int r7), (.int (7 : Int32)), (.ref b122)])
      have q148 := (((q142.keep K143 all0).wr W144 (Nat.le_trans Z0 sz_b122)).wr W146 (Nat.le_trans Z0 sz_b122))
      obtain ⟨v149, T149, L149, X149, hQ149, st149⟩ := scall X147 hx hZ143 hown143 (own_g hw 43 rfl) (own_g hw 44 rfl) (own_g hw 4 rfl) (own_g hw 45 rfl) (by decide) (W := 2) (rm_tail l Z a0 hw [] r7 mode (16 : Int32) zc wf n0 h146 SS' q148 hr7) e147 (by decide) (by decide) (by decide) (by decide) (g := (mkF m 170 #[.val (.int len), .val (.int mode), .val (.long a), .second, .val (.long b), .second, .val (.int (Int32.ofNat (n))), .val (.int s7), .val (.int br), .val (.ref b122), .unset, .unset, .unset, .unset, .unset, .unset, .unset, .unset] [(.int (16 : Int32)), (.int mode), (.int r7), (.int (7 : Int32)), (.ref b122)])) rfl (by rw [hml]; rfl) (argsL := [(.int r7), (.int mode), (.int (16 : Int32))]) (rest := [(.int (7 : Int32)), (.ref b122)]) opd_29 rfl rfl rfl (by show 2 * 0 + _ ≤ _; exact Nat.le_of_eq rfl) (hb hby at_170)
      obtain ⟨u7, rfl, hu7, N149, K149⟩ := hQ149
      have NN149 := Fr.app N146 N149
      have KK149 : Keep h0 T149.heap [] := KK146.trans K149 all0
      have H149 := CHv.keep K149 sf0 H146
      have R149 := CHr.trans R146 (CHr.keep K149 sf0 H146)
      refine og st149 ?_
      show OGo p e below _ T149 (mkF m 173 #[.val (.int len), .val (.int mode), .val (.long a), .second, .val (.long b), .second, .val (.int (Int32.ofNat (n))), .val (.int s7), .val (.int br), .val (.ref b122), .unset, .unset, .unset, .unset, .unset, .unset, .unset, .unset] [(.int u7), (.int (7 : Int32)), (.ref b122)])
      obtain ⟨T150, h150, X150, e150, W150, Vq150, st150⟩ := castoreV X149 hx hZ143 rfl (V146.keep K149 nin0) (j := (7 : Int32)) ⟨by decide, by decide⟩ (show (7 : Int32).toNatClampNeg < 10 by decide) (g := (mkF m 173 #[.val (.int len), .val (.int mode), .val (.long a), .second, .val (.long b), .second, .val (.int (Int32.ofNat (n))), .val (.int s7), .val (.int br), .val (.ref b122), .unset, .unset, .unset, .unset, .unset, .unset, .unset, .unset] [(.int u7), (.int (7 : Int32)), (.ref b122)])) rfl rfl (hb hby at_173)
      have q151 := (Safe.keep K149 sf0 H146 (Safe.wr W146 (Safe.wr W144 q145 H143 q145) H144 (Safe.wr W144 q145 H143 q145)))
      have N150 := Fr.snoc X150 NN149 (Nat.le_trans Z0 sz_b122)
      have KK150 : Keep h0 h150 [] := KK149.wr W150 (Or.inr sz_b122)
      have H150 := CHv.wr W150 q151 H149
      have R150 := CHr.trans R149 (CHr.wr W150 q151 H149)
      have V150 : Arv Z h150 b122 k122 .char (10 : Int32) [(.int (nar .char u0)), (.int (nar .char u1)), (.int (nar .char u2)), (.int (nar .char u3)), (.int (nar .char u4)), (.int (nar .char u5)), (.int (nar .char u6)), (.int (nar .char u7)), (.int (0 : Int32)), (.int (0 : Int32))] (.int (0 : Int32)) := Vq150
      refine og st150 ?_
      show OGo p e below _ T150 (mkF m 174 #[.val (.int len), .val (.int mode), .val (.long a), .second, .val (.long b), .second, .val (.int (Int32.ofNat (n))), .val (.int s7), .val (.int br), .val (.ref b122), .unset, .unset, .unset, .unset, .unset, .unset, .unset, .unset] [])
      refine og (fun _ k => XS.aload X150.here hx rfl (hb hby at_174) rfl rfl k) ?_
      show OGo p e below _ T150 (mkF m 176 #[.val (.int len), .val (.int mode), .val (.long a), .second, .val (.long b), .second, .val (.int (Int32.ofNat (n))), .val (.int s7), .val (.int br), .val (.ref b122), .unset, .unset, .unset, .unset, .unset, .unset, .unset, .unset] [(.ref b122)])
      refine og (fun _ k => XS.bipush X150.here hx rfl (hb hby at_176) k) ?_
      show OGo p e below _ T150 (mkF m 178 #[.val (.int len), .val (.int mode), .val (.long a), .second, .val (.long b), .second, .val (.int (Int32.ofNat (n))), .val (.int s7), .val (.int br), .val (.ref b122), .unset, .unset, .unset, .unset, .unset, .unset, .unset, .unset] [(.int (8 : Int32)), (.ref b122)])
      refine og (fun _ k => XS.lload X150.here hx rfl (hb hby at_178) rfl k) ?_
      show OGo p e below _ T150 (mkF m 180 #[.val (.int len), .val (.int mode), .val (.long a), .second, .val (.long b), .second, .val (.int (Int32.ofNat (n))), .val (.int s7), .val (.int br), .val (.ref b122), .unset, .unset, .unset, .unset, .unset, .unset, .unset, .unset] [(.long b), (.int (8 : Int32)), (.ref b122)])
      refine og (fun _ k => XS.iconst X150.here hx rfl (hb hby at_180) k) ?_
      show OGo p e below _ T150 (mkF m 181 #[.val (.int len), .val (.int mode), .val (.long a), .second, .val (.long b), .second, .val (.int (Int32.ofNat (n))), .val (.int s7), .val (.int br), .val (.ref b122), .unset, .unset, .unset, .unset, .unset, .unset, .unset, .unset] [(.int (0 : Int32)), (.long b), (.int (8 : Int32)), (.ref b122)])
      obtain ⟨v152, T152, L152, X152, hQ152, st152⟩ := scall X150 hx hZ143 hown143 (own_g hw 6 rfl) (own_g hw 7 rfl) (own_g hw 4 rfl) (own_g hw 8 rfl) (by decide) (W := 2) (rm_raw l Z a0 hw [] b (0 : Int32) h150 ) e150 (by decide) (by decide) (by decide) (by decide) (g := (mkF m 181 #[.val (.int len), .val (.int mode), .val (.long a), .second, .val (.long b), .second, .val (.int (Int32.ofNat (n))), .val (.int s7), .val (.int br), .val (.ref b122), .unset, .unset, .unset, .unset, .unset, .unset, .unset, .unset] [(.int (0 : Int32)), (.long b), (.int (8 : Int32)), (.ref b122)])) rfl (by rw [hml]; rfl) (argsL := [(.long b), (.int (0 : Int32))]) (rest := [(.int (8 : Int32)), (.ref b122)]) opd_9 rfl rfl rfl (by show 2 * 0 + _ ≤ _; exact Nat.le_of_eq rfl) (hb hby at_181)
      obtain ⟨r8, rfl, hr8, rfl, e152⟩ := hQ152
      rw [List.append_nil] at X152
      refine og st152 ?_
      show OGo p e below _ T152 (mkF m 184 #[.val (.int len), .val (.int mode), .val (.long a), .second, .val (.long b), .second, .val (.int (Int32.ofNat (n))), .val (.int s7), .val (.int br), .val (.ref b122), .unset, .unset, .unset, .unset, .unset, .unset, .unset, .unset] [(.int r8), (.int (8 : Int32)), (.ref b122)])
      refine og (fun _ k => XS.iloadN X152.here hx rfl (hb hby at_184) rfl k) ?_
      show OGo p e below _ T152 (mkF m 185 #[.val (.int len), .val (.int mode), .val (.long a), .second, .val (.long b), .second, .val (.int (Int32.ofNat (n))), .val (.int s7), .val (.int br), .val (.ref b122), .unset, .unset, .unset, .unset, .unset, .unset, .unset, .unset] [(.int mode), (.int r8), (.int (8 : Int32)), (.ref b122)])
      refine og (fun _ k => XS.bipush X152.here hx rfl (hb hby at_185) k) ?_
      show OGo p e below _ T152 (mkF m 187 #[.val (.int len), .val (.int mode), .val (.long a), .second, .val (.long b), .second, .val (.int (Int32.ofNat (n))), .val (.int s7), .val (.int br), .val (.ref b122), .unset, .unset, .unset, .unset, .unset, .unset, .unset, .unset] [(.int (17 : Int32)), (.int mode), (.int r8), (.int (8 : Int32)), (.ref b122)])
      have q153 := ((q148.keep K149 all0).wr W150 (Nat.le_trans Z0 sz_b122))
      obtain ⟨v154, T154, L154, X154, hQ154, st154⟩ := scall X152 hx hZ143 hown143 (own_g hw 43 rfl) (own_g hw 44 rfl) (own_g hw 4 rfl) (own_g hw 45 rfl) (by decide) (W := 2) (rm_tail l Z a0 hw [] r8 mode (17 : Int32) zc wf n0 h150 SS' q153 hr8) e152 (by decide) (by decide) (by decide) (by decide) (g := (mkF m 187 #[.val (.int len), .val (.int mode), .val (.long a), .second, .val (.long b), .second, .val (.int (Int32.ofNat (n))), .val (.int s7), .val (.int br), .val (.ref b122), .unset, .unset, .unset, .unset, .unset, .unset, .unset, .unset] [(.int (17 : Int32)), (.int mode), (.int r8), (.int (8 : Int32)), (.ref b122)])) rfl (by rw [hml]; rfl) (argsL := [(.int r8), (.int mode), (.int (17 : Int32))]) (rest := [(.int (8 : Int32)), (.ref b122)]) opd_29 rfl rfl rfl (by show 2 * 0 + _ ≤ _; exact Nat.le_of_eq rfl) (hb hby at_187)
      obtain ⟨u8, rfl, hu8, N154, K154⟩ := hQ154
      have NN154 := Fr.app N150 N154
      have KK154 : Keep h0 T154.heap [] := KK150.trans K154 all0
      have H154 := CHv.keep K154 sf0 H150
      have R154 := CHr.trans R150 (CHr.keep K154 sf0 H150)
      refine og st154 ?_
      show OGo p e below _ T154 (mkF m 190 #[.val (.int len), .val (.int mode), .val (.long a), .second, .val (.long b), .second, .val (.int (Int32.ofNat (n))), .val (.int s7), .val (.int br), .val (.ref b122), .unset, .unset, .unset, .unset, .unset, .unset, .unset, .unset] [(.int u8), (.int (8 : Int32)), (.ref b122)])
      obtain ⟨T155, h155, X155, e155, W155, Vq155, st155⟩ := castoreV X154 hx hZ143 rfl (V150.keep K154 nin0) (j := (8 : Int32)) ⟨by decide, by decide⟩ (show (8 : Int32).toNatClampNeg < 10 by decide) (g := (mkF m 190 #[.val (.int len), .val (.int mode), .val (.long a), .second, .val (.long b), .second, .val (.int (Int32.ofNat (n))), .val (.int s7), .val (.int br), .val (.ref b122), .unset, .unset, .unset, .unset, .unset, .unset, .unset, .unset] [(.int u8), (.int (8 : Int32)), (.ref b122)])) rfl rfl (hb hby at_190)
      have q156 := (Safe.keep K154 sf0 H150 (Safe.wr W150 q151 H149 q151))
      have N155 := Fr.snoc X155 NN154 (Nat.le_trans Z0 sz_b122)
      have KK155 : Keep h0 h155 [] := KK154.wr W155 (Or.inr sz_b122)
      have H155 := CHv.wr W155 q156 H154
      have R155 := CHr.trans R154 (CHr.wr W155 q156 H154)
      have V155 : Arv Z h155 b122 k122 .char (10 : Int32) [(.int (nar .char u0)), (.int (nar .char u1)), (.int (nar .char u2)), (.int (nar .char u3)), (.int (nar .char u4)), (.int (nar .char u5)), (.int (nar .char u6)), (.int (nar .char u7)), (.int (nar .char u8)), (.int (0 : Int32))] (.int (0 : Int32)) := Vq155
      refine og st155 ?_
      show OGo p e below _ T155 (mkF m 191 #[.val (.int len), .val (.int mode), .val (.long a), .second, .val (.long b), .second, .val (.int (Int32.ofNat (n))), .val (.int s7), .val (.int br), .val (.ref b122), .unset, .unset, .unset, .unset, .unset, .unset, .unset, .unset] [])
      refine og (fun _ k => XS.aload X155.here hx rfl (hb hby at_191) rfl rfl k) ?_
      show OGo p e below _ T155 (mkF m 193 #[.val (.int len), .val (.int mode), .val (.long a), .second, .val (.long b), .second, .val (.int (Int32.ofNat (n))), .val (.int s7), .val (.int br), .val (.ref b122), .unset, .unset, .unset, .unset, .unset, .unset, .unset, .unset] [(.ref b122)])
      refine og (fun _ k => XS.bipush X155.here hx rfl (hb hby at_193) k) ?_
      show OGo p e below _ T155 (mkF m 195 #[.val (.int len), .val (.int mode), .val (.long a), .second, .val (.long b), .second, .val (.int (Int32.ofNat (n))), .val (.int s7), .val (.int br), .val (.ref b122), .unset, .unset, .unset, .unset, .unset, .unset, .unset, .unset] [(.int (9 : Int32)), (.ref b122)])
      refine og (fun _ k => XS.lload X155.here hx rfl (hb hby at_195) rfl k) ?_
      show OGo p e below _ T155 (mkF m 197 #[.val (.int len), .val (.int mode), .val (.long a), .second, .val (.long b), .second, .val (.int (Int32.ofNat (n))), .val (.int s7), .val (.int br), .val (.ref b122), .unset, .unset, .unset, .unset, .unset, .unset, .unset, .unset] [(.long b), (.int (9 : Int32)), (.ref b122)])
      refine og (fun _ k => XS.iconst X155.here hx rfl (hb hby at_197) k) ?_
      show OGo p e below _ T155 (mkF m 198 #[.val (.int len), .val (.int mode), .val (.long a), .second, .val (.long b), .second, .val (.int (Int32.ofNat (n))), .val (.int s7), .val (.int br), .val (.ref b122), .unset, .unset, .unset, .unset, .unset, .unset, .unset, .unset] [(.int (1 : Int32)), (.long b), (.int (9 : Int32)), (.ref b122)])
      obtain ⟨v157, T157, L157, X157, hQ157, st157⟩ := scall X155 hx hZ143 hown143 (own_g hw 6 rfl) (own_g hw 7 rfl) (own_g hw 4 rfl) (own_g hw 8 rfl) (by decide) (W := 2) (rm_raw l Z a0 hw [] b (1 : Int32) h155 ) e155 (by decide) (by decide) (by decide) (by decide) (g := (mkF m 198 #[.val (.int len), .val (.int mode), .val (.long a), .second, .val (.long b), .second, .val (.int (Int32.ofNat (n))), .val (.int s7), .val (.int br), .val (.ref b122), .unset, .unset, .unset, .unset, .unset, .unset, .unset, .unset] [(.int (1 : Int32)), (.long b), (.int (9 : Int32)), (.ref b122)])) rfl (by rw [hml]; rfl) (argsL := [(.long b), (.int (1 : Int32))]) (rest := [(.int (9 : Int32)), (.ref b122)]) opd_9 rfl rfl rfl (by show 2 * 0 + _ ≤ _; exact Nat.le_of_eq rfl) (hb hby at_198)
      obtain ⟨r9, rfl, hr9, rfl, e157⟩ := hQ157
      rw [List.append_nil] at X157
      refine og st157 ?_
      show OGo p e below _ T157 (mkF m 201 #[.val (.int len), .val (.int mode), .val (.long a), .second, .val (.long b), .second, .val (.int (Int32.ofNat (n))), .val (.int s7), .val (.int br), .val (.ref b122), .unset, .unset, .unset, .unset, .unset, .unset, .unset, .unset] [(.int r9), (.int (9 : Int32)), (.ref b122)])
      refine og (fun _ k => XS.iloadN X157.here hx rfl (hb hby at_201) rfl k) ?_
      show OGo p e below _ T157 (mkF m 202 #[.val (.int len), .val (.int mode), .val (.long a), .second, .val (.long b), .second, .val (.int (Int32.ofNat (n))), .val (.int s7), .val (.int br), .val (.ref b122), .unset, .unset, .unset, .unset, .unset, .unset, .unset, .unset] [(.int mode), (.int r9), (.int (9 : Int32)), (.ref b122)])
      refine og (fun _ k => XS.bipush X157.here hx rfl (hb hby at_202) k) ?_
      show OGo p e below _ T157 (mkF m 204 #[.val (.int len), .val (.int mode), .val (.long a), .second, .val (.long b), .second, .val (.int (Int32.ofNat (n))), .val (.int s7), .val (.int br), .val (.ref b122), .unset, .unset, .unset, .unset, .unset, .unset, .unset, .unset] [(.int (18 : Int32)), (.int mode), (.int r9), (.int (9 : Int32)), (.ref b122)])
      have q158 := ((q153.keep K154 all0).wr W155 (Nat.le_trans Z0 sz_b122))
      obtain ⟨v159, T159, L159, X159, hQ159, st159⟩ := scall X157 hx hZ143 hown143 (own_g hw 43 rfl) (own_g hw 44 rfl) (own_g hw 4 rfl) (own_g hw 45 rfl) (by decide) (W := 2) (rm_tail l Z a0 hw [] r9 mode (18 : Int32) zc wf n0 h155 SS' q158 hr9) e157 (by decide) (by decide) (by decide) (by decide) (g := (mkF m 204 #[.val (.int len), .val (.int mode), .val (.long a), .second, .val (.long b), .second, .val (.int (Int32.ofNat (n))), .val (.int s7), .val (.int br), .val (.ref b122), .unset, .unset, .unset, .unset, .unset, .unset, .unset, .unset] [(.int (18 : Int32)), (.int mode), (.int r9), (.int (9 : Int32)), (.ref b122)])) rfl (by rw [hml]; rfl) (argsL := [(.int r9), (.int mode), (.int (18 : Int32))]) (rest := [(.int (9 : Int32)), (.ref b122)]) opd_29 rfl rfl rfl (by show 2 * 0 + _ ≤ _; exact Nat.le_of_eq rfl) (hb hby at_204)
      obtain ⟨u9, rfl, hu9, N159, K159⟩ := hQ159
      have NN159 := Fr.app N155 N159
      have KK159 : Keep h0 T159.heap [] := KK155.trans K159 all0
      have H159 := CHv.keep K159 sf0 H155
      have R159 := CHr.trans R155 (CHr.keep K159 sf0 H155)
      refine og st159 ?_
      show OGo p e below _ T159 (mkF m 207 #[.val (.int len), .val (.int mode), .val (.long a), .second, .val (.long b), .second, .val (.int (Int32.ofNat (n))), .val (.int s7), .val (.int br), .val (.ref b122), .unset, .unset, .unset, .unset, .unset, .unset, .unset, .unset] [(.int u9), (.int (9 : Int32)), (.ref b122)])
      obtain ⟨T160, h160, X160, e160, W160, Vq160, st160⟩ := castoreV X159 hx hZ143 rfl (V155.keep K159 nin0) (j := (9 : Int32)) ⟨by decide, by decide⟩ (show (9 : Int32).toNatClampNeg < 10 by decide) (g := (mkF m 207 #[.val (.int len), .val (.int mode), .val (.long a), .second, .val (.long b), .second, .val (.int (Int32.ofNat (n))), .val (.int s7), .val (.int br), .val (.ref b122), .unset, .unset, .unset, .unset, .unset, .unset, .unset, .unset] [(.int u9), (.int (9 : Int32)), (.ref b122)])) rfl rfl (hb hby at_207)
      have q161 := (Safe.keep K159 sf0 H155 (Safe.wr W155 q156 H154 q156))
      have N160 := Fr.snoc X160 NN159 (Nat.le_trans Z0 sz_b122)
      have KK160 : Keep h0 h160 [] := KK159.wr W160 (Or.inr sz_b122)
      have H160 := CHv.wr W160 q161 H159
      have R160 := CHr.trans R159 (CHr.wr W160 q161 H159)
      have V160 : Arv Z h160 b122 k122 .char (10 : Int32) [(.int (nar .char u0)), (.int (nar .char u1)), (.int (nar .char u2)), (.int (nar .char u3)), (.int (nar .char u4)), (.int (nar .char u5)), (.int (nar .char u6)), (.int (nar .char u7)), (.int (nar .char u8)), (.int (nar .char u9))] (.int (0 : Int32)) := Vq160
      refine og st160 ?_
      show OGo p e below _ T160 (mkF m 208 #[.val (.int len), .val (.int mode), .val (.long a), .second, .val (.long b), .second, .val (.int (Int32.ofNat (n))), .val (.int s7), .val (.int br), .val (.ref b122), .unset, .unset, .unset, .unset, .unset, .unset, .unset, .unset] [])
      have Vc162 : Arv Z h160 b122 k122 .char (10 : Int32) (([u0, u1, u2, u3, u4, u5, u6, u7, u8, u9] : List Int32).map Value.int) (.int (0 : Int32)) := by have q := V160; rw [own_narc hu0, own_narc hu1, own_narc hu2, own_narc hu3, own_narc hu4, own_narc hu5, own_narc hu6, own_narc hu7, own_narc hu8, own_narc hu9] at q; exact q
      have hok : own_ok8 [u0, u1, u2, u3, u4, u5, u6, u7, u8, u9] := (own_okS hu0 (own_okS hu1 (own_okS hu2 (own_okS hu3 (own_okS hu4 (own_okS hu5 (own_okS hu6 (own_okS hu7 (own_okS hu8 (own_okS hu9 own_ok0))))))))))
      refine og (fun _ k => XS.iload X160.here hx rfl (hb hby at_208) rfl k) ?_
      show OGo p e below _ T160 (mkF m 210 #[.val (.int len), .val (.int mode), .val (.long a), .second, .val (.long b), .second, .val (.int (Int32.ofNat (n))), .val (.int s7), .val (.int br), .val (.ref b122), .unset, .unset, .unset, .unset, .unset, .unset, .unset, .unset] [(.int (Int32.ofNat (n)))])
      obtain ⟨T163, h163, k163, X163, e163, E163, A163, AE163, st163⟩ := newPE X160 hx hZ143 (own_g hw 1 rfl) e160 (g := (mkF m 210 #[.val (.int len), .val (.int mode), .val (.long a), .second, .val (.long b), .second, .val (.int (Int32.ofNat (n))), .val (.int s7), .val (.int br), .val (.ref b122), .unset, .unset, .unset, .unset, .unset, .unset, .unset, .unset] [(.int (Int32.ofNat (n)))])) rfl (hb hby at_210) rfl (own_nn (by omega)) (cap := 10) (by rw [own_cl (by omega)]; omega) (by decide) (by decide) (by decide) (ad := "[C") (by decide)
      obtain ⟨b163, g163⟩ : ∃ z, z = h160.size := ⟨_, rfl⟩
      rw [← g163] at A163 AE163 st163
      have sz_b163 : h0.size ≤ b163 := Nat.le_trans KK160.1 (Nat.le_of_eq g163.symm)
      have KK163 : Keep h0 h163 [] := KK160.ext E163
      have H163 := CHv.ext E163 H160
      have R163 := CHr.trans R160 (CHr.ext E163 H160)
      have V163 : Arv Z h163 b163 k163 .char (Int32.ofNat (n)) [] (.int (0 : Int32)) := Arv.new A163 (own_nn (by omega))
      refine og st163 ?_
      show OGo p e below _ T163 (mkF m 212 #[.val (.int len), .val (.int mode), .val (.long a), .second, .val (.long b), .second, .val (.int (Int32.ofNat (n))), .val (.int s7), .val (.int br), .val (.ref b122), .unset, .unset, .unset, .unset, .unset, .unset, .unset, .unset] [(.ref b163)])
      refine og (fun _ k => XS.astore X163.here hx rfl (hb hby at_212) rfl rfl (l' := #[.val (.int len), .val (.int mode), .val (.long a), .second, .val (.long b), .second, .val (.int (Int32.ofNat (n))), .val (.int s7), .val (.int br), .val (.ref b122), .val (.ref b163), .unset, .unset, .unset, .unset, .unset, .unset, .unset]) rfl k) ?_
      show OGo p e below _ T163 (mkF m 214 #[.val (.int len), .val (.int mode), .val (.long a), .second, .val (.long b), .second, .val (.int (Int32.ofNat (n))), .val (.int s7), .val (.int br), .val (.ref b122), .val (.ref b163), .unset, .unset, .unset, .unset, .unset, .unset, .unset] [])
      obtain ⟨ds, hds⟩ : ∃ z, z = ([u0, u1, u2, u3, u4, u5, u6, u7, u8, u9] : List Int32).take n := ⟨_, rfl⟩
      have hdl : ds.length = n := by rw [hds, List.length_take]; show min n 10 = n; omega
      have hokd : own_ok8 ds := by rw [hds]; exact own_okt hok
      have ne164 : b122 ≠ b163 := (Nat.ne_of_lt (Nat.lt_of_lt_of_le (((((((((((((((((((AE122.keep K123).wr W124).keep K127).wr W128).keep K131).wr W132).keep K135).wr W136).keep K139).wr W140).keep K143).wr W144).wr W146).keep K149).wr W150).keep K154).wr W155).keep K159).wr W160).lt (Nat.le_of_eq g163.symm)))
      have nab : b122 ≠ b163 := ne164
      have J10 : ∀ (T : State) (h : Heap) (locs : List Loc), Stand p l e room_1 (s.setVm T143.vm) m #[(.int len), (.int mode), (.long a), (.long b)] below meth c T locs 17 212 → T.heap = h → Fr n0 locs → Keep h0 h [] → Old Z n0 h → CHv Z own_EL T143.vm h → CHr Z own_EL s.vm h0 T143.vm h → kk143 ≤ h.size → Arv Z h b122 k122 .char (10 : Int32) (([u0, u1, u2, u3, u4, u5, u6, u7, u8, u9] : List Int32).map Value.int) (.int (0 : Int32)) → Arv Z h b163 k163 .char (Int32.ofNat n) ((ds.take 10).map Value.int) (.int (0 : Int32)) → OGo p e below (EndH Z own_EL s room_1 (own_Q n0)) T (mkF m 365 #[.val (.int len), .val (.int mode), .val (.long a), .second, .val (.long b), .second, .val (.int (Int32.ofNat (n))), .val (.int s7), .val (.int br), .val (.ref b122), .val (.ref b163), .unset, .unset, .unset, .unset, .unset, .unset, .unset] []) := by
        intro T h locs X eT N K O1 H1 R1 hk1 Va Vb
        show OGo p e below _ T (mkF m 365 #[.val (.int len), .val (.int mode), .val (.long a), .second, .val (.long b), .second, .val (.int (Int32.ofNat (n))), .val (.int s7), .val (.int br), .val (.ref b122), .val (.ref b163), .unset, .unset, .unset, .unset, .unset, .unset, .unset] [])
        have Vd : Arv Z h b163 k163 .char (Int32.ofNat ds.length) (ds.map Value.int) (.int (0 : Int32)) := by have q := Vb; rw [List.take_of_length_le (by omega)] at q; rw [hdl]; exact q
        refine og (fun _ k => XS.iloadN X.here hx rfl (hb hby at_365) rfl k) ?_
        show OGo p e below _ T (mkF m 366 #[.val (.int len), .val (.int mode), .val (.long a), .second, .val (.long b), .second, .val (.int (Int32.ofNat (n))), .val (.int s7), .val (.int br), .val (.ref b122), .val (.ref b163), .unset, .unset, .unset, .unset, .unset, .unset, .unset] [(.int mode)])
        refine og (fun _ k => XS.bipush X.here hx rfl (hb hby at_366) k) ?_
        show OGo p e below _ T (mkF m 368 #[.val (.int len), .val (.int mode), .val (.long a), .second, .val (.long b), .second, .val (.int (Int32.ofNat (n))), .val (.int s7), .val (.int br), .val (.ref b122), .val (.ref b163), .unset, .unset, .unset, .unset, .unset, .unset, .unset] [(.int (20 : Int32)), (.int mode)])
        refine og (fun _ k => XS.iushr X.here hx rfl (hb hby at_368) rfl k) ?_
        show OGo p e below _ T (mkF m 369 #[.val (.int len), .val (.int mode), .val (.long a), .second, .val (.long b), .second, .val (.int (Int32.ofNat (n))), .val (.int s7), .val (.int br), .val (.ref b122), .val (.ref b163), .unset, .unset, .unset, .unset, .unset, .unset, .unset] [(.int ((mode.toUInt32 >>> ((20 : Int32) &&& 31).toUInt32).toInt32))])
        refine og (fun _ k => XS.iconst X.here hx rfl (hb hby at_369) k) ?_
        show OGo p e below _ T (mkF m 370 #[.val (.int len), .val (.int mode), .val (.long a), .second, .val (.long b), .second, .val (.int (Int32.ofNat (n))), .val (.int s7), .val (.int br), .val (.ref b122), .val (.ref b163), .unset, .unset, .unset, .unset, .unset, .unset, .unset] [(.int (3 : Int32)), (.int ((mode.toUInt32 >>> ((20 : Int32) &&& 31).toUInt32).toInt32))])
        refine og (fun _ k => XS.iand X.here hx rfl (hb hby at_370) rfl k) ?_
        show OGo p e below _ T (mkF m 371 #[.val (.int len), .val (.int mode), .val (.long a), .second, .val (.long b), .second, .val (.int (Int32.ofNat (n))), .val (.int s7), .val (.int br), .val (.ref b122), .val (.ref b163), .unset, .unset, .unset, .unset, .unset, .unset, .unset] [(.int (((mode.toUInt32 >>> ((20 : Int32) &&& 31).toUInt32).toInt32) &&& (3 : Int32)))])
        refine og (fun _ k => XS.iconst X.here hx rfl (hb hby at_371) k) ?_
        show OGo p e below _ T (mkF m 372 #[.val (.int len), .val (.int mode), .val (.long a), .second, .val (.long b), .second, .val (.int (Int32.ofNat (n))), .val (.int s7), .val (.int br), .val (.ref b122), .val (.ref b163), .unset, .unset, .unset, .unset, .unset, .unset, .unset] [(.int (3 : Int32)), (.int (((mode.toUInt32 >>> ((20 : Int32) &&& 31).toUInt32).toInt32) &&& (3 : Int32)))])
        by_cases qn : (((mode.toUInt32 >>> ((20 : Int32) &&& 31).toUInt32).toInt32) &&& (3 : Int32)) = 3
        case pos =>
          refine og (fun _ k => XS.icmpNo X.here hx rfl (hb hby at_372) rfl (teq qn).2 k) ?_
          show OGo p e below _ T (mkF m 375 #[.val (.int len), .val (.int mode), .val (.long a), .second, .val (.long b), .second, .val (.int (Int32.ofNat (n))), .val (.int s7), .val (.int br), .val (.ref b122), .val (.ref b163), .unset, .unset, .unset, .unset, .unset, .unset, .unset] [])
          refine og (fun _ k => XS.iconst X.here hx rfl (hb hby at_375) k) ?_
          show OGo p e below _ T (mkF m 376 #[.val (.int len), .val (.int mode), .val (.long a), .second, .val (.long b), .second, .val (.int (Int32.ofNat (n))), .val (.int s7), .val (.int br), .val (.ref b122), .val (.ref b163), .unset, .unset, .unset, .unset, .unset, .unset, .unset] [(.int (1 : Int32))])
          refine og (fun _ k => XS.goto X.here hx rfl (pc0 := 376) (pc' := 380) rfl (hb hby at_376) (by decide) (by decide) k) ?_
          show OGo p e below _ T (mkF m 380 #[.val (.int len), .val (.int mode), .val (.long a), .second, .val (.long b), .second, .val (.int (Int32.ofNat (n))), .val (.int s7), .val (.int br), .val (.ref b122), .val (.ref b163), .unset, .unset, .unset, .unset, .unset, .unset, .unset] [(.int (1 : Int32))])
          refine og (fun _ k => XS.istore X.here hx rfl (hb hby at_380) rfl (l' := #[.val (.int len), .val (.int mode), .val (.long a), .second, .val (.long b), .second, .val (.int (Int32.ofNat (n))), .val (.int s7), .val (.int br), .val (.ref b122), .val (.ref b163), .val (.int (1 : Int32)), .unset, .unset, .unset, .unset, .unset, .unset]) rfl k) ?_
          show OGo p e below _ T (mkF m 382 #[.val (.int len), .val (.int mode), .val (.long a), .second, .val (.long b), .second, .val (.int (Int32.ofNat (n))), .val (.int s7), .val (.int br), .val (.ref b122), .val (.ref b163), .val (.int (1 : Int32)), .unset, .unset, .unset, .unset, .unset, .unset] [])
          refine og (fun _ k => XS.iload X.here hx rfl (hb hby at_382) rfl k) ?_
          show OGo p e below _ T (mkF m 384 #[.val (.int len), .val (.int mode), .val (.long a), .second, .val (.long b), .second, .val (.int (Int32.ofNat (n))), .val (.int s7), .val (.int br), .val (.ref b122), .val (.ref b163), .val (.int (1 : Int32)), .unset, .unset, .unset, .unset, .unset, .unset] [(.int (1 : Int32))])
          refine og (fun _ k => XS.ifNo X.here hx rfl (hb hby at_384) rfl ((if0 _ _).trans (feq (by decide : ¬ (1 : Int32) = 0)).1) k) ?_
          show OGo p e below _ T (mkF m 387 #[.val (.int len), .val (.int mode), .val (.long a), .second, .val (.long b), .second, .val (.int (Int32.ofNat (n))), .val (.int s7), .val (.int br), .val (.ref b122), .val (.ref b163), .val (.int (1 : Int32)), .unset, .unset, .unset, .unset, .unset, .unset] [])
          refine og (fun _ k => XS.aconstNull X.here hx rfl (hb hby at_387) k) ?_
          show OGo p e below _ T (mkF m 388 #[.val (.int len), .val (.int mode), .val (.long a), .second, .val (.long b), .second, .val (.int (Int32.ofNat (n))), .val (.int s7), .val (.int br), .val (.ref b122), .val (.ref b163), .val (.int (1 : Int32)), .unset, .unset, .unset, .unset, .unset, .unset] [.null])
          refine og (fun _ k => XS.goto X.here hx rfl (pc0 := 388) (pc' := 400) rfl (hb hby at_388) (by decide) (by decide) k) ?_
          show OGo p e below _ T (mkF m 400 #[.val (.int len), .val (.int mode), .val (.long a), .second, .val (.long b), .second, .val (.int (Int32.ofNat (n))), .val (.int s7), .val (.int br), .val (.ref b122), .val (.ref b163), .val (.int (1 : Int32)), .unset, .unset, .unset, .unset, .unset, .unset] [.null])
          refine og (fun _ k => XS.astore X.here hx rfl (hb hby at_400) rfl rfl (l' := #[.val (.int len), .val (.int mode), .val (.long a), .second, .val (.long b), .second, .val (.int (Int32.ofNat (n))), .val (.int s7), .val (.int br), .val (.ref b122), .val (.ref b163), .val (.int (1 : Int32)), .val .null, .unset, .unset, .unset, .unset, .unset]) rfl k) ?_
          show OGo p e below _ T (mkF m 402 #[.val (.int len), .val (.int mode), .val (.long a), .second, .val (.long b), .second, .val (.int (Int32.ofNat (n))), .val (.int s7), .val (.int br), .val (.ref b122), .val (.ref b163), .val (.int (1 : Int32)), .val .null, .unset, .unset, .unset, .unset, .unset] [])
          refine og (fun _ k => XS.aload X.here hx rfl (hb hby at_402) rfl rfl k) ?_
          show OGo p e below _ T (mkF m 404 #[.val (.int len), .val (.int mode), .val (.long a), .second, .val (.long b), .second, .val (.int (Int32.ofNat (n))), .val (.int s7), .val (.int br), .val (.ref b122), .val (.ref b163), .val (.int (1 : Int32)), .val .null, .unset, .unset, .unset, .unset, .unset] [.null])
          obtain ⟨v165, T165, L165, kk165, X165, hS165, hk165, hZ165, hown165, CR165, hQ165, st165⟩ := scallH X hx hZ143 hown143 (own_hEL hw) hS143 hk1 H1 (own_g hw 58 rfl) (own_g hw 59 rfl) (own_g hw 60 rfl) (own_g hw 61 rfl) (by decide) (W := 0) (rm_ptN l Z a0 hw [] zc wf n0 h SS' O1) eT (by decide) (by decide) (by decide) (by decide) (g := (mkF m 404 #[.val (.int len), .val (.int mode), .val (.long a), .second, .val (.long b), .second, .val (.int (Int32.ofNat (n))), .val (.int s7), .val (.int br), .val (.ref b122), .val (.ref b163), .val (.int (1 : Int32)), .val .null, .unset, .unset, .unset, .unset, .unset] [.null])) rfl (by rw [hml]; rfl) (argsL := [.null]) (rest := []) opd_30 rfl rfl rfl (by show 2 * 0 + _ ≤ _; exact Nat.le_of_eq rfl) (hb hby at_404)
          obtain ⟨rfl, N165, K165⟩ := hQ165
          have NN165 := Fr.app N N165
          have KK165 : Keep h0 T165.heap [] := K.trans K165 all0
          have H165 := CR165.1
          have R165 := CHr.trans R1 CR165
          refine og st165 ?_
          show OGo p e below _ T165 (mkF m 407 #[.val (.int len), .val (.int mode), .val (.long a), .second, .val (.long b), .second, .val (.int (Int32.ofNat (n))), .val (.int s7), .val (.int br), .val (.ref b122), .val (.ref b163), .val (.int (1 : Int32)), .val .null, .unset, .unset, .unset, .unset, .unset] [.null])
          refine og (fun _ k => XS.astore X165.here hx rfl (hb hby at_407) rfl rfl (l' := #[.val (.int len), .val (.int mode), .val (.long a), .second, .val (.long b), .second, .val (.int (Int32.ofNat (n))), .val (.int s7), .val (.int br), .val (.ref b122), .val (.ref b163), .val (.int (1 : Int32)), .val .null, .val .null, .unset, .unset, .unset, .unset]) rfl k) ?_
          show OGo p e below _ T165 (mkF m 409 #[.val (.int len), .val (.int mode), .val (.long a), .second, .val (.long b), .second, .val (.int (Int32.ofNat (n))), .val (.int s7), .val (.int br), .val (.ref b122), .val (.ref b163), .val (.int (1 : Int32)), .val .null, .val .null, .unset, .unset, .unset, .unset] [])
          refine og (fun _ k => XS.iload X165.here hx rfl (hb hby at_409) rfl k) ?_
          show OGo p e below _ T165 (mkF m 411 #[.val (.int len), .val (.int mode), .val (.long a), .second, .val (.long b), .second, .val (.int (Int32.ofNat (n))), .val (.int s7), .val (.int br), .val (.ref b122), .val (.ref b163), .val (.int (1 : Int32)), .val .null, .val .null, .unset, .unset, .unset, .unset] [(.int (1 : Int32))])
          refine og (fun _ k => XS.ifNo X165.here hx rfl (hb hby at_411) rfl ((if0 _ _).trans (feq (by decide : ¬ (1 : Int32) = 0)).1) k) ?_
          show OGo p e below _ T165 (mkF m 414 #[.val (.int len), .val (.int mode), .val (.long a), .second, .val (.long b), .second, .val (.int (Int32.ofNat (n))), .val (.int s7), .val (.int br), .val (.ref b122), .val (.ref b163), .val (.int (1 : Int32)), .val .null, .val .null, .unset, .unset, .unset, .unset] [])
          refine og (fun _ k => XS.aload X165.here hx rfl (hb hby at_414) rfl rfl k) ?_
          show OGo p e below _ T165 (mkF m 416 #[.val (.int len), .val (.int mode), .val (.long a), .second, .val (.long b), .second, .val (.int (Int32.ofNat (n))), .val (.int s7), .val (.int br), .val (.ref b122), .val (.ref b163), .val (.int (1 : Int32)), .val .null, .val .null, .unset, .unset, .unset, .unset] [.null])
          refine og (fun _ k => XS.ifnonnullNo X165.here hx rfl (hb hby at_416) rfl k) ?_
          show OGo p e below _ T165 (mkF m 419 #[.val (.int len), .val (.int mode), .val (.long a), .second, .val (.long b), .second, .val (.int (Int32.ofNat (n))), .val (.int s7), .val (.int br), .val (.ref b122), .val (.ref b163), .val (.int (1 : Int32)), .val .null, .val .null, .unset, .unset, .unset, .unset] [])
          refine og (fun _ k => XS.iconst X165.here hx rfl (hb hby at_419) k) ?_
          show OGo p e below _ T165 (mkF m 420 #[.val (.int len), .val (.int mode), .val (.long a), .second, .val (.long b), .second, .val (.int (Int32.ofNat (n))), .val (.int s7), .val (.int br), .val (.ref b122), .val (.ref b163), .val (.int (1 : Int32)), .val .null, .val .null, .unset, .unset, .unset, .unset] [(.int (1 : Int32))])
          refine og (fun _ k => XS.goto X165.here hx rfl (pc0 := 420) (pc' := 424) rfl (hb hby at_420) (by decide) (by decide) k) ?_
          show OGo p e below _ T165 (mkF m 424 #[.val (.int len), .val (.int mode), .val (.long a), .second, .val (.long b), .second, .val (.int (Int32.ofNat (n))), .val (.int s7), .val (.int br), .val (.ref b122), .val (.ref b163), .val (.int (1 : Int32)), .val .null, .val .null, .unset, .unset, .unset, .unset] [(.int (1 : Int32))])
          exact OGo.retH X165 hx hZ165 (own_hEL hw) hs0 rfl hS165 hk165 H165 R165 (t := .boolean) hret hlk rfl (Or.inl ⟨rfl, by simp, _, rfl⟩) (hb hby at_424) (by decide) (by decide) ⟨rfl, NN165⟩
        refine og (fun _ k => XS.icmpYes X.here hx rfl (pc0 := 372) (pc' := 379) rfl (hb hby at_372) rfl (feq qn).2 (by decide) (by decide) k) ?_
        show OGo p e below _ T (mkF m 379 #[.val (.int len), .val (.int mode), .val (.long a), .second, .val (.long b), .second, .val (.int (Int32.ofNat (n))), .val (.int s7), .val (.int br), .val (.ref b122), .val (.ref b163), .unset, .unset, .unset, .unset, .unset, .unset, .unset] [])
        refine og (fun _ k => XS.iconst X.here hx rfl (hb hby at_379) k) ?_
        show OGo p e below _ T (mkF m 380 #[.val (.int len), .val (.int mode), .val (.long a), .second, .val (.long b), .second, .val (.int (Int32.ofNat (n))), .val (.int s7), .val (.int br), .val (.ref b122), .val (.ref b163), .unset, .unset, .unset, .unset, .unset, .unset, .unset] [(.int (0 : Int32))])
        refine og (fun _ k => XS.istore X.here hx rfl (hb hby at_380) rfl (l' := #[.val (.int len), .val (.int mode), .val (.long a), .second, .val (.long b), .second, .val (.int (Int32.ofNat (n))), .val (.int s7), .val (.int br), .val (.ref b122), .val (.ref b163), .val (.int (0 : Int32)), .unset, .unset, .unset, .unset, .unset, .unset]) rfl k) ?_
        show OGo p e below _ T (mkF m 382 #[.val (.int len), .val (.int mode), .val (.long a), .second, .val (.long b), .second, .val (.int (Int32.ofNat (n))), .val (.int s7), .val (.int br), .val (.ref b122), .val (.ref b163), .val (.int (0 : Int32)), .unset, .unset, .unset, .unset, .unset, .unset] [])
        refine og (fun _ k => XS.iload X.here hx rfl (hb hby at_382) rfl k) ?_
        show OGo p e below _ T (mkF m 384 #[.val (.int len), .val (.int mode), .val (.long a), .second, .val (.long b), .second, .val (.int (Int32.ofNat (n))), .val (.int s7), .val (.int br), .val (.ref b122), .val (.ref b163), .val (.int (0 : Int32)), .unset, .unset, .unset, .unset, .unset, .unset] [(.int (0 : Int32))])
        refine og (fun _ k => XS.ifYes X.here hx rfl (pc0 := 384) (pc' := 391) rfl (hb hby at_384) rfl ((if0 _ _).trans (teq (rfl : (0 : Int32) = 0)).1) (by decide) (by decide) k) ?_
        show OGo p e below _ T (mkF m 391 #[.val (.int len), .val (.int mode), .val (.long a), .second, .val (.long b), .second, .val (.int (Int32.ofNat (n))), .val (.int s7), .val (.int br), .val (.ref b122), .val (.ref b163), .val (.int (0 : Int32)), .unset, .unset, .unset, .unset, .unset, .unset] [])
        obtain ⟨T166, h166, X166, e166, E166, A166, D166, UN166, st166⟩ := newO X hx hZ143 hown143 (own_g hw 46 rfl) (own_g hw 12 rfl) (own_g hw 11 rfl) eT (g := (mkF m 391 #[.val (.int len), .val (.int mode), .val (.long a), .second, .val (.long b), .second, .val (.int (Int32.ofNat (n))), .val (.int s7), .val (.int br), .val (.ref b122), .val (.ref b163), .val (.int (0 : Int32)), .unset, .unset, .unset, .unset, .unset, .unset] [])) rfl (hb hby at_391) (by decide) (by decide)
        obtain ⟨b166, g166⟩ : ∃ z, z = h.size := ⟨_, rfl⟩
        rw [← g166] at A166 D166 UN166 st166
        have sz_b166 : h0.size ≤ b166 := Nat.le_trans K.1 (Nat.le_of_eq g166.symm)
        have KK166 : Keep h0 h166 [] := K.ext E166
        have H166 := CHv.ext E166 H1
        have R166 := CHr.trans R1 (CHr.ext E166 H1)
        have F166_value : Fld Z h166 b166 "java/lang/String" "value" "[B" .null := D166 (Or.inr (own_g hw 14 rfl)) (ty := (.array .byte)) (by decide)
        have F166_coder : Fld Z h166 b166 "java/lang/String" "coder" "B" (.int (0 : Int32)) := D166 (Or.inr (own_g hw 15 rfl)) (ty := .byte) (by decide)
        refine og st166 ?_
        show OGo p e below _ T166 (mkF m 394 #[.val (.int len), .val (.int mode), .val (.long a), .second, .val (.long b), .second, .val (.int (Int32.ofNat (n))), .val (.int s7), .val (.int br), .val (.ref b122), .val (.ref b163), .val (.int (0 : Int32)), .unset, .unset, .unset, .unset, .unset, .unset] [(.ref b166)])
        refine og (fun _ k => XS.dup X166.here hx rfl (hb hby at_394) rfl rfl k) ?_
        show OGo p e below _ T166 (mkF m 395 #[.val (.int len), .val (.int mode), .val (.long a), .second, .val (.long b), .second, .val (.int (Int32.ofNat (n))), .val (.int s7), .val (.int br), .val (.ref b122), .val (.ref b163), .val (.int (0 : Int32)), .unset, .unset, .unset, .unset, .unset, .unset] [(.ref b166), (.ref b166)])
        refine og (fun _ k => XS.aload X166.here hx rfl (hb hby at_395) rfl rfl k) ?_
        show OGo p e below _ T166 (mkF m 397 #[.val (.int len), .val (.int mode), .val (.long a), .second, .val (.long b), .second, .val (.int (Int32.ofNat (n))), .val (.int s7), .val (.int br), .val (.ref b122), .val (.ref b163), .val (.int (0 : Int32)), .unset, .unset, .unset, .unset, .unset, .unset] [(.ref b163), (.ref b166), (.ref b166)])
        by_cases q0 : n = 0
        case pos =>
          have hds0 : ds = [] := List.eq_nil_of_length_eq_zero (by omega)
          have V0 : Arv Z h166 b163 k163 .char (0 : Int32) (ds.map Value.int) (.int (0 : Int32)) := by have q := (Vd.ext E166); rw [hdl, q0] at q; exact q
          obtain ⟨v167, T167, L167, kk167, X167, hS167, hk167, hZ167, hown167, CR167, hQ167, st167⟩ := icallH X166 hx hZ143 rfl hown143 (own_hEL hw) hS143 (Nat.le_trans hk1 E166.1) H166 (own_g hw 47 rfl) (own_g hw 48 rfl) (own_g hw 11 rfl) (own_g hw 49 rfl) (by decide) (W := 1) (rm_new1e l Z a0 hw [] b166 b163 k163 (ds.map Value.int) zc wf n0 h166 SS' (O1.ext E166) A166 F166_coder F166_value (Nat.le_trans Z0 sz_b166) V0) e166 (by decide) (by decide) (by decide) (by decide) (g := (mkF m 397 #[.val (.int len), .val (.int mode), .val (.long a), .second, .val (.long b), .second, .val (.int (Int32.ofNat (n))), .val (.int s7), .val (.int br), .val (.ref b122), .val (.ref b163), .val (.int (0 : Int32)), .unset, .unset, .unset, .unset, .unset, .unset] [(.ref b163), (.ref b166), (.ref b166)])) rfl (by rw [hml]; rfl) (a := b166) (argsL := [(.ref b163)]) (rest := [(.ref b166)]) opd_31 rfl rfl rfl (by show 2 * 0 + _ ≤ _; exact Nat.le_of_eq rfl) (hb hby at_397)
          obtain ⟨rfl, N167, K167, r167, kr167, I167⟩ := hQ167
          have NN167 := Fr.app N N167
          have KK167 : Keep h0 T167.heap [] := KK166.trans K167 (allS (Or.inr sz_b166) all0)
          have H167 := CR167.1
          have R167 := CHr.trans R166 CR167
          refine og st167 ?_
          show OGo p e below _ T167 (mkF m 400 #[.val (.int len), .val (.int mode), .val (.long a), .second, .val (.long b), .second, .val (.int (Int32.ofNat (n))), .val (.int s7), .val (.int br), .val (.ref b122), .val (.ref b163), .val (.int (0 : Int32)), .unset, .unset, .unset, .unset, .unset, .unset] [(.ref b166)])
          refine og (fun _ k => XS.astore X167.here hx rfl (hb hby at_400) rfl rfl (l' := #[.val (.int len), .val (.int mode), .val (.long a), .second, .val (.long b), .second, .val (.int (Int32.ofNat (n))), .val (.int s7), .val (.int br), .val (.ref b122), .val (.ref b163), .val (.int (0 : Int32)), .val (.ref b166), .unset, .unset, .unset, .unset, .unset]) rfl k) ?_
          show OGo p e below _ T167 (mkF m 402 #[.val (.int len), .val (.int mode), .val (.long a), .second, .val (.long b), .second, .val (.int (Int32.ofNat (n))), .val (.int s7), .val (.int br), .val (.ref b122), .val (.ref b163), .val (.int (0 : Int32)), .val (.ref b166), .unset, .unset, .unset, .unset, .unset] [])
          refine og (fun _ k => XS.aload X167.here hx rfl (hb hby at_402) rfl rfl k) ?_
          show OGo p e below _ T167 (mkF m 404 #[.val (.int len), .val (.int mode), .val (.long a), .second, .val (.long b), .second, .val (.int (Int32.ofNat (n))), .val (.int s7), .val (.int br), .val (.ref b122), .val (.ref b163), .val (.int (0 : Int32)), .val (.ref b166), .unset, .unset, .unset, .unset, .unset] [(.ref b166)])
          have hnp : ¬ own_pres ([] : List Int32) := fun h => absurd h.1 (by decide)
          have q168 := ((O1.ext E166).keep K167 (allS (Nat.le_trans Z0 sz_b166) all0))
          obtain ⟨v169, T169, L169, kk169, X169, hS169, hk169, hZ169, hown169, CR169, hQ169, st169⟩ := scallH X167 hx hZ167 hown167 (own_hEL hw) hS167 hk167 H167 (own_g hw 58 rfl) (own_g hw 59 rfl) (own_g hw 60 rfl) (own_g hw 61 rfl) (by decide) (W := 0) (rm_pt l Z a0 hw [] b166 r167 kr167 [] zc wf n0 ic dA kA T167.heap SS' q168 SCk I167 own_ok0 (by decide)) rfl (by decide) (by decide) (by decide) (by decide) (g := (mkF m 404 #[.val (.int len), .val (.int mode), .val (.long a), .second, .val (.long b), .second, .val (.int (Int32.ofNat (n))), .val (.int s7), .val (.int br), .val (.ref b122), .val (.ref b163), .val (.int (0 : Int32)), .val (.ref b166), .unset, .unset, .unset, .unset, .unset] [(.ref b166)])) rfl (by rw [hml]; rfl) (argsL := [(.ref b166)]) (rest := []) opd_30 rfl rfl rfl (by show 2 * 0 + _ ≤ _; exact Nat.le_of_eq rfl) (hb hby at_404)
          obtain ⟨N169, K169, hP169⟩ := hQ169
          obtain ⟨-, rfl⟩ := hP169.resolve_right (fun q => hnp q.1)
          have NN169 := Fr.app NN167 N169
          have KK169 : Keep h0 T169.heap [] := KK167.trans K169 all0
          have H169 := CR169.1
          have R169 := CHr.trans R167 CR169
          refine og st169 ?_
          show OGo p e below _ T169 (mkF m 407 #[.val (.int len), .val (.int mode), .val (.long a), .second, .val (.long b), .second, .val (.int (Int32.ofNat (n))), .val (.int s7), .val (.int br), .val (.ref b122), .val (.ref b163), .val (.int (0 : Int32)), .val (.ref b166), .unset, .unset, .unset, .unset, .unset] [.null])
          refine og (fun _ k => XS.astore X169.here hx rfl (hb hby at_407) rfl rfl (l' := #[.val (.int len), .val (.int mode), .val (.long a), .second, .val (.long b), .second, .val (.int (Int32.ofNat (n))), .val (.int s7), .val (.int br), .val (.ref b122), .val (.ref b163), .val (.int (0 : Int32)), .val (.ref b166), .val .null, .unset, .unset, .unset, .unset]) rfl k) ?_
          show OGo p e below _ T169 (mkF m 409 #[.val (.int len), .val (.int mode), .val (.long a), .second, .val (.long b), .second, .val (.int (Int32.ofNat (n))), .val (.int s7), .val (.int br), .val (.ref b122), .val (.ref b163), .val (.int (0 : Int32)), .val (.ref b166), .val .null, .unset, .unset, .unset, .unset] [])
          refine og (fun _ k => XS.iload X169.here hx rfl (hb hby at_409) rfl k) ?_
          show OGo p e below _ T169 (mkF m 411 #[.val (.int len), .val (.int mode), .val (.long a), .second, .val (.long b), .second, .val (.int (Int32.ofNat (n))), .val (.int s7), .val (.int br), .val (.ref b122), .val (.ref b163), .val (.int (0 : Int32)), .val (.ref b166), .val .null, .unset, .unset, .unset, .unset] [(.int (0 : Int32))])
          refine og (fun _ k => XS.ifYes X169.here hx rfl (pc0 := 411) (pc' := 425) rfl (hb hby at_411) rfl ((if0 _ _).trans (teq (rfl : (0 : Int32) = 0)).1) (by decide) (by decide) k) ?_
          show OGo p e below _ T169 (mkF m 425 #[.val (.int len), .val (.int mode), .val (.long a), .second, .val (.long b), .second, .val (.int (Int32.ofNat (n))), .val (.int s7), .val (.int br), .val (.ref b122), .val (.ref b163), .val (.int (0 : Int32)), .val (.ref b166), .val .null, .unset, .unset, .unset, .unset] [])
          refine og (fun _ k => XS.iload X169.here hx rfl (hb hby at_425) rfl k) ?_
          show OGo p e below _ T169 (mkF m 427 #[.val (.int len), .val (.int mode), .val (.long a), .second, .val (.long b), .second, .val (.int (Int32.ofNat (n))), .val (.int s7), .val (.int br), .val (.ref b122), .val (.ref b163), .val (.int (0 : Int32)), .val (.ref b166), .val .null, .unset, .unset, .unset, .unset] [(.int (Int32.ofNat (n)))])
          refine og (fun _ k => XS.bipush X169.here hx rfl (hb hby at_427) k) ?_
          show OGo p e below _ T169 (mkF m 429 #[.val (.int len), .val (.int mode), .val (.long a), .second, .val (.long b), .second, .val (.int (Int32.ofNat (n))), .val (.int s7), .val (.int br), .val (.ref b122), .val (.ref b163), .val (.int (0 : Int32)), .val (.ref b166), .val .null, .unset, .unset, .unset, .unset] [(.int (6 : Int32)), (.int (Int32.ofNat (n)))])
          refine og (fun _ k => XS.icmpYes X169.here hx rfl (pc0 := 429) (pc' := 512) rfl (hb hby at_429) rfl (flt (fun h => by have := (own_lt (a := 6) (by decide) (by omega)).mp h; omega)).2.2.2 (by decide) (by decide) k) ?_
          show OGo p e below _ T169 (mkF m 512 #[.val (.int len), .val (.int mode), .val (.long a), .second, .val (.long b), .second, .val (.int (Int32.ofNat (n))), .val (.int s7), .val (.int br), .val (.ref b122), .val (.ref b163), .val (.int (0 : Int32)), .val (.ref b166), .val .null, .unset, .unset, .unset, .unset] [])
          refine og (fun _ k => XS.iconst X169.here hx rfl (hb hby at_512) k) ?_
          show OGo p e below _ T169 (mkF m 513 #[.val (.int len), .val (.int mode), .val (.long a), .second, .val (.long b), .second, .val (.int (Int32.ofNat (n))), .val (.int s7), .val (.int br), .val (.ref b122), .val (.ref b163), .val (.int (0 : Int32)), .val (.ref b166), .val .null, .unset, .unset, .unset, .unset] [(.int (0 : Int32))])
          refine og (fun _ k => XS.istore X169.here hx rfl (hb hby at_513) rfl (l' := #[.val (.int len), .val (.int mode), .val (.long a), .second, .val (.long b), .second, .val (.int (Int32.ofNat (n))), .val (.int s7), .val (.int br), .val (.ref b122), .val (.ref b163), .val (.int (0 : Int32)), .val (.ref b166), .val .null, .val (.int (0 : Int32)), .unset, .unset, .unset]) rfl k) ?_
          show OGo p e below _ T169 (mkF m 515 #[.val (.int len), .val (.int mode), .val (.long a), .second, .val (.long b), .second, .val (.int (Int32.ofNat (n))), .val (.int s7), .val (.int br), .val (.ref b122), .val (.ref b163), .val (.int (0 : Int32)), .val (.ref b166), .val .null, .val (.int (0 : Int32)), .unset, .unset, .unset] [])
          refine og (fun _ k => XS.iload X169.here hx rfl (hb hby at_515) rfl k) ?_
          show OGo p e below _ T169 (mkF m 517 #[.val (.int len), .val (.int mode), .val (.long a), .second, .val (.long b), .second, .val (.int (Int32.ofNat (n))), .val (.int s7), .val (.int br), .val (.ref b122), .val (.ref b163), .val (.int (0 : Int32)), .val (.ref b166), .val .null, .val (.int (0 : Int32)), .unset, .unset, .unset] [(.int (0 : Int32))])
          refine og (fun _ k => XS.ifNo X169.here hx rfl (hb hby at_517) rfl ((if0 _ _).trans (teq (rfl : (0 : Int32) = 0)).2) k) ?_
          show OGo p e below _ T169 (mkF m 520 #[.val (.int len), .val (.int mode), .val (.long a), .second, .val (.long b), .second, .val (.int (Int32.ofNat (n))), .val (.int s7), .val (.int br), .val (.ref b122), .val (.ref b163), .val (.int (0 : Int32)), .val (.ref b166), .val .null, .val (.int (0 : Int32)), .unset, .unset, .unset] [])
          refine og (fun _ k => XS.aload X169.here hx rfl (hb hby at_520) rfl rfl k) ?_
          show OGo p e below _ T169 (mkF m 522 #[.val (.int len), .val (.int mode), .val (.long a), .second, .val (.long b), .second, .val (.int (Int32.ofNat (n))), .val (.int s7), .val (.int br), .val (.ref b122), .val (.ref b163), .val (.int (0 : Int32)), .val (.ref b166), .val .null, .val (.int (0 : Int32)), .unset, .unset, .unset] [.null])
          refine og (fun _ k => XS.ifnonnullNo X169.here hx rfl (hb hby at_522) rfl k) ?_
          show OGo p e below _ T169 (mkF m 525 #[.val (.int len), .val (.int mode), .val (.long a), .second, .val (.long b), .second, .val (.int (Int32.ofNat (n))), .val (.int s7), .val (.int br), .val (.ref b122), .val (.ref b163), .val (.int (0 : Int32)), .val (.ref b166), .val .null, .val (.int (0 : Int32)), .unset, .unset, .unset] [])
          refine og (fun _ k => XS.iconst X169.here hx rfl (hb hby at_525) k) ?_
          show OGo p e below _ T169 (mkF m 526 #[.val (.int len), .val (.int mode), .val (.long a), .second, .val (.long b), .second, .val (.int (Int32.ofNat (n))), .val (.int s7), .val (.int br), .val (.ref b122), .val (.ref b163), .val (.int (0 : Int32)), .val (.ref b166), .val .null, .val (.int (0 : Int32)), .unset, .unset, .unset] [(.int (1 : Int32))])
          refine og (fun _ k => XS.goto X169.here hx rfl (pc0 := 526) (pc' := 530) rfl (hb hby at_526) (by decide) (by decide) k) ?_
          show OGo p e below _ T169 (mkF m 530 #[.val (.int len), .val (.int mode), .val (.long a), .second, .val (.long b), .second, .val (.int (Int32.ofNat (n))), .val (.int s7), .val (.int br), .val (.ref b122), .val (.ref b163), .val (.int (0 : Int32)), .val (.ref b166), .val .null, .val (.int (0 : Int32)), .unset, .unset, .unset] [(.int (1 : Int32))])
          exact OGo.retH X169 hx hZ169 (own_hEL hw) hs0 rfl hS169 hk169 H169 R169 (t := .boolean) hret hlk rfl (Or.inl ⟨rfl, by simp, _, rfl⟩) (hb hby at_530) (by decide) (by decide) ⟨rfl, NN169⟩
        have ne170 : b163 ≠ b166 := (Nat.ne_of_lt (Nat.lt_of_lt_of_le Vd.lt (Nat.le_of_eq g166.symm)))
        have q171 := (Safe.ext E166 H1 (Safe.new (Nat.le_of_eq g166.symm)))
        obtain ⟨v172, T172, L172, X172, hQ172, st172⟩ := icall X166 hx hZ143 rfl hown143 (own_g hw 47 rfl) (own_g hw 48 rfl) (own_g hw 11 rfl) (own_g hw 49 rfl) (by decide) (W := 1) (rm_new1 l Z a0 hw [] b166 b163 k163 ds zc wf n0 h166 SS' (O1.ext E166) (Vd.ext E166) hokd (by omega) (by omega) A166 F166_coder F166_value (Nat.le_trans Z0 sz_b166) (fun h => q0 (by have e1 := congrArg Int32.toInt h; rw [own_toInt (by omega)] at e1; have e0 : (0 : Int32).toInt = 0 := rfl; omega)) ne170) e166 (by decide) (by decide) (by decide) (by decide) (g := (mkF m 397 #[.val (.int len), .val (.int mode), .val (.long a), .second, .val (.long b), .second, .val (.int (Int32.ofNat (n))), .val (.int s7), .val (.int br), .val (.ref b122), .val (.ref b163), .val (.int (0 : Int32)), .unset, .unset, .unset, .unset, .unset, .unset] [(.ref b163), (.ref b166), (.ref b166)])) rfl (by rw [hml]; rfl) (a := b166) (argsL := [(.ref b163)]) (rest := [(.ref b166)]) opd_31 rfl rfl rfl (by show 2 * 0 + _ ≤ _; exact Nat.le_of_eq rfl) (hb hby at_397)
        obtain ⟨rfl, N172, K172, r172, kr172, sr172, I172⟩ := hQ172
        have NN172 := Fr.app N N172
        have KK172 : Keep h0 T172.heap [] := KK166.trans K172 (allS (Or.inr sz_b166) all0)
        have H172 := CHv.keep K172 (sfS q171 sf0) H166
        have R172 := CHr.trans R166 (CHr.keep K172 (sfS q171 sf0) H166)
        have sz_r172 : h0.size ≤ r172 := Nat.le_trans KK166.1 sr172
        refine og st172 ?_
        show OGo p e below _ T172 (mkF m 400 #[.val (.int len), .val (.int mode), .val (.long a), .second, .val (.long b), .second, .val (.int (Int32.ofNat (n))), .val (.int s7), .val (.int br), .val (.ref b122), .val (.ref b163), .val (.int (0 : Int32)), .unset, .unset, .unset, .unset, .unset, .unset] [(.ref b166)])
        obtain ⟨IE172, IC172, IF172, IV172⟩ := I172
        refine og (fun _ k => XS.astore X172.here hx rfl (hb hby at_400) rfl rfl (l' := #[.val (.int len), .val (.int mode), .val (.long a), .second, .val (.long b), .second, .val (.int (Int32.ofNat (n))), .val (.int s7), .val (.int br), .val (.ref b122), .val (.ref b163), .val (.int (0 : Int32)), .val (.ref b166), .unset, .unset, .unset, .unset, .unset]) rfl k) ?_
        show OGo p e below _ T172 (mkF m 402 #[.val (.int len), .val (.int mode), .val (.long a), .second, .val (.long b), .second, .val (.int (Int32.ofNat (n))), .val (.int s7), .val (.int br), .val (.ref b122), .val (.ref b163), .val (.int (0 : Int32)), .val (.ref b166), .unset, .unset, .unset, .unset, .unset] [])
        refine og (fun _ k => XS.aload X172.here hx rfl (hb hby at_402) rfl rfl k) ?_
        show OGo p e below _ T172 (mkF m 404 #[.val (.int len), .val (.int mode), .val (.long a), .second, .val (.long b), .second, .val (.int (Int32.ofNat (n))), .val (.int s7), .val (.int br), .val (.ref b122), .val (.ref b163), .val (.int (0 : Int32)), .val (.ref b166), .unset, .unset, .unset, .unset, .unset] [(.ref b166)])
        by_cases hp : own_pres ds
        case neg =>
          have q173 := ((O1.ext E166).keep K172 (allS (Nat.le_trans Z0 sz_b166) all0))
          obtain ⟨v174, T174, L174, kk174, X174, hS174, hk174, hZ174, hown174, CR174, hQ174, st174⟩ := scallH X172 hx hZ143 hown143 (own_hEL hw) hS143 (Nat.le_trans (Nat.le_trans hk1 E166.1) K172.1) H172 (own_g hw 58 rfl) (own_g hw 59 rfl) (own_g hw 60 rfl) (own_g hw 61 rfl) (by decide) (W := 0) (rm_pt l Z a0 hw [] b166 r172 kr172 ds zc wf n0 ic dA kA T172.heap SS' q173 SCk ⟨IE172, IC172, IF172, IV172⟩ hokd (by omega)) rfl (by decide) (by decide) (by decide) (by decide) (g := (mkF m 404 #[.val (.int len), .val (.int mode), .val (.long a), .second, .val (.long b), .second, .val (.int (Int32.ofNat (n))), .val (.int s7), .val (.int br), .val (.ref b122), .val (.ref b163), .val (.int (0 : Int32)), .val (.ref b166), .unset, .unset, .unset, .unset, .unset] [(.ref b166)])) rfl (by rw [hml]; rfl) (argsL := [(.ref b166)]) (rest := []) opd_30 rfl rfl rfl (by show 2 * 0 + _ ≤ _; exact Nat.le_of_eq rfl) (hb hby at_404)
          obtain ⟨N174, K174, hP174⟩ := hQ174
          obtain ⟨-, rfl⟩ := hP174.resolve_right (fun q => hp q.1)
          have NN174 := Fr.app NN172 N174
          have KK174 : Keep h0 T174.heap [] := KK172.trans K174 all0
          have H174 := CR174.1
          have R174 := CHr.trans R172 CR174
          refine og st174 ?_
          show OGo p e below _ T174 (mkF m 407 #[.val (.int len), .val (.int mode), .val (.long a), .second, .val (.long b), .second, .val (.int (Int32.ofNat (n))), .val (.int s7), .val (.int br), .val (.ref b122), .val (.ref b163), .val (.int (0 : Int32)), .val (.ref b166), .unset, .unset, .unset, .unset, .unset] [.null])
          refine og (fun _ k => XS.astore X174.here hx rfl (hb hby at_407) rfl rfl (l' := #[.val (.int len), .val (.int mode), .val (.long a), .second, .val (.long b), .second, .val (.int (Int32.ofNat (n))), .val (.int s7), .val (.int br), .val (.ref b122), .val (.ref b163), .val (.int (0 : Int32)), .val (.ref b166), .val .null, .unset, .unset, .unset, .unset]) rfl k) ?_
          show OGo p e below _ T174 (mkF m 409 #[.val (.int len), .val (.int mode), .val (.long a), .second, .val (.long b), .second, .val (.int (Int32.ofNat (n))), .val (.int s7), .val (.int br), .val (.ref b122), .val (.ref b163), .val (.int (0 : Int32)), .val (.ref b166), .val .null, .unset, .unset, .unset, .unset] [])
          refine og (fun _ k => XS.iload X174.here hx rfl (hb hby at_409) rfl k) ?_
          show OGo p e below _ T174 (mkF m 411 #[.val (.int len), .val (.int mode), .val (.long a), .second, .val (.long b), .second, .val (.int (Int32.ofNat (n))), .val (.int s7), .val (.int br), .val (.ref b122), .val (.ref b163), .val (.int (0 : Int32)), .val (.ref b166), .val .null, .unset, .unset, .unset, .unset] [(.int (0 : Int32))])
          refine og (fun _ k => XS.ifYes X174.here hx rfl (pc0 := 411) (pc' := 425) rfl (hb hby at_411) rfl ((if0 _ _).trans (teq (rfl : (0 : Int32) = 0)).1) (by decide) (by decide) k) ?_
          show OGo p e below _ T174 (mkF m 425 #[.val (.int len), .val (.int mode), .val (.long a), .second, .val (.long b), .second, .val (.int (Int32.ofNat (n))), .val (.int s7), .val (.int br), .val (.ref b122), .val (.ref b163), .val (.int (0 : Int32)), .val (.ref b166), .val .null, .unset, .unset, .unset, .unset] [])
          refine og (fun _ k => XS.iload X174.here hx rfl (hb hby at_425) rfl k) ?_
          show OGo p e below _ T174 (mkF m 427 #[.val (.int len), .val (.int mode), .val (.long a), .second, .val (.long b), .second, .val (.int (Int32.ofNat (n))), .val (.int s7), .val (.int br), .val (.ref b122), .val (.ref b163), .val (.int (0 : Int32)), .val (.ref b166), .val .null, .unset, .unset, .unset, .unset] [(.int (Int32.ofNat (n)))])
          refine og (fun _ k => XS.bipush X174.here hx rfl (hb hby at_427) k) ?_
          show OGo p e below _ T174 (mkF m 429 #[.val (.int len), .val (.int mode), .val (.long a), .second, .val (.long b), .second, .val (.int (Int32.ofNat (n))), .val (.int s7), .val (.int br), .val (.ref b122), .val (.ref b163), .val (.int (0 : Int32)), .val (.ref b166), .val .null, .unset, .unset, .unset, .unset] [(.int (6 : Int32)), (.int (Int32.ofNat (n)))])
          by_cases c6 : 6 < n
          case neg =>
            refine og (fun _ k => XS.icmpYes X174.here hx rfl (pc0 := 429) (pc' := 512) rfl (hb hby at_429) rfl (flt (fun h => c6 ((own_lt (a := 6) (by decide) (by omega)).mp h))).2.2.2 (by decide) (by decide) k) ?_
            show OGo p e below _ T174 (mkF m 512 #[.val (.int len), .val (.int mode), .val (.long a), .second, .val (.long b), .second, .val (.int (Int32.ofNat (n))), .val (.int s7), .val (.int br), .val (.ref b122), .val (.ref b163), .val (.int (0 : Int32)), .val (.ref b166), .val .null, .unset, .unset, .unset, .unset] [])
            refine og (fun _ k => XS.iconst X174.here hx rfl (hb hby at_512) k) ?_
            show OGo p e below _ T174 (mkF m 513 #[.val (.int len), .val (.int mode), .val (.long a), .second, .val (.long b), .second, .val (.int (Int32.ofNat (n))), .val (.int s7), .val (.int br), .val (.ref b122), .val (.ref b163), .val (.int (0 : Int32)), .val (.ref b166), .val .null, .unset, .unset, .unset, .unset] [(.int (0 : Int32))])
            refine og (fun _ k => XS.istore X174.here hx rfl (hb hby at_513) rfl (l' := #[.val (.int len), .val (.int mode), .val (.long a), .second, .val (.long b), .second, .val (.int (Int32.ofNat (n))), .val (.int s7), .val (.int br), .val (.ref b122), .val (.ref b163), .val (.int (0 : Int32)), .val (.ref b166), .val .null, .val (.int (0 : Int32)), .unset, .unset, .unset]) rfl k) ?_
            show OGo p e below _ T174 (mkF m 515 #[.val (.int len), .val (.int mode), .val (.long a), .second, .val (.long b), .second, .val (.int (Int32.ofNat (n))), .val (.int s7), .val (.int br), .val (.ref b122), .val (.ref b163), .val (.int (0 : Int32)), .val (.ref b166), .val .null, .val (.int (0 : Int32)), .unset, .unset, .unset] [])
            refine og (fun _ k => XS.iload X174.here hx rfl (hb hby at_515) rfl k) ?_
            show OGo p e below _ T174 (mkF m 517 #[.val (.int len), .val (.int mode), .val (.long a), .second, .val (.long b), .second, .val (.int (Int32.ofNat (n))), .val (.int s7), .val (.int br), .val (.ref b122), .val (.ref b163), .val (.int (0 : Int32)), .val (.ref b166), .val .null, .val (.int (0 : Int32)), .unset, .unset, .unset] [(.int (0 : Int32))])
            refine og (fun _ k => XS.ifNo X174.here hx rfl (hb hby at_517) rfl ((if0 _ _).trans (teq (rfl : (0 : Int32) = 0)).2) k) ?_
            show OGo p e below _ T174 (mkF m 520 #[.val (.int len), .val (.int mode), .val (.long a), .second, .val (.long b), .second, .val (.int (Int32.ofNat (n))), .val (.int s7), .val (.int br), .val (.ref b122), .val (.ref b163), .val (.int (0 : Int32)), .val (.ref b166), .val .null, .val (.int (0 : Int32)), .unset, .unset, .unset] [])
            refine og (fun _ k => XS.aload X174.here hx rfl (hb hby at_520) rfl rfl k) ?_
            show OGo p e below _ T174 (mkF m 522 #[.val (.int len), .val (.int mode), .val (.long a), .second, .val (.long b), .second, .val (.int (Int32.ofNat (n))), .val (.int s7), .val (.int br), .val (.ref b122), .val (.ref b163), .val (.int (0 : Int32)), .val (.ref b166), .val .null, .val (.int (0 : Int32)), .unset, .unset, .unset] [.null])
            refine og (fun _ k => XS.ifnonnullNo X174.here hx rfl (hb hby at_522) rfl k) ?_
            show OGo p e below _ T174 (mkF m 525 #[.val (.int len), .val (.int mode), .val (.long a), .second, .val (.long b), .second, .val (.int (Int32.ofNat (n))), .val (.int s7), .val (.int br), .val (.ref b122), .val (.ref b163), .val (.int (0 : Int32)), .val (.ref b166), .val .null, .val (.int (0 : Int32)), .unset, .unset, .unset] [])
            refine og (fun _ k => XS.iconst X174.here hx rfl (hb hby at_525) k) ?_
            show OGo p e below _ T174 (mkF m 526 #[.val (.int len), .val (.int mode), .val (.long a), .second, .val (.long b), .second, .val (.int (Int32.ofNat (n))), .val (.int s7), .val (.int br), .val (.ref b122), .val (.ref b163), .val (.int (0 : Int32)), .val (.ref b166), .val .null, .val (.int (0 : Int32)), .unset, .unset, .unset] [(.int (1 : Int32))])
            refine og (fun _ k => XS.goto X174.here hx rfl (pc0 := 526) (pc' := 530) rfl (hb hby at_526) (by decide) (by decide) k) ?_
            show OGo p e below _ T174 (mkF m 530 #[.val (.int len), .val (.int mode), .val (.long a), .second, .val (.long b), .second, .val (.int (Int32.ofNat (n))), .val (.int s7), .val (.int br), .val (.ref b122), .val (.ref b163), .val (.int (0 : Int32)), .val (.ref b166), .val .null, .val (.int (0 : Int32)), .unset, .unset, .unset] [(.int (1 : Int32))])
            exact OGo.retH X174 hx hZ174 (own_hEL hw) hs0 rfl hS174 hk174 H174 R174 (t := .boolean) hret hlk rfl (Or.inl ⟨rfl, by simp, _, rfl⟩) (hb hby at_530) (by decide) (by decide) ⟨rfl, NN174⟩
          refine og (fun _ k => XS.icmpNo X174.here hx rfl (hb hby at_429) rfl (tlt (show Int32.ofNat 6 < Int32.ofNat n from (own_lt (by decide) (by omega)).mpr c6)).2.2.2 k) ?_
          show OGo p e below _ T174 (mkF m 432 #[.val (.int len), .val (.int mode), .val (.long a), .second, .val (.long b), .second, .val (.int (Int32.ofNat (n))), .val (.int s7), .val (.int br), .val (.ref b122), .val (.ref b163), .val (.int (0 : Int32)), .val (.ref b166), .val .null, .unset, .unset, .unset, .unset] [])
          refine og (fun _ k => XS.aload X174.here hx rfl (hb hby at_432) rfl rfl k) ?_
          show OGo p e below _ T174 (mkF m 434 #[.val (.int len), .val (.int mode), .val (.long a), .second, .val (.long b), .second, .val (.int (Int32.ofNat (n))), .val (.int s7), .val (.int br), .val (.ref b122), .val (.ref b163), .val (.int (0 : Int32)), .val (.ref b166), .val .null, .unset, .unset, .unset, .unset] [(.ref b122)])
          refine og (fun _ k => XS.iconst X174.here hx rfl (hb hby at_434) k) ?_
          show OGo p e below _ T174 (mkF m 435 #[.val (.int len), .val (.int mode), .val (.long a), .second, .val (.long b), .second, .val (.int (Int32.ofNat (n))), .val (.int s7), .val (.int br), .val (.ref b122), .val (.ref b163), .val (.int (0 : Int32)), .val (.ref b166), .val .null, .unset, .unset, .unset, .unset] [(.int (0 : Int32)), (.ref b122)])
          have ne175 : b122 ≠ b166 := (Nat.ne_of_lt (Nat.lt_of_lt_of_le Va.lt (Nat.le_of_eq g166.symm)))
          have q176 := (((Va.ext E166).keep K172 (ninS ne175 nin0)).keep K174 nin0)
          refine og (fun _ k => caloadV X174 hx hZ174 rfl q176 ⟨by decide, by decide⟩ rfl (g := (mkF m 435 #[.val (.int len), .val (.int mode), .val (.long a), .second, .val (.long b), .second, .val (.int (Int32.ofNat (n))), .val (.int s7), .val (.int br), .val (.ref b122), .val (.ref b163), .val (.int (0 : Int32)), .val (.ref b166), .val .null, .unset, .unset, .unset, .unset] [(.int (0 : Int32)), (.ref b122)])) rfl rfl (hb hby at_435) _ k) ?_
          show OGo p e below _ T174 (mkF m 436 #[.val (.int len), .val (.int mode), .val (.long a), .second, .val (.long b), .second, .val (.int (Int32.ofNat (n))), .val (.int s7), .val (.int br), .val (.ref b122), .val (.ref b163), .val (.int (0 : Int32)), .val (.ref b166), .val .null, .unset, .unset, .unset, .unset] [(.int u0)])
          refine og (fun _ k => XS.iconst X174.here hx rfl (hb hby at_436) k) ?_
          show OGo p e below _ T174 (mkF m 437 #[.val (.int len), .val (.int mode), .val (.long a), .second, .val (.long b), .second, .val (.int (Int32.ofNat (n))), .val (.int s7), .val (.int br), .val (.ref b122), .val (.ref b163), .val (.int (0 : Int32)), .val (.ref b166), .val .null, .unset, .unset, .unset, .unset] [(.int (0 : Int32)), (.int u0)])
          obtain ⟨v177, T177, L177, kk177, X177, hS177, hk177, hZ177, hown177, CR177, WV177, hQ177, st177⟩ := scallP X174 hx hZ174 hown174 (own_hEL hw) hS174 hk174 H174 (fun _ _ => trivial) (own_g hw 96 rfl) (own_g hw 97 rfl) (own_g hw 4 rfl) (own_g hw 98 rfl) (by decide) (W := 0) (rm_ciA l Z a0 hw [] u0 0 zc wf n0 T174.heap SS' (q173.keep K174 all0) (by decide)) rfl (by decide) (by decide) (by decide) (by decide) (g := (mkF m 437 #[.val (.int len), .val (.int mode), .val (.long a), .second, .val (.long b), .second, .val (.int (Int32.ofNat (n))), .val (.int s7), .val (.int br), .val (.ref b122), .val (.ref b163), .val (.int (0 : Int32)), .val (.ref b166), .val .null, .unset, .unset, .unset, .unset] [(.int (0 : Int32)), (.int u0)])) rfl (by rw [hml]; rfl) (argsL := [(.int u0), (.int (0 : Int32))]) (rest := []) opd_32 rfl rfl rfl (by show 2 * 0 + _ ≤ _; exact Nat.le_of_eq rfl) (hb hby at_437)
          obtain ⟨rfl, N177, K177, a9, d9, k9, I9, L9⟩ := hQ177
          have NN177 := Fr.app NN174 N177
          have KK177 : Keep h0 T177.heap [] := KK174.trans K177 all0
          have H177 := CR177.1
          have R177 := CHr.trans R174 CR177
          refine og st177 ?_
          show OGo p e below _ T177 (mkF m 440 #[.val (.int len), .val (.int mode), .val (.long a), .second, .val (.long b), .second, .val (.int (Int32.ofNat (n))), .val (.int s7), .val (.int br), .val (.ref b122), .val (.ref b163), .val (.int (0 : Int32)), .val (.ref b166), .val .null, .unset, .unset, .unset, .unset] [(.int (if own_cib 0 u0 then 1 else 0))])
          obtain ⟨I9E, I9C, I9F, I9V⟩ := I9
          by_cases v0 : own_cib 0 u0
          case neg =>
            rw [if_neg v0]
            show OGo p e below _ T177 (mkF m 440 #[.val (.int len), .val (.int mode), .val (.long a), .second, .val (.long b), .second, .val (.int (Int32.ofNat (n))), .val (.int s7), .val (.int br), .val (.ref b122), .val (.ref b163), .val (.int (0 : Int32)), .val (.ref b166), .val .null, .unset, .unset, .unset, .unset] [(.int (0 : Int32))])
            refine og (fun _ k => XS.ifYes X177.here hx rfl (pc0 := 440) (pc' := 512) rfl (hb hby at_440) rfl ((if0 _ _).trans (teq (rfl : (0 : Int32) = 0)).1) (by decide) (by decide) k) ?_
            show OGo p e below _ T177 (mkF m 512 #[.val (.int len), .val (.int mode), .val (.long a), .second, .val (.long b), .second, .val (.int (Int32.ofNat (n))), .val (.int s7), .val (.int br), .val (.ref b122), .val (.ref b163), .val (.int (0 : Int32)), .val (.ref b166), .val .null, .unset, .unset, .unset, .unset] [])
            refine og (fun _ k => XS.iconst X177.here hx rfl (hb hby at_512) k) ?_
            show OGo p e below _ T177 (mkF m 513 #[.val (.int len), .val (.int mode), .val (.long a), .second, .val (.long b), .second, .val (.int (Int32.ofNat (n))), .val (.int s7), .val (.int br), .val (.ref b122), .val (.ref b163), .val (.int (0 : Int32)), .val (.ref b166), .val .null, .unset, .unset, .unset, .unset] [(.int (0 : Int32))])
            refine og (fun _ k => XS.istore X177.here hx rfl (hb hby at_513) rfl (l' := #[.val (.int len), .val (.int mode), .val (.long a), .second, .val (.long b), .second, .val (.int (Int32.ofNat (n))), .val (.int s7), .val (.int br), .val (.ref b122), .val (.ref b163), .val (.int (0 : Int32)), .val (.ref b166), .val .null, .val (.int (0 : Int32)), .unset, .unset, .unset]) rfl k) ?_
            show OGo p e below _ T177 (mkF m 515 #[.val (.int len), .val (.int mode), .val (.long a), .second, .val (.long b), .second, .val (.int (Int32.ofNat (n))), .val (.int s7), .val (.int br), .val (.ref b122), .val (.ref b163), .val (.int (0 : Int32)), .val (.ref b166), .val .null, .val (.int (0 : Int32)), .unset, .unset, .unset] [])
            refine og (fun _ k => XS.iload X177.here hx rfl (hb hby at_515) rfl k) ?_
            show OGo p e below _ T177 (mkF m 517 #[.val (.int len), .val (.int mode), .val (.long a), .second, .val (.long b), .second, .val (.int (Int32.ofNat (n))), .val (.int s7), .val (.int br), .val (.ref b122), .val (.ref b163), .val (.int (0 : Int32)), .val (.ref b166), .val .null, .val (.int (0 : Int32)), .unset, .unset, .unset] [(.int (0 : Int32))])
            refine og (fun _ k => XS.ifNo X177.here hx rfl (hb hby at_517) rfl ((if0 _ _).trans (teq (rfl : (0 : Int32) = 0)).2) k) ?_
            show OGo p e below _ T177 (mkF m 520 #[.val (.int len), .val (.int mode), .val (.long a), .second, .val (.long b), .second, .val (.int (Int32.ofNat (n))), .val (.int s7), .val (.int br), .val (.ref b122), .val (.ref b163), .val (.int (0 : Int32)), .val (.ref b166), .val .null, .val (.int (0 : Int32)), .unset, .unset, .unset] [])
            refine og (fun _ k => XS.aload X177.here hx rfl (hb hby at_520) rfl rfl k) ?_
            show OGo p e below _ T177 (mkF m 522 #[.val (.int len), .val (.int mode), .val (.long a), .second, .val (.long b), .second, .val (.int (Int32.ofNat (n))), .val (.int s7), .val (.int br), .val (.ref b122), .val (.ref b163), .val (.int (0 : Int32)), .val (.ref b166), .val .null, .val (.int (0 : Int32)), .unset, .unset, .unset] [.null])
            refine og (fun _ k => XS.ifnonnullNo X177.here hx rfl (hb hby at_522) rfl k) ?_
            show OGo p e below _ T177 (mkF m 525 #[.val (.int len), .val (.int mode), .val (.long a), .second, .val (.long b), .second, .val (.int (Int32.ofNat (n))), .val (.int s7), .val (.int br), .val (.ref b122), .val (.ref b163), .val (.int (0 : Int32)), .val (.ref b166), .val .null, .val (.int (0 : Int32)), .unset, .unset, .unset] [])
            refine og (fun _ k => XS.iconst X177.here hx rfl (hb hby at_525) k) ?_
            show OGo p e below _ T177 (mkF m 526 #[.val (.int len), .val (.int mode), .val (.long a), .second, .val (.long b), .second, .val (.int (Int32.ofNat (n))), .val (.int s7), .val (.int br), .val (.ref b122), .val (.ref b163), .val (.int (0 : Int32)), .val (.ref b166), .val .null, .val (.int (0 : Int32)), .unset, .unset, .unset] [(.int (1 : Int32))])
            refine og (fun _ k => XS.goto X177.here hx rfl (pc0 := 526) (pc' := 530) rfl (hb hby at_526) (by decide) (by decide) k) ?_
            show OGo p e below _ T177 (mkF m 530 #[.val (.int len), .val (.int mode), .val (.long a), .second, .val (.long b), .second, .val (.int (Int32.ofNat (n))), .val (.int s7), .val (.int br), .val (.ref b122), .val (.ref b163), .val (.int (0 : Int32)), .val (.ref b166), .val .null, .val (.int (0 : Int32)), .unset, .unset, .unset] [(.int (1 : Int32))])
            exact OGo.retH X177 hx hZ177 (own_hEL hw) hs0 rfl hS177 hk177 H177 R177 (t := .boolean) hret hlk rfl (Or.inl ⟨rfl, by simp, _, rfl⟩) (hb hby at_530) (by decide) (by decide) ⟨rfl, NN177⟩
          rw [if_pos v0]
          show OGo p e below _ T177 (mkF m 440 #[.val (.int len), .val (.int mode), .val (.long a), .second, .val (.long b), .second, .val (.int (Int32.ofNat (n))), .val (.int s7), .val (.int br), .val (.ref b122), .val (.ref b163), .val (.int (0 : Int32)), .val (.ref b166), .val .null, .unset, .unset, .unset, .unset] [(.int (1 : Int32))])
          refine og (fun _ k => XS.ifNo X177.here hx rfl (hb hby at_440) rfl ((if0 _ _).trans (feq (by decide : ¬ (1 : Int32) = 0)).1) k) ?_
          show OGo p e below _ T177 (mkF m 443 #[.val (.int len), .val (.int mode), .val (.long a), .second, .val (.long b), .second, .val (.int (Int32.ofNat (n))), .val (.int s7), .val (.int br), .val (.ref b122), .val (.ref b163), .val (.int (0 : Int32)), .val (.ref b166), .val .null, .unset, .unset, .unset, .unset] [])
          refine og (fun _ k => XS.aload X177.here hx rfl (hb hby at_443) rfl rfl k) ?_
          show OGo p e below _ T177 (mkF m 445 #[.val (.int len), .val (.int mode), .val (.long a), .second, .val (.long b), .second, .val (.int (Int32.ofNat (n))), .val (.int s7), .val (.int br), .val (.ref b122), .val (.ref b163), .val (.int (0 : Int32)), .val (.ref b166), .val .null, .unset, .unset, .unset, .unset] [(.ref b122)])
          refine og (fun _ k => XS.iconst X177.here hx rfl (hb hby at_445) k) ?_
          show OGo p e below _ T177 (mkF m 446 #[.val (.int len), .val (.int mode), .val (.long a), .second, .val (.long b), .second, .val (.int (Int32.ofNat (n))), .val (.int s7), .val (.int br), .val (.ref b122), .val (.ref b163), .val (.int (0 : Int32)), .val (.ref b166), .val .null, .unset, .unset, .unset, .unset] [(.int (1 : Int32)), (.ref b122)])
          refine og (fun _ k => caloadV X177 hx hZ177 rfl (q176.keep K177 nin0) ⟨by decide, by decide⟩ rfl (g := (mkF m 446 #[.val (.int len), .val (.int mode), .val (.long a), .second, .val (.long b), .second, .val (.int (Int32.ofNat (n))), .val (.int s7), .val (.int br), .val (.ref b122), .val (.ref b163), .val (.int (0 : Int32)), .val (.ref b166), .val .null, .unset, .unset, .unset, .unset] [(.int (1 : Int32)), (.ref b122)])) rfl rfl (hb hby at_446) _ k) ?_
          show OGo p e below _ T177 (mkF m 447 #[.val (.int len), .val (.int mode), .val (.long a), .second, .val (.long b), .second, .val (.int (Int32.ofNat (n))), .val (.int s7), .val (.int br), .val (.ref b122), .val (.ref b163), .val (.int (0 : Int32)), .val (.ref b166), .val .null, .unset, .unset, .unset, .unset] [(.int u1)])
          refine og (fun _ k => XS.iconst X177.here hx rfl (hb hby at_447) k) ?_
          show OGo p e below _ T177 (mkF m 448 #[.val (.int len), .val (.int mode), .val (.long a), .second, .val (.long b), .second, .val (.int (Int32.ofNat (n))), .val (.int s7), .val (.int br), .val (.ref b122), .val (.ref b163), .val (.int (0 : Int32)), .val (.ref b166), .val .null, .unset, .unset, .unset, .unset] [(.int (1 : Int32)), (.int u1)])
          obtain ⟨v178, T178, L178, kk178, X178, hS178, hk178, hZ178, hown178, CR178, WV178, hQ178, st178⟩ := scallP X177 hx hZ177 hown177 (own_hEL hw) hS177 hk177 H177 (fun vm' hW => Lit.stays (s := s) (vm0 := T177.vm) (show Lit (s.setVm T177.vm) _ _ _ from L9) hW) (own_g hw 96 rfl) (own_g hw 97 rfl) (own_g hw 4 rfl) (own_g hw 98 rfl) (by decide) (W := 0) (rm_ciB l Z a0 hw [] u1 1 a9 d9 k9 zc wf n0 T177.heap SS' ((q173.keep K174 all0).keep K177 all0) (by decide) ⟨I9E, I9C, I9F, I9V⟩) rfl (by decide) (by decide) (by decide) (by decide) (g := (mkF m 448 #[.val (.int len), .val (.int mode), .val (.long a), .second, .val (.long b), .second, .val (.int (Int32.ofNat (n))), .val (.int s7), .val (.int br), .val (.ref b122), .val (.ref b163), .val (.int (0 : Int32)), .val (.ref b166), .val .null, .unset, .unset, .unset, .unset] [(.int (1 : Int32)), (.int u1)])) rfl (by rw [hml]; rfl) (argsL := [(.int u1), (.int (1 : Int32))]) (rest := []) opd_32 rfl rfl rfl (by show 2 * 0 + _ ≤ _; exact Nat.le_of_eq rfl) (hb hby at_448)
          obtain ⟨rfl, N178, K178⟩ := hQ178
          have NN178 := Fr.app NN177 N178
          have KK178 : Keep h0 T178.heap [] := KK177.trans K178 all0
          have H178 := CR178.1
          have R178 := CHr.trans R177 CR178
          refine og st178 ?_
          show OGo p e below _ T178 (mkF m 451 #[.val (.int len), .val (.int mode), .val (.long a), .second, .val (.long b), .second, .val (.int (Int32.ofNat (n))), .val (.int s7), .val (.int br), .val (.ref b122), .val (.ref b163), .val (.int (0 : Int32)), .val (.ref b166), .val .null, .unset, .unset, .unset, .unset] [(.int (if own_cib 1 u1 then 1 else 0))])
          have LT178 := Lit.stays (s := s) (vm0 := T177.vm) (show Lit (s.setVm T177.vm) _ _ _ from L9) WV178
          by_cases v1 : own_cib 1 u1
          case neg =>
            rw [if_neg v1]
            show OGo p e below _ T178 (mkF m 451 #[.val (.int len), .val (.int mode), .val (.long a), .second, .val (.long b), .second, .val (.int (Int32.ofNat (n))), .val (.int s7), .val (.int br), .val (.ref b122), .val (.ref b163), .val (.int (0 : Int32)), .val (.ref b166), .val .null, .unset, .unset, .unset, .unset] [(.int (0 : Int32))])
            refine og (fun _ k => XS.ifYes X178.here hx rfl (pc0 := 451) (pc' := 512) rfl (hb hby at_451) rfl ((if0 _ _).trans (teq (rfl : (0 : Int32) = 0)).1) (by decide) (by decide) k) ?_
            show OGo p e below _ T178 (mkF m 512 #[.val (.int len), .val (.int mode), .val (.long a), .second, .val (.long b), .second, .val (.int (Int32.ofNat (n))), .val (.int s7), .val (.int br), .val (.ref b122), .val (.ref b163), .val (.int (0 : Int32)), .val (.ref b166), .val .null, .unset, .unset, .unset, .unset] [])
            refine og (fun _ k => XS.iconst X178.here hx rfl (hb hby at_512) k) ?_
            show OGo p e below _ T178 (mkF m 513 #[.val (.int len), .val (.int mode), .val (.long a), .second, .val (.long b), .second, .val (.int (Int32.ofNat (n))), .val (.int s7), .val (.int br), .val (.ref b122), .val (.ref b163), .val (.int (0 : Int32)), .val (.ref b166), .val .null, .unset, .unset, .unset, .unset] [(.int (0 : Int32))])
            refine og (fun _ k => XS.istore X178.here hx rfl (hb hby at_513) rfl (l' := #[.val (.int len), .val (.int mode), .val (.long a), .second, .val (.long b), .second, .val (.int (Int32.ofNat (n))), .val (.int s7), .val (.int br), .val (.ref b122), .val (.ref b163), .val (.int (0 : Int32)), .val (.ref b166), .val .null, .val (.int (0 : Int32)), .unset, .unset, .unset]) rfl k) ?_
            show OGo p e below _ T178 (mkF m 515 #[.val (.int len), .val (.int mode), .val (.long a), .second, .val (.long b), .second, .val (.int (Int32.ofNat (n))), .val (.int s7), .val (.int br), .val (.ref b122), .val (.ref b163), .val (.int (0 : Int32)), .val (.ref b166), .val .null, .val (.int (0 : Int32)), .unset, .unset, .unset] [])
            refine og (fun _ k => XS.iload X178.here hx rfl (hb hby at_515) rfl k) ?_
            show OGo p e below _ T178 (mkF m 517 #[.val (.int len), .val (.int mode), .val (.long a), .second, .val (.long b), .second, .val (.int (Int32.ofNat (n))), .val (.int s7), .val (.int br), .val (.ref b122), .val (.ref b163), .val (.int (0 : Int32)), .val (.ref b166), .val .null, .val (.int (0 : Int32)), .unset, .unset, .unset] [(.int (0 : Int32))])
            refine og (fun _ k => XS.ifNo X178.here hx rfl (hb hby at_517) rfl ((if0 _ _).trans (teq (rfl : (0 : Int32) = 0)).2) k) ?_
            show OGo p e below _ T178 (mkF m 520 #[.val (.int len), .val (.int mode), .val (.long a), .second, .val (.long b), .second, .val (.int (Int32.ofNat (n))), .val (.int s7), .val (.int br), .val (.ref b122), .val (.ref b163), .val (.int (0 : Int32)), .val (.ref b166), .val .null, .val (.int (0 : Int32)), .unset, .unset, .unset] [])
            refine og (fun _ k => XS.aload X178.here hx rfl (hb hby at_520) rfl rfl k) ?_
            show OGo p e below _ T178 (mkF m 522 #[.val (.int len), .val (.int mode), .val (.long a), .second, .val (.long b), .second, .val (.int (Int32.ofNat (n))), .val (.int s7), .val (.int br), .val (.ref b122), .val (.ref b163), .val (.int (0 : Int32)), .val (.ref b166), .val .null, .val (.int (0 : Int32)), .unset, .unset, .unset] [.null])
            refine og (fun _ k => XS.ifnonnullNo X178.here hx rfl (hb hby at_522) rfl k) ?_
            show OGo p e below _ T178 (mkF m 525 #[.val (.int len), .val (.int mode), .val (.long a), .second, .val (.long b), .second, .val (.int (Int32.ofNat (n))), .val (.int s7), .val (.int br), .val (.ref b122), .val (.ref b163), .val (.int (0 : Int32)), .val (.ref b166), .val .null, .val (.int (0 : Int32)), .unset, .unset, .unset] [])
            refine og (fun _ k => XS.iconst X178.here hx rfl (hb hby at_525) k) ?_
            show OGo p e below _ T178 (mkF m 526 #[.val (.int len), .val (.int mode), .val (.long a), .second, .val (.long b), .second, .val (.int (Int32.ofNat (n))), .val (.int s7), .val (.int br), .val (.ref b122), .val (.ref b163), .val (.int (0 : Int32)), .val (.ref b166), .val .null, .val (.int (0 : Int32)), .unset, .unset, .unset] [(.int (1 : Int32))])
            refine og (fun _ k => XS.goto X178.here hx rfl (pc0 := 526) (pc' := 530) rfl (hb hby at_526) (by decide) (by decide) k) ?_
            show OGo p e below _ T178 (mkF m 530 #[.val (.int len), .val (.int mode), .val (.long a), .second, .val (.long b), .second, .val (.int (Int32.ofNat (n))), .val (.int s7), .val (.int br), .val (.ref b122), .val (.ref b163), .val (.int (0 : Int32)), .val (.ref b166), .val .null, .val (.int (0 : Int32)), .unset, .unset, .unset] [(.int (1 : Int32))])
            exact OGo.retH X178 hx hZ178 (own_hEL hw) hs0 rfl hS178 hk178 H178 R178 (t := .boolean) hret hlk rfl (Or.inl ⟨rfl, by simp, _, rfl⟩) (hb hby at_530) (by decide) (by decide) ⟨rfl, NN178⟩
          rw [if_pos v1]
          show OGo p e below _ T178 (mkF m 451 #[.val (.int len), .val (.int mode), .val (.long a), .second, .val (.long b), .second, .val (.int (Int32.ofNat (n))), .val (.int s7), .val (.int br), .val (.ref b122), .val (.ref b163), .val (.int (0 : Int32)), .val (.ref b166), .val .null, .unset, .unset, .unset, .unset] [(.int (1 : Int32))])
          refine og (fun _ k => XS.ifNo X178.here hx rfl (hb hby at_451) rfl ((if0 _ _).trans (feq (by decide : ¬ (1 : Int32) = 0)).1) k) ?_
          show OGo p e below _ T178 (mkF m 454 #[.val (.int len), .val (.int mode), .val (.long a), .second, .val (.long b), .second, .val (.int (Int32.ofNat (n))), .val (.int s7), .val (.int br), .val (.ref b122), .val (.ref b163), .val (.int (0 : Int32)), .val (.ref b166), .val .null, .unset, .unset, .unset, .unset] [])
          refine og (fun _ k => XS.aload X178.here hx rfl (hb hby at_454) rfl rfl k) ?_
          show OGo p e below _ T178 (mkF m 456 #[.val (.int len), .val (.int mode), .val (.long a), .second, .val (.long b), .second, .val (.int (Int32.ofNat (n))), .val (.int s7), .val (.int br), .val (.ref b122), .val (.ref b163), .val (.int (0 : Int32)), .val (.ref b166), .val .null, .unset, .unset, .unset, .unset] [(.ref b122)])
          refine og (fun _ k => XS.iconst X178.here hx rfl (hb hby at_456) k) ?_
          show OGo p e below _ T178 (mkF m 457 #[.val (.int len), .val (.int mode), .val (.long a), .second, .val (.long b), .second, .val (.int (Int32.ofNat (n))), .val (.int s7), .val (.int br), .val (.ref b122), .val (.ref b163), .val (.int (0 : Int32)), .val (.ref b166), .val .null, .unset, .unset, .unset, .unset] [(.int (2 : Int32)), (.ref b122)])
          refine og (fun _ k => caloadV X178 hx hZ178 rfl ((q176.keep K177 nin0).keep K178 nin0) ⟨by decide, by decide⟩ rfl (g := (mkF m 457 #[.val (.int len), .val (.int mode), .val (.long a), .second, .val (.long b), .second, .val (.int (Int32.ofNat (n))), .val (.int s7), .val (.int br), .val (.ref b122), .val (.ref b163), .val (.int (0 : Int32)), .val (.ref b166), .val .null, .unset, .unset, .unset, .unset] [(.int (2 : Int32)), (.ref b122)])) rfl rfl (hb hby at_457) _ k) ?_
          show OGo p e below _ T178 (mkF m 458 #[.val (.int len), .val (.int mode), .val (.long a), .second, .val (.long b), .second, .val (.int (Int32.ofNat (n))), .val (.int s7), .val (.int br), .val (.ref b122), .val (.ref b163), .val (.int (0 : Int32)), .val (.ref b166), .val .null, .unset, .unset, .unset, .unset] [(.int u2)])
          refine og (fun _ k => XS.iconst X178.here hx rfl (hb hby at_458) k) ?_
          show OGo p e below _ T178 (mkF m 459 #[.val (.int len), .val (.int mode), .val (.long a), .second, .val (.long b), .second, .val (.int (Int32.ofNat (n))), .val (.int s7), .val (.int br), .val (.ref b122), .val (.ref b163), .val (.int (0 : Int32)), .val (.ref b166), .val .null, .unset, .unset, .unset, .unset] [(.int (2 : Int32)), (.int u2)])
          have q179 := (((q173.keep K174 all0).keep K177 all0).keep K178 all0)
          obtain ⟨v180, T180, L180, kk180, X180, hS180, hk180, hZ180, hown180, CR180, WV180, hQ180, st180⟩ := scallP X178 hx hZ178 hown178 (own_hEL hw) hS178 hk178 H178 (fun vm' hW => Lit.stays (s := s) (vm0 := T178.vm) LT178 hW) (own_g hw 96 rfl) (own_g hw 97 rfl) (own_g hw 4 rfl) (own_g hw 98 rfl) (by decide) (W := 0) (rm_ciB l Z a0 hw [] u2 2 a9 d9 k9 zc wf n0 T178.heap SS' q179 (by decide) ⟨(I9E.keep K178), (I9C.keep K178 nin0), (I9F.keep K178 nin0), (I9V.keep K178 nin0)⟩) rfl (by decide) (by decide) (by decide) (by decide) (g := (mkF m 459 #[.val (.int len), .val (.int mode), .val (.long a), .second, .val (.long b), .second, .val (.int (Int32.ofNat (n))), .val (.int s7), .val (.int br), .val (.ref b122), .val (.ref b163), .val (.int (0 : Int32)), .val (.ref b166), .val .null, .unset, .unset, .unset, .unset] [(.int (2 : Int32)), (.int u2)])) rfl (by rw [hml]; rfl) (argsL := [(.int u2), (.int (2 : Int32))]) (rest := []) opd_32 rfl rfl rfl (by show 2 * 0 + _ ≤ _; exact Nat.le_of_eq rfl) (hb hby at_459)
          obtain ⟨rfl, N180, K180⟩ := hQ180
          have NN180 := Fr.app NN178 N180
          have KK180 : Keep h0 T180.heap [] := KK178.trans K180 all0
          have H180 := CR180.1
          have R180 := CHr.trans R178 CR180
          refine og st180 ?_
          show OGo p e below _ T180 (mkF m 462 #[.val (.int len), .val (.int mode), .val (.long a), .second, .val (.long b), .second, .val (.int (Int32.ofNat (n))), .val (.int s7), .val (.int br), .val (.ref b122), .val (.ref b163), .val (.int (0 : Int32)), .val (.ref b166), .val .null, .unset, .unset, .unset, .unset] [(.int (if own_cib 2 u2 then 1 else 0))])
          have LT180 := Lit.stays (s := s) (vm0 := T178.vm) LT178 WV180
          by_cases v2 : own_cib 2 u2
          case neg =>
            rw [if_neg v2]
            show OGo p e below _ T180 (mkF m 462 #[.val (.int len), .val (.int mode), .val (.long a), .second, .val (.long b), .second, .val (.int (Int32.ofNat (n))), .val (.int s7), .val (.int br), .val (.ref b122), .val (.ref b163), .val (.int (0 : Int32)), .val (.ref b166), .val .null, .unset, .unset, .unset, .unset] [(.int (0 : Int32))])
            refine og (fun _ k => XS.ifYes X180.here hx rfl (pc0 := 462) (pc' := 512) rfl (hb hby at_462) rfl ((if0 _ _).trans (teq (rfl : (0 : Int32) = 0)).1) (by decide) (by decide) k) ?_
            show OGo p e below _ T180 (mkF m 512 #[.val (.int len), .val (.int mode), .val (.long a), .second, .val (.long b), .second, .val (.int (Int32.ofNat (n))), .val (.int s7), .val (.int br), .val (.ref b122), .val (.ref b163), .val (.int (0 : Int32)), .val (.ref b166), .val .null, .unset, .unset, .unset, .unset] [])
            refine og (fun _ k => XS.iconst X180.here hx rfl (hb hby at_512) k) ?_
            show OGo p e below _ T180 (mkF m 513 #[.val (.int len), .val (.int mode), .val (.long a), .second, .val (.long b), .second, .val (.int (Int32.ofNat (n))), .val (.int s7), .val (.int br), .val (.ref b122), .val (.ref b163), .val (.int (0 : Int32)), .val (.ref b166), .val .null, .unset, .unset, .unset, .unset] [(.int (0 : Int32))])
            refine og (fun _ k => XS.istore X180.here hx rfl (hb hby at_513) rfl (l' := #[.val (.int len), .val (.int mode), .val (.long a), .second, .val (.long b), .second, .val (.int (Int32.ofNat (n))), .val (.int s7), .val (.int br), .val (.ref b122), .val (.ref b163), .val (.int (0 : Int32)), .val (.ref b166), .val .null, .val (.int (0 : Int32)), .unset, .unset, .unset]) rfl k) ?_
            show OGo p e below _ T180 (mkF m 515 #[.val (.int len), .val (.int mode), .val (.long a), .second, .val (.long b), .second, .val (.int (Int32.ofNat (n))), .val (.int s7), .val (.int br), .val (.ref b122), .val (.ref b163), .val (.int (0 : Int32)), .val (.ref b166), .val .null, .val (.int (0 : Int32)), .unset, .unset, .unset] [])
            refine og (fun _ k => XS.iload X180.here hx rfl (hb hby at_515) rfl k) ?_
            show OGo p e below _ T180 (mkF m 517 #[.val (.int len), .val (.int mode), .val (.long a), .second, .val (.long b), .second, .val (.int (Int32.ofNat (n))), .val (.int s7), .val (.int br), .val (.ref b122), .val (.ref b163), .val (.int (0 : Int32)), .val (.ref b166), .val .null, .val (.int (0 : Int32)), .unset, .unset, .unset] [(.int (0 : Int32))])
            refine og (fun _ k => XS.ifNo X180.here hx rfl (hb hby at_517) rfl ((if0 _ _).trans (teq (rfl : (0 : Int32) = 0)).2) k) ?_
            show OGo p e below _ T180 (mkF m 520 #[.val (.int len), .val (.int mode), .val (.long a), .second, .val (.long b), .second, .val (.int (Int32.ofNat (n))), .val (.int s7), .val (.int br), .val (.ref b122), .val (.ref b163), .val (.int (0 : Int32)), .val (.ref b166), .val .null, .val (.int (0 : Int32)), .unset, .unset, .unset] [])
            refine og (fun _ k => XS.aload X180.here hx rfl (hb hby at_520) rfl rfl k) ?_
            show OGo p e below _ T180 (mkF m 522 #[.val (.int len), .val (.int mode), .val (.long a), .second, .val (.long b), .second, .val (.int (Int32.ofNat (n))), .val (.int s7), .val (.int br), .val (.ref b122), .val (.ref b163), .val (.int (0 : Int32)), .val (.ref b166), .val .null, .val (.int (0 : Int32)), .unset, .unset, .unset] [.null])
            refine og (fun _ k => XS.ifnonnullNo X180.here hx rfl (hb hby at_522) rfl k) ?_
            show OGo p e below _ T180 (mkF m 525 #[.val (.int len), .val (.int mode), .val (.long a), .second, .val (.long b), .second, .val (.int (Int32.ofNat (n))), .val (.int s7), .val (.int br), .val (.ref b122), .val (.ref b163), .val (.int (0 : Int32)), .val (.ref b166), .val .null, .val (.int (0 : Int32)), .unset, .unset, .unset] [])
            refine og (fun _ k => XS.iconst X180.here hx rfl (hb hby at_525) k) ?_
            show OGo p e below _ T180 (mkF m 526 #[.val (.int len), .val (.int mode), .val (.long a), .second, .val (.long b), .second, .val (.int (Int32.ofNat (n))), .val (.int s7), .val (.int br), .val (.ref b122), .val (.ref b163), .val (.int (0 : Int32)), .val (.ref b166), .val .null, .val (.int (0 : Int32)), .unset, .unset, .unset] [(.int (1 : Int32))])
            refine og (fun _ k => XS.goto X180.here hx rfl (pc0 := 526) (pc' := 530) rfl (hb hby at_526) (by decide) (by decide) k) ?_
            show OGo p e below _ T180 (mkF m 530 #[.val (.int len), .val (.int mode), .val (.long a), .second, .val (.long b), .second, .val (.int (Int32.ofNat (n))), .val (.int s7), .val (.int br), .val (.ref b122), .val (.ref b163), .val (.int (0 : Int32)), .val (.ref b166), .val .null, .val (.int (0 : Int32)), .unset, .unset, .unset] [(.int (1 : Int32))])
            exact OGo.retH X180 hx hZ180 (own_hEL hw) hs0 rfl hS180 hk180 H180 R180 (t := .boolean) hret hlk rfl (Or.inl ⟨rfl, by simp, _, rfl⟩) (hb hby at_530) (by decide) (by decide) ⟨rfl, NN180⟩
          rw [if_pos v2]
          show OGo p e below _ T180 (mkF m 462 #[.val (.int len), .val (.int mode), .val (.long a), .second, .val (.long b), .second, .val (.int (Int32.ofNat (n))), .val (.int s7), .val (.int br), .val (.ref b122), .val (.ref b163), .val (.int (0 : Int32)), .val (.ref b166), .val .null, .unset, .unset, .unset, .unset] [(.int (1 : Int32))])
          refine og (fun _ k => XS.ifNo X180.here hx rfl (hb hby at_462) rfl ((if0 _ _).trans (feq (by decide : ¬ (1 : Int32) = 0)).1) k) ?_
          show OGo p e below _ T180 (mkF m 465 #[.val (.int len), .val (.int mode), .val (.long a), .second, .val (.long b), .second, .val (.int (Int32.ofNat (n))), .val (.int s7), .val (.int br), .val (.ref b122), .val (.ref b163), .val (.int (0 : Int32)), .val (.ref b166), .val .null, .unset, .unset, .unset, .unset] [])
          refine og (fun _ k => XS.aload X180.here hx rfl (hb hby at_465) rfl rfl k) ?_
          show OGo p e below _ T180 (mkF m 467 #[.val (.int len), .val (.int mode), .val (.long a), .second, .val (.long b), .second, .val (.int (Int32.ofNat (n))), .val (.int s7), .val (.int br), .val (.ref b122), .val (.ref b163), .val (.int (0 : Int32)), .val (.ref b166), .val .null, .unset, .unset, .unset, .unset] [(.ref b122)])
          refine og (fun _ k => XS.iconst X180.here hx rfl (hb hby at_467) k) ?_
          show OGo p e below _ T180 (mkF m 468 #[.val (.int len), .val (.int mode), .val (.long a), .second, .val (.long b), .second, .val (.int (Int32.ofNat (n))), .val (.int s7), .val (.int br), .val (.ref b122), .val (.ref b163), .val (.int (0 : Int32)), .val (.ref b166), .val .null, .unset, .unset, .unset, .unset] [(.int (3 : Int32)), (.ref b122)])
          have q181 := (((q176.keep K177 nin0).keep K178 nin0).keep K180 nin0)
          refine og (fun _ k => caloadV X180 hx hZ180 rfl q181 ⟨by decide, by decide⟩ rfl (g := (mkF m 468 #[.val (.int len), .val (.int mode), .val (.long a), .second, .val (.long b), .second, .val (.int (Int32.ofNat (n))), .val (.int s7), .val (.int br), .val (.ref b122), .val (.ref b163), .val (.int (0 : Int32)), .val (.ref b166), .val .null, .unset, .unset, .unset, .unset] [(.int (3 : Int32)), (.ref b122)])) rfl rfl (hb hby at_468) _ k) ?_
          show OGo p e below _ T180 (mkF m 469 #[.val (.int len), .val (.int mode), .val (.long a), .second, .val (.long b), .second, .val (.int (Int32.ofNat (n))), .val (.int s7), .val (.int br), .val (.ref b122), .val (.ref b163), .val (.int (0 : Int32)), .val (.ref b166), .val .null, .unset, .unset, .unset, .unset] [(.int u3)])
          refine og (fun _ k => XS.iconst X180.here hx rfl (hb hby at_469) k) ?_
          show OGo p e below _ T180 (mkF m 470 #[.val (.int len), .val (.int mode), .val (.long a), .second, .val (.long b), .second, .val (.int (Int32.ofNat (n))), .val (.int s7), .val (.int br), .val (.ref b122), .val (.ref b163), .val (.int (0 : Int32)), .val (.ref b166), .val .null, .unset, .unset, .unset, .unset] [(.int (3 : Int32)), (.int u3)])
          obtain ⟨v182, T182, L182, kk182, X182, hS182, hk182, hZ182, hown182, CR182, WV182, hQ182, st182⟩ := scallP X180 hx hZ180 hown180 (own_hEL hw) hS180 hk180 H180 (fun vm' hW => Lit.stays (s := s) (vm0 := T180.vm) LT180 hW) (own_g hw 96 rfl) (own_g hw 97 rfl) (own_g hw 4 rfl) (own_g hw 98 rfl) (by decide) (W := 0) (rm_ciB l Z a0 hw [] u3 3 a9 d9 k9 zc wf n0 T180.heap SS' (q179.keep K180 all0) (by decide) ⟨((I9E.keep K178).keep K180), ((I9C.keep K178 nin0).keep K180 nin0), ((I9F.keep K178 nin0).keep K180 nin0), ((I9V.keep K178 nin0).keep K180 nin0)⟩) rfl (by decide) (by decide) (by decide) (by decide) (g := (mkF m 470 #[.val (.int len), .val (.int mode), .val (.long a), .second, .val (.long b), .second, .val (.int (Int32.ofNat (n))), .val (.int s7), .val (.int br), .val (.ref b122), .val (.ref b163), .val (.int (0 : Int32)), .val (.ref b166), .val .null, .unset, .unset, .unset, .unset] [(.int (3 : Int32)), (.int u3)])) rfl (by rw [hml]; rfl) (argsL := [(.int u3), (.int (3 : Int32))]) (rest := []) opd_32 rfl rfl rfl (by show 2 * 0 + _ ≤ _; exact Nat.le_of_eq rfl) (hb hby at_470)
          obtain ⟨rfl, N182, K182⟩ := hQ182
          have NN182 := Fr.app NN180 N182
          have KK182 : Keep h0 T182.heap [] := KK180.trans K182 all0
          have H182 := CR182.1
          have R182 := CHr.trans R180 CR182
          refine og st182 ?_
          show OGo p e below _ T182 (mkF m 473 #[.val (.int len), .val (.int mode), .val (.long a), .second, .val (.long b), .second, .val (.int (Int32.ofNat (n))), .val (.int s7), .val (.int br), .val (.ref b122), .val (.ref b163), .val (.int (0 : Int32)), .val (.ref b166), .val .null, .unset, .unset, .unset, .unset] [(.int (if own_cib 3 u3 then 1 else 0))])
          have LT182 := Lit.stays (s := s) (vm0 := T180.vm) LT180 WV182
          by_cases v3 : own_cib 3 u3
          case neg =>
            rw [if_neg v3]
            show OGo p e below _ T182 (mkF m 473 #[.val (.int len), .val (.int mode), .val (.long a), .second, .val (.long b), .second, .val (.int (Int32.ofNat (n))), .val (.int s7), .val (.int br), .val (.ref b122), .val (.ref b163), .val (.int (0 : Int32)), .val (.ref b166), .val .null, .unset, .unset, .unset, .unset] [(.int (0 : Int32))])
            refine og (fun _ k => XS.ifYes X182.here hx rfl (pc0 := 473) (pc' := 512) rfl (hb hby at_473) rfl ((if0 _ _).trans (teq (rfl : (0 : Int32) = 0)).1) (by decide) (by decide) k) ?_
            show OGo p e below _ T182 (mkF m 512 #[.val (.int len), .val (.int mode), .val (.long a), .second, .val (.long b), .second, .val (.int (Int32.ofNat (n))), .val (.int s7), .val (.int br), .val (.ref b122), .val (.ref b163), .val (.int (0 : Int32)), .val (.ref b166), .val .null, .unset, .unset, .unset, .unset] [])
            refine og (fun _ k => XS.iconst X182.here hx rfl (hb hby at_512) k) ?_
            show OGo p e below _ T182 (mkF m 513 #[.val (.int len), .val (.int mode), .val (.long a), .second, .val (.long b), .second, .val (.int (Int32.ofNat (n))), .val (.int s7), .val (.int br), .val (.ref b122), .val (.ref b163), .val (.int (0 : Int32)), .val (.ref b166), .val .null, .unset, .unset, .unset, .unset] [(.int (0 : Int32))])
            refine og (fun _ k => XS.istore X182.here hx rfl (hb hby at_513) rfl (l' := #[.val (.int len), .val (.int mode), .val (.long a), .second, .val (.long b), .second, .val (.int (Int32.ofNat (n))), .val (.int s7), .val (.int br), .val (.ref b122), .val (.ref b163), .val (.int (0 : Int32)), .val (.ref b166), .val .null, .val (.int (0 : Int32)), .unset, .unset, .unset]) rfl k) ?_
            show OGo p e below _ T182 (mkF m 515 #[.val (.int len), .val (.int mode), .val (.long a), .second, .val (.long b), .second, .val (.int (Int32.ofNat (n))), .val (.int s7), .val (.int br), .val (.ref b122), .val (.ref b163), .val (.int (0 : Int32)), .val (.ref b166), .val .null, .val (.int (0 : Int32)), .unset, .unset, .unset] [])
            refine og (fun _ k => XS.iload X182.here hx rfl (hb hby at_515) rfl k) ?_
            show OGo p e below _ T182 (mkF m 517 #[.val (.int len), .val (.int mode), .val (.long a), .second, .val (.long b), .second, .val (.int (Int32.ofNat (n))), .val (.int s7), .val (.int br), .val (.ref b122), .val (.ref b163), .val (.int (0 : Int32)), .val (.ref b166), .val .null, .val (.int (0 : Int32)), .unset, .unset, .unset] [(.int (0 : Int32))])
            refine og (fun _ k => XS.ifNo X182.here hx rfl (hb hby at_517) rfl ((if0 _ _).trans (teq (rfl : (0 : Int32) = 0)).2) k) ?_
            show OGo p e below _ T182 (mkF m 520 #[.val (.int len), .val (.int mode), .val (.long a), .second, .val (.long b), .second, .val (.int (Int32.ofNat (n))), .val (.int s7), .val (.int br), .val (.ref b122), .val (.ref b163), .val (.int (0 : Int32)), .val (.ref b166), .val .null, .val (.int (0 : Int32)), .unset, .unset, .unset] [])
            refine og (fun _ k => XS.aload X182.here hx rfl (hb hby at_520) rfl rfl k) ?_
            show OGo p e below _ T182 (mkF m 522 #[.val (.int len), .val (.int mode), .val (.long a), .second, .val (.long b), .second, .val (.int (Int32.ofNat (n))), .val (.int s7), .val (.int br), .val (.ref b122), .val (.ref b163), .val (.int (0 : Int32)), .val (.ref b166), .val .null, .val (.int (0 : Int32)), .unset, .unset, .unset] [.null])
            refine og (fun _ k => XS.ifnonnullNo X182.here hx rfl (hb hby at_522) rfl k) ?_
            show OGo p e below _ T182 (mkF m 525 #[.val (.int len), .val (.int mode), .val (.long a), .second, .val (.long b), .second, .val (.int (Int32.ofNat (n))), .val (.int s7), .val (.int br), .val (.ref b122), .val (.ref b163), .val (.int (0 : Int32)), .val (.ref b166), .val .null, .val (.int (0 : Int32)), .unset, .unset, .unset] [])
            refine og (fun _ k => XS.iconst X182.here hx rfl (hb hby at_525) k) ?_
            show OGo p e below _ T182 (mkF m 526 #[.val (.int len), .val (.int mode), .val (.long a), .second, .val (.long b), .second, .val (.int (Int32.ofNat (n))), .val (.int s7), .val (.int br), .val (.ref b122), .val (.ref b163), .val (.int (0 : Int32)), .val (.ref b166), .val .null, .val (.int (0 : Int32)), .unset, .unset, .unset] [(.int (1 : Int32))])
            refine og (fun _ k => XS.goto X182.here hx rfl (pc0 := 526) (pc' := 530) rfl (hb hby at_526) (by decide) (by decide) k) ?_
            show OGo p e below _ T182 (mkF m 530 #[.val (.int len), .val (.int mode), .val (.long a), .second, .val (.long b), .second, .val (.int (Int32.ofNat (n))), .val (.int s7), .val (.int br), .val (.ref b122), .val (.ref b163), .val (.int (0 : Int32)), .val (.ref b166), .val .null, .val (.int (0 : Int32)), .unset, .unset, .unset] [(.int (1 : Int32))])
            exact OGo.retH X182 hx hZ182 (own_hEL hw) hs0 rfl hS182 hk182 H182 R182 (t := .boolean) hret hlk rfl (Or.inl ⟨rfl, by simp, _, rfl⟩) (hb hby at_530) (by decide) (by decide) ⟨rfl, NN182⟩
          rw [if_pos v3]
          show OGo p e below _ T182 (mkF m 473 #[.val (.int len), .val (.int mode), .val (.long a), .second, .val (.long b), .second, .val (.int (Int32.ofNat (n))), .val (.int s7), .val (.int br), .val (.ref b122), .val (.ref b163), .val (.int (0 : Int32)), .val (.ref b166), .val .null, .unset, .unset, .unset, .unset] [(.int (1 : Int32))])
          refine og (fun _ k => XS.ifNo X182.here hx rfl (hb hby at_473) rfl ((if0 _ _).trans (feq (by decide : ¬ (1 : Int32) = 0)).1) k) ?_
          show OGo p e below _ T182 (mkF m 476 #[.val (.int len), .val (.int mode), .val (.long a), .second, .val (.long b), .second, .val (.int (Int32.ofNat (n))), .val (.int s7), .val (.int br), .val (.ref b122), .val (.ref b163), .val (.int (0 : Int32)), .val (.ref b166), .val .null, .unset, .unset, .unset, .unset] [])
          refine og (fun _ k => XS.aload X182.here hx rfl (hb hby at_476) rfl rfl k) ?_
          show OGo p e below _ T182 (mkF m 478 #[.val (.int len), .val (.int mode), .val (.long a), .second, .val (.long b), .second, .val (.int (Int32.ofNat (n))), .val (.int s7), .val (.int br), .val (.ref b122), .val (.ref b163), .val (.int (0 : Int32)), .val (.ref b166), .val .null, .unset, .unset, .unset, .unset] [(.ref b122)])
          refine og (fun _ k => XS.iconst X182.here hx rfl (hb hby at_478) k) ?_
          show OGo p e below _ T182 (mkF m 479 #[.val (.int len), .val (.int mode), .val (.long a), .second, .val (.long b), .second, .val (.int (Int32.ofNat (n))), .val (.int s7), .val (.int br), .val (.ref b122), .val (.ref b163), .val (.int (0 : Int32)), .val (.ref b166), .val .null, .unset, .unset, .unset, .unset] [(.int (4 : Int32)), (.ref b122)])
          refine og (fun _ k => caloadV X182 hx hZ182 rfl (q181.keep K182 nin0) ⟨by decide, by decide⟩ rfl (g := (mkF m 479 #[.val (.int len), .val (.int mode), .val (.long a), .second, .val (.long b), .second, .val (.int (Int32.ofNat (n))), .val (.int s7), .val (.int br), .val (.ref b122), .val (.ref b163), .val (.int (0 : Int32)), .val (.ref b166), .val .null, .unset, .unset, .unset, .unset] [(.int (4 : Int32)), (.ref b122)])) rfl rfl (hb hby at_479) _ k) ?_
          show OGo p e below _ T182 (mkF m 480 #[.val (.int len), .val (.int mode), .val (.long a), .second, .val (.long b), .second, .val (.int (Int32.ofNat (n))), .val (.int s7), .val (.int br), .val (.ref b122), .val (.ref b163), .val (.int (0 : Int32)), .val (.ref b166), .val .null, .unset, .unset, .unset, .unset] [(.int u4)])
          refine og (fun _ k => XS.iconst X182.here hx rfl (hb hby at_480) k) ?_
          show OGo p e below _ T182 (mkF m 481 #[.val (.int len), .val (.int mode), .val (.long a), .second, .val (.long b), .second, .val (.int (Int32.ofNat (n))), .val (.int s7), .val (.int br), .val (.ref b122), .val (.ref b163), .val (.int (0 : Int32)), .val (.ref b166), .val .null, .unset, .unset, .unset, .unset] [(.int (4 : Int32)), (.int u4)])
          have q183 := (((I9C.keep K178 nin0).keep K180 nin0).keep K182 nin0)
          have q184 := (((I9F.keep K178 nin0).keep K180 nin0).keep K182 nin0)
          have q185 := (((I9V.keep K178 nin0).keep K180 nin0).keep K182 nin0)
          obtain ⟨v186, T186, L186, kk186, X186, hS186, hk186, hZ186, hown186, CR186, WV186, hQ186, st186⟩ := scallP X182 hx hZ182 hown182 (own_hEL hw) hS182 hk182 H182 (fun vm' hW => Lit.stays (s := s) (vm0 := T182.vm) LT182 hW) (own_g hw 96 rfl) (own_g hw 97 rfl) (own_g hw 4 rfl) (own_g hw 98 rfl) (by decide) (W := 0) (rm_ciB l Z a0 hw [] u4 4 a9 d9 k9 zc wf n0 T182.heap SS' ((q179.keep K180 all0).keep K182 all0) (by decide) ⟨(((I9E.keep K178).keep K180).keep K182), q183, q184, q185⟩) rfl (by decide) (by decide) (by decide) (by decide) (g := (mkF m 481 #[.val (.int len), .val (.int mode), .val (.long a), .second, .val (.long b), .second, .val (.int (Int32.ofNat (n))), .val (.int s7), .val (.int br), .val (.ref b122), .val (.ref b163), .val (.int (0 : Int32)), .val (.ref b166), .val .null, .unset, .unset, .unset, .unset] [(.int (4 : Int32)), (.int u4)])) rfl (by rw [hml]; rfl) (argsL := [(.int u4), (.int (4 : Int32))]) (rest := []) opd_32 rfl rfl rfl (by show 2 * 0 + _ ≤ _; exact Nat.le_of_eq rfl) (hb hby at_481)
          obtain ⟨rfl, N186, K186⟩ := hQ186
          have NN186 := Fr.app NN182 N186
          have KK186 : Keep h0 T186.heap [] := KK182.trans K186 all0
          have H186 := CR186.1
          have R186 := CHr.trans R182 CR186
          refine og st186 ?_
          show OGo p e below _ T186 (mkF m 484 #[.val (.int len), .val (.int mode), .val (.long a), .second, .val (.long b), .second, .val (.int (Int32.ofNat (n))), .val (.int s7), .val (.int br), .val (.ref b122), .val (.ref b163), .val (.int (0 : Int32)), .val (.ref b166), .val .null, .unset, .unset, .unset, .unset] [(.int (if own_cib 4 u4 then 1 else 0))])
          have LT186 := Lit.stays (s := s) (vm0 := T182.vm) LT182 WV186
          by_cases v4 : own_cib 4 u4
          case neg =>
            rw [if_neg v4]
            show OGo p e below _ T186 (mkF m 484 #[.val (.int len), .val (.int mode), .val (.long a), .second, .val (.long b), .second, .val (.int (Int32.ofNat (n))), .val (.int s7), .val (.int br), .val (.ref b122), .val (.ref b163), .val (.int (0 : Int32)), .val (.ref b166), .val .null, .unset, .unset, .unset, .unset] [(.int (0 : Int32))])
            refine og (fun _ k => XS.ifYes X186.here hx rfl (pc0 := 484) (pc' := 512) rfl (hb hby at_484) rfl ((if0 _ _).trans (teq (rfl : (0 : Int32) = 0)).1) (by decide) (by decide) k) ?_
            show OGo p e below _ T186 (mkF m 512 #[.val (.int len), .val (.int mode), .val (.long a), .second, .val (.long b), .second, .val (.int (Int32.ofNat (n))), .val (.int s7), .val (.int br), .val (.ref b122), .val (.ref b163), .val (.int (0 : Int32)), .val (.ref b166), .val .null, .unset, .unset, .unset, .unset] [])
            refine og (fun _ k => XS.iconst X186.here hx rfl (hb hby at_512) k) ?_
            show OGo p e below _ T186 (mkF m 513 #[.val (.int len), .val (.int mode), .val (.long a), .second, .val (.long b), .second, .val (.int (Int32.ofNat (n))), .val (.int s7), .val (.int br), .val (.ref b122), .val (.ref b163), .val (.int (0 : Int32)), .val (.ref b166), .val .null, .unset, .unset, .unset, .unset] [(.int (0 : Int32))])
            refine og (fun _ k => XS.istore X186.here hx rfl (hb hby at_513) rfl (l' := #[.val (.int len), .val (.int mode), .val (.long a), .second, .val (.long b), .second, .val (.int (Int32.ofNat (n))), .val (.int s7), .val (.int br), .val (.ref b122), .val (.ref b163), .val (.int (0 : Int32)), .val (.ref b166), .val .null, .val (.int (0 : Int32)), .unset, .unset, .unset]) rfl k) ?_
            show OGo p e below _ T186 (mkF m 515 #[.val (.int len), .val (.int mode), .val (.long a), .second, .val (.long b), .second, .val (.int (Int32.ofNat (n))), .val (.int s7), .val (.int br), .val (.ref b122), .val (.ref b163), .val (.int (0 : Int32)), .val (.ref b166), .val .null, .val (.int (0 : Int32)), .unset, .unset, .unset] [])
            refine og (fun _ k => XS.iload X186.here hx rfl (hb hby at_515) rfl k) ?_
            show OGo p e below _ T186 (mkF m 517 #[.val (.int len), .val (.int mode), .val (.long a), .second, .val (.long b), .second, .val (.int (Int32.ofNat (n))), .val (.int s7), .val (.int br), .val (.ref b122), .val (.ref b163), .val (.int (0 : Int32)), .val (.ref b166), .val .null, .val (.int (0 : Int32)), .unset, .unset, .unset] [(.int (0 : Int32))])
            refine og (fun _ k => XS.ifNo X186.here hx rfl (hb hby at_517) rfl ((if0 _ _).trans (teq (rfl : (0 : Int32) = 0)).2) k) ?_
            show OGo p e below _ T186 (mkF m 520 #[.val (.int len), .val (.int mode), .val (.long a), .second, .val (.long b), .second, .val (.int (Int32.ofNat (n))), .val (.int s7), .val (.int br), .val (.ref b122), .val (.ref b163), .val (.int (0 : Int32)), .val (.ref b166), .val .null, .val (.int (0 : Int32)), .unset, .unset, .unset] [])
            refine og (fun _ k => XS.aload X186.here hx rfl (hb hby at_520) rfl rfl k) ?_
            show OGo p e below _ T186 (mkF m 522 #[.val (.int len), .val (.int mode), .val (.long a), .second, .val (.long b), .second, .val (.int (Int32.ofNat (n))), .val (.int s7), .val (.int br), .val (.ref b122), .val (.ref b163), .val (.int (0 : Int32)), .val (.ref b166), .val .null, .val (.int (0 : Int32)), .unset, .unset, .unset] [.null])
            refine og (fun _ k => XS.ifnonnullNo X186.here hx rfl (hb hby at_522) rfl k) ?_
            show OGo p e below _ T186 (mkF m 525 #[.val (.int len), .val (.int mode), .val (.long a), .second, .val (.long b), .second, .val (.int (Int32.ofNat (n))), .val (.int s7), .val (.int br), .val (.ref b122), .val (.ref b163), .val (.int (0 : Int32)), .val (.ref b166), .val .null, .val (.int (0 : Int32)), .unset, .unset, .unset] [])
            refine og (fun _ k => XS.iconst X186.here hx rfl (hb hby at_525) k) ?_
            show OGo p e below _ T186 (mkF m 526 #[.val (.int len), .val (.int mode), .val (.long a), .second, .val (.long b), .second, .val (.int (Int32.ofNat (n))), .val (.int s7), .val (.int br), .val (.ref b122), .val (.ref b163), .val (.int (0 : Int32)), .val (.ref b166), .val .null, .val (.int (0 : Int32)), .unset, .unset, .unset] [(.int (1 : Int32))])
            refine og (fun _ k => XS.goto X186.here hx rfl (pc0 := 526) (pc' := 530) rfl (hb hby at_526) (by decide) (by decide) k) ?_
            show OGo p e below _ T186 (mkF m 530 #[.val (.int len), .val (.int mode), .val (.long a), .second, .val (.long b), .second, .val (.int (Int32.ofNat (n))), .val (.int s7), .val (.int br), .val (.ref b122), .val (.ref b163), .val (.int (0 : Int32)), .val (.ref b166), .val .null, .val (.int (0 : Int32)), .unset, .unset, .unset] [(.int (1 : Int32))])
            exact OGo.retH X186 hx hZ186 (own_hEL hw) hs0 rfl hS186 hk186 H186 R186 (t := .boolean) hret hlk rfl (Or.inl ⟨rfl, by simp, _, rfl⟩) (hb hby at_530) (by decide) (by decide) ⟨rfl, NN186⟩
          rw [if_pos v4]
          show OGo p e below _ T186 (mkF m 484 #[.val (.int len), .val (.int mode), .val (.long a), .second, .val (.long b), .second, .val (.int (Int32.ofNat (n))), .val (.int s7), .val (.int br), .val (.ref b122), .val (.ref b163), .val (.int (0 : Int32)), .val (.ref b166), .val .null, .unset, .unset, .unset, .unset] [(.int (1 : Int32))])
          refine og (fun _ k => XS.ifNo X186.here hx rfl (hb hby at_484) rfl ((if0 _ _).trans (feq (by decide : ¬ (1 : Int32) = 0)).1) k) ?_
          show OGo p e below _ T186 (mkF m 487 #[.val (.int len), .val (.int mode), .val (.long a), .second, .val (.long b), .second, .val (.int (Int32.ofNat (n))), .val (.int s7), .val (.int br), .val (.ref b122), .val (.ref b163), .val (.int (0 : Int32)), .val (.ref b166), .val .null, .unset, .unset, .unset, .unset] [])
          refine og (fun _ k => XS.aload X186.here hx rfl (hb hby at_487) rfl rfl k) ?_
          show OGo p e below _ T186 (mkF m 489 #[.val (.int len), .val (.int mode), .val (.long a), .second, .val (.long b), .second, .val (.int (Int32.ofNat (n))), .val (.int s7), .val (.int br), .val (.ref b122), .val (.ref b163), .val (.int (0 : Int32)), .val (.ref b166), .val .null, .unset, .unset, .unset, .unset] [(.ref b122)])
          refine og (fun _ k => XS.iconst X186.here hx rfl (hb hby at_489) k) ?_
          show OGo p e below _ T186 (mkF m 490 #[.val (.int len), .val (.int mode), .val (.long a), .second, .val (.long b), .second, .val (.int (Int32.ofNat (n))), .val (.int s7), .val (.int br), .val (.ref b122), .val (.ref b163), .val (.int (0 : Int32)), .val (.ref b166), .val .null, .unset, .unset, .unset, .unset] [(.int (5 : Int32)), (.ref b122)])
          refine og (fun _ k => caloadV X186 hx hZ186 rfl ((q181.keep K182 nin0).keep K186 nin0) ⟨by decide, by decide⟩ rfl (g := (mkF m 490 #[.val (.int len), .val (.int mode), .val (.long a), .second, .val (.long b), .second, .val (.int (Int32.ofNat (n))), .val (.int s7), .val (.int br), .val (.ref b122), .val (.ref b163), .val (.int (0 : Int32)), .val (.ref b166), .val .null, .unset, .unset, .unset, .unset] [(.int (5 : Int32)), (.ref b122)])) rfl rfl (hb hby at_490) _ k) ?_
          show OGo p e below _ T186 (mkF m 491 #[.val (.int len), .val (.int mode), .val (.long a), .second, .val (.long b), .second, .val (.int (Int32.ofNat (n))), .val (.int s7), .val (.int br), .val (.ref b122), .val (.ref b163), .val (.int (0 : Int32)), .val (.ref b166), .val .null, .unset, .unset, .unset, .unset] [(.int u5)])
          refine og (fun _ k => XS.iconst X186.here hx rfl (hb hby at_491) k) ?_
          show OGo p e below _ T186 (mkF m 492 #[.val (.int len), .val (.int mode), .val (.long a), .second, .val (.long b), .second, .val (.int (Int32.ofNat (n))), .val (.int s7), .val (.int br), .val (.ref b122), .val (.ref b163), .val (.int (0 : Int32)), .val (.ref b166), .val .null, .unset, .unset, .unset, .unset] [(.int (5 : Int32)), (.int u5)])
          have q187 := (((q179.keep K180 all0).keep K182 all0).keep K186 all0)
          have q188 := ((((I9E.keep K178).keep K180).keep K182).keep K186)
          obtain ⟨v189, T189, L189, kk189, X189, hS189, hk189, hZ189, hown189, CR189, WV189, hQ189, st189⟩ := scallP X186 hx hZ186 hown186 (own_hEL hw) hS186 hk186 H186 (fun vm' hW => Lit.stays (s := s) (vm0 := T186.vm) LT186 hW) (own_g hw 96 rfl) (own_g hw 97 rfl) (own_g hw 4 rfl) (own_g hw 98 rfl) (by decide) (W := 0) (rm_ciB l Z a0 hw [] u5 5 a9 d9 k9 zc wf n0 T186.heap SS' q187 (by decide) ⟨q188, (q183.keep K186 nin0), (q184.keep K186 nin0), (q185.keep K186 nin0)⟩) rfl (by decide) (by decide) (by decide) (by decide) (g := (mkF m 492 #[.val (.int len), .val (.int mode), .val (.long a), .second, .val (.long b), .second, .val (.int (Int32.ofNat (n))), .val (.int s7), .val (.int br), .val (.ref b122), .val (.ref b163), .val (.int (0 : Int32)), .val (.ref b166), .val .null, .unset, .unset, .unset, .unset] [(.int (5 : Int32)), (.int u5)])) rfl (by rw [hml]; rfl) (argsL := [(.int u5), (.int (5 : Int32))]) (rest := []) opd_32 rfl rfl rfl (by show 2 * 0 + _ ≤ _; exact Nat.le_of_eq rfl) (hb hby at_492)
          obtain ⟨rfl, N189, K189⟩ := hQ189
          have NN189 := Fr.app NN186 N189
          have KK189 : Keep h0 T189.heap [] := KK186.trans K189 all0
          have H189 := CR189.1
          have R189 := CHr.trans R186 CR189
          refine og st189 ?_
          show OGo p e below _ T189 (mkF m 495 #[.val (.int len), .val (.int mode), .val (.long a), .second, .val (.long b), .second, .val (.int (Int32.ofNat (n))), .val (.int s7), .val (.int br), .val (.ref b122), .val (.ref b163), .val (.int (0 : Int32)), .val (.ref b166), .val .null, .unset, .unset, .unset, .unset] [(.int (if own_cib 5 u5 then 1 else 0))])
          have LT189 := Lit.stays (s := s) (vm0 := T186.vm) LT186 WV189
          by_cases v5 : own_cib 5 u5
          case neg =>
            rw [if_neg v5]
            show OGo p e below _ T189 (mkF m 495 #[.val (.int len), .val (.int mode), .val (.long a), .second, .val (.long b), .second, .val (.int (Int32.ofNat (n))), .val (.int s7), .val (.int br), .val (.ref b122), .val (.ref b163), .val (.int (0 : Int32)), .val (.ref b166), .val .null, .unset, .unset, .unset, .unset] [(.int (0 : Int32))])
            refine og (fun _ k => XS.ifYes X189.here hx rfl (pc0 := 495) (pc' := 512) rfl (hb hby at_495) rfl ((if0 _ _).trans (teq (rfl : (0 : Int32) = 0)).1) (by decide) (by decide) k) ?_
            show OGo p e below _ T189 (mkF m 512 #[.val (.int len), .val (.int mode), .val (.long a), .second, .val (.long b), .second, .val (.int (Int32.ofNat (n))), .val (.int s7), .val (.int br), .val (.ref b122), .val (.ref b163), .val (.int (0 : Int32)), .val (.ref b166), .val .null, .unset, .unset, .unset, .unset] [])
            refine og (fun _ k => XS.iconst X189.here hx rfl (hb hby at_512) k) ?_
            show OGo p e below _ T189 (mkF m 513 #[.val (.int len), .val (.int mode), .val (.long a), .second, .val (.long b), .second, .val (.int (Int32.ofNat (n))), .val (.int s7), .val (.int br), .val (.ref b122), .val (.ref b163), .val (.int (0 : Int32)), .val (.ref b166), .val .null, .unset, .unset, .unset, .unset] [(.int (0 : Int32))])
            refine og (fun _ k => XS.istore X189.here hx rfl (hb hby at_513) rfl (l' := #[.val (.int len), .val (.int mode), .val (.long a), .second, .val (.long b), .second, .val (.int (Int32.ofNat (n))), .val (.int s7), .val (.int br), .val (.ref b122), .val (.ref b163), .val (.int (0 : Int32)), .val (.ref b166), .val .null, .val (.int (0 : Int32)), .unset, .unset, .unset]) rfl k) ?_
            show OGo p e below _ T189 (mkF m 515 #[.val (.int len), .val (.int mode), .val (.long a), .second, .val (.long b), .second, .val (.int (Int32.ofNat (n))), .val (.int s7), .val (.int br), .val (.ref b122), .val (.ref b163), .val (.int (0 : Int32)), .val (.ref b166), .val .null, .val (.int (0 : Int32)), .unset, .unset, .unset] [])
            refine og (fun _ k => XS.iload X189.here hx rfl (hb hby at_515) rfl k) ?_
            show OGo p e below _ T189 (mkF m 517 #[.val (.int len), .val (.int mode), .val (.long a), .second, .val (.long b), .second, .val (.int (Int32.ofNat (n))), .val (.int s7), .val (.int br), .val (.ref b122), .val (.ref b163), .val (.int (0 : Int32)), .val (.ref b166), .val .null, .val (.int (0 : Int32)), .unset, .unset, .unset] [(.int (0 : Int32))])
            refine og (fun _ k => XS.ifNo X189.here hx rfl (hb hby at_517) rfl ((if0 _ _).trans (teq (rfl : (0 : Int32) = 0)).2) k) ?_
            show OGo p e below _ T189 (mkF m 520 #[.val (.int len), .val (.int mode), .val (.long a), .second, .val (.long b), .second, .val (.int (Int32.ofNat (n))), .val (.int s7), .val (.int br), .val (.ref b122), .val (.ref b163), .val (.int (0 : Int32)), .val (.ref b166), .val .null, .val (.int (0 : Int32)), .unset, .unset, .unset] [])
            refine og (fun _ k => XS.aload X189.here hx rfl (hb hby at_520) rfl rfl k) ?_
            show OGo p e below _ T189 (mkF m 522 #[.val (.int len), .val (.int mode), .val (.long a), .second, .val (.long b), .second, .val (.int (Int32.ofNat (n))), .val (.int s7), .val (.int br), .val (.ref b122), .val (.ref b163), .val (.int (0 : Int32)), .val (.ref b166), .val .null, .val (.int (0 : Int32)), .unset, .unset, .unset] [.null])
            refine og (fun _ k => XS.ifnonnullNo X189.here hx rfl (hb hby at_522) rfl k) ?_
            show OGo p e below _ T189 (mkF m 525 #[.val (.int len), .val (.int mode), .val (.long a), .second, .val (.long b), .second, .val (.int (Int32.ofNat (n))), .val (.int s7), .val (.int br), .val (.ref b122), .val (.ref b163), .val (.int (0 : Int32)), .val (.ref b166), .val .null, .val (.int (0 : Int32)), .unset, .unset, .unset] [])
            refine og (fun _ k => XS.iconst X189.here hx rfl (hb hby at_525) k) ?_
            show OGo p e below _ T189 (mkF m 526 #[.val (.int len), .val (.int mode), .val (.long a), .second, .val (.long b), .second, .val (.int (Int32.ofNat (n))), .val (.int s7), .val (.int br), .val (.ref b122), .val (.ref b163), .val (.int (0 : Int32)), .val (.ref b166), .val .null, .val (.int (0 : Int32)), .unset, .unset, .unset] [(.int (1 : Int32))])
            refine og (fun _ k => XS.goto X189.here hx rfl (pc0 := 526) (pc' := 530) rfl (hb hby at_526) (by decide) (by decide) k) ?_
            show OGo p e below _ T189 (mkF m 530 #[.val (.int len), .val (.int mode), .val (.long a), .second, .val (.long b), .second, .val (.int (Int32.ofNat (n))), .val (.int s7), .val (.int br), .val (.ref b122), .val (.ref b163), .val (.int (0 : Int32)), .val (.ref b166), .val .null, .val (.int (0 : Int32)), .unset, .unset, .unset] [(.int (1 : Int32))])
            exact OGo.retH X189 hx hZ189 (own_hEL hw) hs0 rfl hS189 hk189 H189 R189 (t := .boolean) hret hlk rfl (Or.inl ⟨rfl, by simp, _, rfl⟩) (hb hby at_530) (by decide) (by decide) ⟨rfl, NN189⟩
          rw [if_pos v5]
          show OGo p e below _ T189 (mkF m 495 #[.val (.int len), .val (.int mode), .val (.long a), .second, .val (.long b), .second, .val (.int (Int32.ofNat (n))), .val (.int s7), .val (.int br), .val (.ref b122), .val (.ref b163), .val (.int (0 : Int32)), .val (.ref b166), .val .null, .unset, .unset, .unset, .unset] [(.int (1 : Int32))])
          refine og (fun _ k => XS.ifNo X189.here hx rfl (hb hby at_495) rfl ((if0 _ _).trans (feq (by decide : ¬ (1 : Int32) = 0)).1) k) ?_
          show OGo p e below _ T189 (mkF m 498 #[.val (.int len), .val (.int mode), .val (.long a), .second, .val (.long b), .second, .val (.int (Int32.ofNat (n))), .val (.int s7), .val (.int br), .val (.ref b122), .val (.ref b163), .val (.int (0 : Int32)), .val (.ref b166), .val .null, .unset, .unset, .unset, .unset] [])
          refine og (fun _ k => XS.aload X189.here hx rfl (hb hby at_498) rfl rfl k) ?_
          show OGo p e below _ T189 (mkF m 500 #[.val (.int len), .val (.int mode), .val (.long a), .second, .val (.long b), .second, .val (.int (Int32.ofNat (n))), .val (.int s7), .val (.int br), .val (.ref b122), .val (.ref b163), .val (.int (0 : Int32)), .val (.ref b166), .val .null, .unset, .unset, .unset, .unset] [(.ref b122)])
          refine og (fun _ k => XS.bipush X189.here hx rfl (hb hby at_500) k) ?_
          show OGo p e below _ T189 (mkF m 502 #[.val (.int len), .val (.int mode), .val (.long a), .second, .val (.long b), .second, .val (.int (Int32.ofNat (n))), .val (.int s7), .val (.int br), .val (.ref b122), .val (.ref b163), .val (.int (0 : Int32)), .val (.ref b166), .val .null, .unset, .unset, .unset, .unset] [(.int (6 : Int32)), (.ref b122)])
          have q190 := (((q181.keep K182 nin0).keep K186 nin0).keep K189 nin0)
          refine og (fun _ k => caloadV X189 hx hZ189 rfl q190 ⟨by decide, by decide⟩ rfl (g := (mkF m 502 #[.val (.int len), .val (.int mode), .val (.long a), .second, .val (.long b), .second, .val (.int (Int32.ofNat (n))), .val (.int s7), .val (.int br), .val (.ref b122), .val (.ref b163), .val (.int (0 : Int32)), .val (.ref b166), .val .null, .unset, .unset, .unset, .unset] [(.int (6 : Int32)), (.ref b122)])) rfl rfl (hb hby at_502) _ k) ?_
          show OGo p e below _ T189 (mkF m 503 #[.val (.int len), .val (.int mode), .val (.long a), .second, .val (.long b), .second, .val (.int (Int32.ofNat (n))), .val (.int s7), .val (.int br), .val (.ref b122), .val (.ref b163), .val (.int (0 : Int32)), .val (.ref b166), .val .null, .unset, .unset, .unset, .unset] [(.int u6)])
          refine og (fun _ k => XS.bipush X189.here hx rfl (hb hby at_503) k) ?_
          show OGo p e below _ T189 (mkF m 505 #[.val (.int len), .val (.int mode), .val (.long a), .second, .val (.long b), .second, .val (.int (Int32.ofNat (n))), .val (.int s7), .val (.int br), .val (.ref b122), .val (.ref b163), .val (.int (0 : Int32)), .val (.ref b166), .val .null, .unset, .unset, .unset, .unset] [(.int (32 : Int32)), (.int u6)])
          refine og (fun _ k => XS.icmpYes X189.here hx rfl (pc0 := 505) (pc' := 512) rfl (hb hby at_505) rfl (feq (fun h => hp ⟨by omega, by rw [hds]; exact (own_beart c6).mpr ⟨v0, v1, v2, v3, v4, v5⟩, by rw [hds, own_tkg c6]; exact h⟩)).2 (by decide) (by decide) k) ?_
          show OGo p e below _ T189 (mkF m 512 #[.val (.int len), .val (.int mode), .val (.long a), .second, .val (.long b), .second, .val (.int (Int32.ofNat (n))), .val (.int s7), .val (.int br), .val (.ref b122), .val (.ref b163), .val (.int (0 : Int32)), .val (.ref b166), .val .null, .unset, .unset, .unset, .unset] [])
          refine og (fun _ k => XS.iconst X189.here hx rfl (hb hby at_512) k) ?_
          show OGo p e below _ T189 (mkF m 513 #[.val (.int len), .val (.int mode), .val (.long a), .second, .val (.long b), .second, .val (.int (Int32.ofNat (n))), .val (.int s7), .val (.int br), .val (.ref b122), .val (.ref b163), .val (.int (0 : Int32)), .val (.ref b166), .val .null, .unset, .unset, .unset, .unset] [(.int (0 : Int32))])
          refine og (fun _ k => XS.istore X189.here hx rfl (hb hby at_513) rfl (l' := #[.val (.int len), .val (.int mode), .val (.long a), .second, .val (.long b), .second, .val (.int (Int32.ofNat (n))), .val (.int s7), .val (.int br), .val (.ref b122), .val (.ref b163), .val (.int (0 : Int32)), .val (.ref b166), .val .null, .val (.int (0 : Int32)), .unset, .unset, .unset]) rfl k) ?_
          show OGo p e below _ T189 (mkF m 515 #[.val (.int len), .val (.int mode), .val (.long a), .second, .val (.long b), .second, .val (.int (Int32.ofNat (n))), .val (.int s7), .val (.int br), .val (.ref b122), .val (.ref b163), .val (.int (0 : Int32)), .val (.ref b166), .val .null, .val (.int (0 : Int32)), .unset, .unset, .unset] [])
          refine og (fun _ k => XS.iload X189.here hx rfl (hb hby at_515) rfl k) ?_
          show OGo p e below _ T189 (mkF m 517 #[.val (.int len), .val (.int mode), .val (.long a), .second, .val (.long b), .second, .val (.int (Int32.ofNat (n))), .val (.int s7), .val (.int br), .val (.ref b122), .val (.ref b163), .val (.int (0 : Int32)), .val (.ref b166), .val .null, .val (.int (0 : Int32)), .unset, .unset, .unset] [(.int (0 : Int32))])
          refine og (fun _ k => XS.ifNo X189.here hx rfl (hb hby at_517) rfl ((if0 _ _).trans (teq (rfl : (0 : Int32) = 0)).2) k) ?_
          show OGo p e below _ T189 (mkF m 520 #[.val (.int len), .val (.int mode), .val (.long a), .second, .val (.long b), .second, .val (.int (Int32.ofNat (n))), .val (.int s7), .val (.int br), .val (.ref b122), .val (.ref b163), .val (.int (0 : Int32)), .val (.ref b166), .val .null, .val (.int (0 : Int32)), .unset, .unset, .unset] [])
          refine og (fun _ k => XS.aload X189.here hx rfl (hb hby at_520) rfl rfl k) ?_
          show OGo p e below _ T189 (mkF m 522 #[.val (.int len), .val (.int mode), .val (.long a), .second, .val (.long b), .second, .val (.int (Int32.ofNat (n))), .val (.int s7), .val (.int br), .val (.ref b122), .val (.ref b163), .val (.int (0 : Int32)), .val (.ref b166), .val .null, .val (.int (0 : Int32)), .unset, .unset, .unset] [.null])
          refine og (fun _ k => XS.ifnonnullNo X189.here hx rfl (hb hby at_522) rfl k) ?_
          show OGo p e below _ T189 (mkF m 525 #[.val (.int len), .val (.int mode), .val (.long a), .second, .val (.long b), .second, .val (.int (Int32.ofNat (n))), .val (.int s7), .val (.int br), .val (.ref b122), .val (.ref b163), .val (.int (0 : Int32)), .val (.ref b166), .val .null, .val (.int (0 : Int32)), .unset, .unset, .unset] [])
          refine og (fun _ k => XS.iconst X189.here hx rfl (hb hby at_525) k) ?_
          show OGo p e below _ T189 (mkF m 526 #[.val (.int len), .val (.int mode), .val (.long a), .second, .val (.long b), .second, .val (.int (Int32.ofNat (n))), .val (.int s7), .val (.int br), .val (.ref b122), .val (.ref b163), .val (.int (0 : Int32)), .val (.ref b166), .val .null, .val (.int (0 : Int32)), .unset, .unset, .unset] [(.int (1 : Int32))])
          refine og (fun _ k => XS.goto X189.here hx rfl (pc0 := 526) (pc' := 530) rfl (hb hby at_526) (by decide) (by decide) k) ?_
          show OGo p e below _ T189 (mkF m 530 #[.val (.int len), .val (.int mode), .val (.long a), .second, .val (.long b), .second, .val (.int (Int32.ofNat (n))), .val (.int s7), .val (.int br), .val (.ref b122), .val (.ref b163), .val (.int (0 : Int32)), .val (.ref b166), .val .null, .val (.int (0 : Int32)), .unset, .unset, .unset] [(.int (1 : Int32))])
          exact OGo.retH X189 hx hZ189 (own_hEL hw) hs0 rfl hS189 hk189 H189 R189 (t := .boolean) hret hlk rfl (Or.inl ⟨rfl, by simp, _, rfl⟩) (hb hby at_530) (by decide) (by decide) ⟨rfl, NN189⟩
        have q191 := ((O1.ext E166).keep K172 (allS (Nat.le_trans Z0 sz_b166) all0))
        obtain ⟨v192, T192, L192, kk192, X192, hS192, hk192, hZ192, hown192, CR192, hQ192, st192⟩ := scallH X172 hx hZ143 hown143 (own_hEL hw) hS143 (Nat.le_trans (Nat.le_trans hk1 E166.1) K172.1) H172 (own_g hw 58 rfl) (own_g hw 59 rfl) (own_g hw 60 rfl) (own_g hw 61 rfl) (by decide) (W := 0) (rm_pt l Z a0 hw [] b166 r172 kr172 ds zc wf n0 ic dA kA T172.heap SS' q191 SCk ⟨IE172, IC172, IF172, IV172⟩ hokd (by omega)) rfl (by decide) (by decide) (by decide) (by decide) (g := (mkF m 404 #[.val (.int len), .val (.int mode), .val (.long a), .second, .val (.long b), .second, .val (.int (Int32.ofNat (n))), .val (.int s7), .val (.int br), .val (.ref b122), .val (.ref b163), .val (.int (0 : Int32)), .val (.ref b166), .unset, .unset, .unset, .unset, .unset] [(.ref b166)])) rfl (by rw [hml]; rfl) (argsL := [(.ref b166)]) (rest := []) opd_30 rfl rfl rfl (by show 2 * 0 + _ ≤ _; exact Nat.le_of_eq rfl) (hb hby at_404)
        obtain ⟨N192, K192, hP192⟩ := hQ192
        obtain ⟨-, x192, r192, kr192, bs192, rfl, I192, hs192⟩ := hP192.resolve_left (fun q => q.1 hp)
        have NN192 := Fr.app NN172 N192
        have KK192 : Keep h0 T192.heap [] := KK172.trans K192 all0
        have H192 := CR192.1
        have R192 := CHr.trans R172 CR192
        refine og st192 ?_
        show OGo p e below _ T192 (mkF m 407 #[.val (.int len), .val (.int mode), .val (.long a), .second, .val (.long b), .second, .val (.int (Int32.ofNat (n))), .val (.int s7), .val (.int br), .val (.ref b122), .val (.ref b163), .val (.int (0 : Int32)), .val (.ref b166), .unset, .unset, .unset, .unset, .unset] [(.ref x192)])
        obtain ⟨JE192, JC192, JF192, JV192⟩ := I192
        have c6 : 6 < n := by have := hp.1; omega
        obtain ⟨v0, v1, v2, v3, v4, v5⟩ : own_cib 0 u0 ∧ own_cib 1 u1 ∧ own_cib 2 u2 ∧ own_cib 3 u3 ∧ own_cib 4 u4 ∧ own_cib 5 u5 := (own_beart (cs := [u0, u1, u2, u3, u4, u5, u6, u7, u8, u9]) c6).mp (by have q := hp.2.1; rw [hds] at q; exact q)
        have h32 : u6 = 32 := by have q := hp.2.2; rw [hds, own_tkg c6] at q; exact q
        rw [hds, h32] at hs192
        obtain ⟨fL, f3, f10, fD⟩ := own_fin c6 hn hs192
        refine og (fun _ k => XS.astore X192.here hx rfl (hb hby at_407) rfl rfl (l' := #[.val (.int len), .val (.int mode), .val (.long a), .second, .val (.long b), .second, .val (.int (Int32.ofNat (n))), .val (.int s7), .val (.int br), .val (.ref b122), .val (.ref b163), .val (.int (0 : Int32)), .val (.ref b166), .val (.ref x192), .unset, .unset, .unset, .unset]) rfl k) ?_
        show OGo p e below _ T192 (mkF m 409 #[.val (.int len), .val (.int mode), .val (.long a), .second, .val (.long b), .second, .val (.int (Int32.ofNat (n))), .val (.int s7), .val (.int br), .val (.ref b122), .val (.ref b163), .val (.int (0 : Int32)), .val (.ref b166), .val (.ref x192), .unset, .unset, .unset, .unset] [])
        refine og (fun _ k => XS.iload X192.here hx rfl (hb hby at_409) rfl k) ?_
        show OGo p e below _ T192 (mkF m 411 #[.val (.int len), .val (.int mode), .val (.long a), .second, .val (.long b), .second, .val (.int (Int32.ofNat (n))), .val (.int s7), .val (.int br), .val (.ref b122), .val (.ref b163), .val (.int (0 : Int32)), .val (.ref b166), .val (.ref x192), .unset, .unset, .unset, .unset] [(.int (0 : Int32))])
        refine og (fun _ k => XS.ifYes X192.here hx rfl (pc0 := 411) (pc' := 425) rfl (hb hby at_411) rfl ((if0 _ _).trans (teq (rfl : (0 : Int32) = 0)).1) (by decide) (by decide) k) ?_
        show OGo p e below _ T192 (mkF m 425 #[.val (.int len), .val (.int mode), .val (.long a), .second, .val (.long b), .second, .val (.int (Int32.ofNat (n))), .val (.int s7), .val (.int br), .val (.ref b122), .val (.ref b163), .val (.int (0 : Int32)), .val (.ref b166), .val (.ref x192), .unset, .unset, .unset, .unset] [])
        refine og (fun _ k => XS.iload X192.here hx rfl (hb hby at_425) rfl k) ?_
        show OGo p e below _ T192 (mkF m 427 #[.val (.int len), .val (.int mode), .val (.long a), .second, .val (.long b), .second, .val (.int (Int32.ofNat (n))), .val (.int s7), .val (.int br), .val (.ref b122), .val (.ref b163), .val (.int (0 : Int32)), .val (.ref b166), .val (.ref x192), .unset, .unset, .unset, .unset] [(.int (Int32.ofNat (n)))])
        refine og (fun _ k => XS.bipush X192.here hx rfl (hb hby at_427) k) ?_
        show OGo p e below _ T192 (mkF m 429 #[.val (.int len), .val (.int mode), .val (.long a), .second, .val (.long b), .second, .val (.int (Int32.ofNat (n))), .val (.int s7), .val (.int br), .val (.ref b122), .val (.ref b163), .val (.int (0 : Int32)), .val (.ref b166), .val (.ref x192), .unset, .unset, .unset, .unset] [(.int (6 : Int32)), (.int (Int32.ofNat (n)))])
        refine og (fun _ k => XS.icmpNo X192.here hx rfl (hb hby at_429) rfl (tlt (show Int32.ofNat 6 < Int32.ofNat n from (own_lt (by decide) (by omega)).mpr c6)).2.2.2 k) ?_
        show OGo p e below _ T192 (mkF m 432 #[.val (.int len), .val (.int mode), .val (.long a), .second, .val (.long b), .second, .val (.int (Int32.ofNat (n))), .val (.int s7), .val (.int br), .val (.ref b122), .val (.ref b163), .val (.int (0 : Int32)), .val (.ref b166), .val (.ref x192), .unset, .unset, .unset, .unset] [])
        refine og (fun _ k => XS.aload X192.here hx rfl (hb hby at_432) rfl rfl k) ?_
        show OGo p e below _ T192 (mkF m 434 #[.val (.int len), .val (.int mode), .val (.long a), .second, .val (.long b), .second, .val (.int (Int32.ofNat (n))), .val (.int s7), .val (.int br), .val (.ref b122), .val (.ref b163), .val (.int (0 : Int32)), .val (.ref b166), .val (.ref x192), .unset, .unset, .unset, .unset] [(.ref b122)])
        refine og (fun _ k => XS.iconst X192.here hx rfl (hb hby at_434) k) ?_
        show OGo p e below _ T192 (mkF m 435 #[.val (.int len), .val (.int mode), .val (.long a), .second, .val (.long b), .second, .val (.int (Int32.ofNat (n))), .val (.int s7), .val (.int br), .val (.ref b122), .val (.ref b163), .val (.int (0 : Int32)), .val (.ref b166), .val (.ref x192), .unset, .unset, .unset, .unset] [(.int (0 : Int32)), (.ref b122)])
        have ne193 : b122 ≠ b166 := (Nat.ne_of_lt (Nat.lt_of_lt_of_le Va.lt (Nat.le_of_eq g166.symm)))
        have q194 := (((Va.ext E166).keep K172 (ninS ne193 nin0)).keep K192 nin0)
        refine og (fun _ k => caloadV X192 hx hZ192 rfl q194 ⟨by decide, by decide⟩ rfl (g := (mkF m 435 #[.val (.int len), .val (.int mode), .val (.long a), .second, .val (.long b), .second, .val (.int (Int32.ofNat (n))), .val (.int s7), .val (.int br), .val (.ref b122), .val (.ref b163), .val (.int (0 : Int32)), .val (.ref b166), .val (.ref x192), .unset, .unset, .unset, .unset] [(.int (0 : Int32)), (.ref b122)])) rfl rfl (hb hby at_435) _ k) ?_
        show OGo p e below _ T192 (mkF m 436 #[.val (.int len), .val (.int mode), .val (.long a), .second, .val (.long b), .second, .val (.int (Int32.ofNat (n))), .val (.int s7), .val (.int br), .val (.ref b122), .val (.ref b163), .val (.int (0 : Int32)), .val (.ref b166), .val (.ref x192), .unset, .unset, .unset, .unset] [(.int u0)])
        refine og (fun _ k => XS.iconst X192.here hx rfl (hb hby at_436) k) ?_
        show OGo p e below _ T192 (mkF m 437 #[.val (.int len), .val (.int mode), .val (.long a), .second, .val (.long b), .second, .val (.int (Int32.ofNat (n))), .val (.int s7), .val (.int br), .val (.ref b122), .val (.ref b163), .val (.int (0 : Int32)), .val (.ref b166), .val (.ref x192), .unset, .unset, .unset, .unset] [(.int (0 : Int32)), (.int u0)])
        obtain ⟨v195, T195, L195, kk195, X195, hS195, hk195, hZ195, hown195, CR195, WV195, hQ195, st195⟩ := scallP X192 hx hZ192 hown192 (own_hEL hw) hS192 hk192 H192 (fun _ _ => trivial) (own_g hw 96 rfl) (own_g hw 97 rfl) (own_g hw 4 rfl) (own_g hw 98 rfl) (by decide) (W := 0) (rm_ciA l Z a0 hw [] u0 0 zc wf n0 T192.heap SS' (q191.keep K192 all0) (by decide)) rfl (by decide) (by decide) (by decide) (by decide) (g := (mkF m 437 #[.val (.int len), .val (.int mode), .val (.long a), .second, .val (.long b), .second, .val (.int (Int32.ofNat (n))), .val (.int s7), .val (.int br), .val (.ref b122), .val (.ref b163), .val (.int (0 : Int32)), .val (.ref b166), .val (.ref x192), .unset, .unset, .unset, .unset] [(.int (0 : Int32)), (.int u0)])) rfl (by rw [hml]; rfl) (argsL := [(.int u0), (.int (0 : Int32))]) (rest := []) opd_32 rfl rfl rfl (by show 2 * 0 + _ ≤ _; exact Nat.le_of_eq rfl) (hb hby at_437)
        obtain ⟨rfl, N195, K195, a9, d9, k9, I9, L9⟩ := hQ195
        have NN195 := Fr.app NN192 N195
        have KK195 : Keep h0 T195.heap [] := KK192.trans K195 all0
        have H195 := CR195.1
        have R195 := CHr.trans R192 CR195
        refine og st195 ?_
        show OGo p e below _ T195 (mkF m 440 #[.val (.int len), .val (.int mode), .val (.long a), .second, .val (.long b), .second, .val (.int (Int32.ofNat (n))), .val (.int s7), .val (.int br), .val (.ref b122), .val (.ref b163), .val (.int (0 : Int32)), .val (.ref b166), .val (.ref x192), .unset, .unset, .unset, .unset] [(.int (if own_cib 0 u0 then 1 else 0))])
        obtain ⟨I9E, I9C, I9F, I9V⟩ := I9
        rw [if_pos v0]
        show OGo p e below _ T195 (mkF m 440 #[.val (.int len), .val (.int mode), .val (.long a), .second, .val (.long b), .second, .val (.int (Int32.ofNat (n))), .val (.int s7), .val (.int br), .val (.ref b122), .val (.ref b163), .val (.int (0 : Int32)), .val (.ref b166), .val (.ref x192), .unset, .unset, .unset, .unset] [(.int (1 : Int32))])
        refine og (fun _ k => XS.ifNo X195.here hx rfl (hb hby at_440) rfl ((if0 _ _).trans (feq (by decide : ¬ (1 : Int32) = 0)).1) k) ?_
        show OGo p e below _ T195 (mkF m 443 #[.val (.int len), .val (.int mode), .val (.long a), .second, .val (.long b), .second, .val (.int (Int32.ofNat (n))), .val (.int s7), .val (.int br), .val (.ref b122), .val (.ref b163), .val (.int (0 : Int32)), .val (.ref b166), .val (.ref x192), .unset, .unset, .unset, .unset] [])
        refine og (fun _ k => XS.aload X195.here hx rfl (hb hby at_443) rfl rfl k) ?_
        show OGo p e below _ T195 (mkF m 445 #[.val (.int len), .val (.int mode), .val (.long a), .second, .val (.long b), .second, .val (.int (Int32.ofNat (n))), .val (.int s7), .val (.int br), .val (.ref b122), .val (.ref b163), .val (.int (0 : Int32)), .val (.ref b166), .val (.ref x192), .unset, .unset, .unset, .unset] [(.ref b122)])
        refine og (fun _ k => XS.iconst X195.here hx rfl (hb hby at_445) k) ?_
        show OGo p e below _ T195 (mkF m 446 #[.val (.int len), .val (.int mode), .val (.long a), .second, .val (.long b), .second, .val (.int (Int32.ofNat (n))), .val (.int s7), .val (.int br), .val (.ref b122), .val (.ref b163), .val (.int (0 : Int32)), .val (.ref b166), .val (.ref x192), .unset, .unset, .unset, .unset] [(.int (1 : Int32)), (.ref b122)])
        refine og (fun _ k => caloadV X195 hx hZ195 rfl (q194.keep K195 nin0) ⟨by decide, by decide⟩ rfl (g := (mkF m 446 #[.val (.int len), .val (.int mode), .val (.long a), .second, .val (.long b), .second, .val (.int (Int32.ofNat (n))), .val (.int s7), .val (.int br), .val (.ref b122), .val (.ref b163), .val (.int (0 : Int32)), .val (.ref b166), .val (.ref x192), .unset, .unset, .unset, .unset] [(.int (1 : Int32)), (.ref b122)])) rfl rfl (hb hby at_446) _ k) ?_
        show OGo p e below _ T195 (mkF m 447 #[.val (.int len), .val (.int mode), .val (.long a), .second, .val (.long b), .second, .val (.int (Int32.ofNat (n))), .val (.int s7), .val (.int br), .val (.ref b122), .val (.ref b163), .val (.int (0 : Int32)), .val (.ref b166), .val (.ref x192), .unset, .unset, .unset, .unset] [(.int u1)])
        refine og (fun _ k => XS.iconst X195.here hx rfl (hb hby at_447) k) ?_
        show OGo p e below _ T195 (mkF m 448 #[.val (.int len), .val (.int mode), .val (.long a), .second, .val (.long b), .second, .val (.int (Int32.ofNat (n))), .val (.int s7), .val (.int br), .val (.ref b122), .val (.ref b163), .val (.int (0 : Int32)), .val (.ref b166), .val (.ref x192), .unset, .unset, .unset, .unset] [(.int (1 : Int32)), (.int u1)])
        obtain ⟨v196, T196, L196, kk196, X196, hS196, hk196, hZ196, hown196, CR196, WV196, hQ196, st196⟩ := scallP X195 hx hZ195 hown195 (own_hEL hw) hS195 hk195 H195 (fun vm' hW => Lit.stays (s := s) (vm0 := T195.vm) (show Lit (s.setVm T195.vm) _ _ _ from L9) hW) (own_g hw 96 rfl) (own_g hw 97 rfl) (own_g hw 4 rfl) (own_g hw 98 rfl) (by decide) (W := 0) (rm_ciB l Z a0 hw [] u1 1 a9 d9 k9 zc wf n0 T195.heap SS' ((q191.keep K192 all0).keep K195 all0) (by decide) ⟨I9E, I9C, I9F, I9V⟩) rfl (by decide) (by decide) (by decide) (by decide) (g := (mkF m 448 #[.val (.int len), .val (.int mode), .val (.long a), .second, .val (.long b), .second, .val (.int (Int32.ofNat (n))), .val (.int s7), .val (.int br), .val (.ref b122), .val (.ref b163), .val (.int (0 : Int32)), .val (.ref b166), .val (.ref x192), .unset, .unset, .unset, .unset] [(.int (1 : Int32)), (.int u1)])) rfl (by rw [hml]; rfl) (argsL := [(.int u1), (.int (1 : Int32))]) (rest := []) opd_32 rfl rfl rfl (by show 2 * 0 + _ ≤ _; exact Nat.le_of_eq rfl) (hb hby at_448)
        obtain ⟨rfl, N196, K196⟩ := hQ196
        have NN196 := Fr.app NN195 N196
        have KK196 : Keep h0 T196.heap [] := KK195.trans K196 all0
        have H196 := CR196.1
        have R196 := CHr.trans R195 CR196
        refine og st196 ?_
        show OGo p e below _ T196 (mkF m 451 #[.val (.int len), .val (.int mode), .val (.long a), .second, .val (.long b), .second, .val (.int (Int32.ofNat (n))), .val (.int s7), .val (.int br), .val (.ref b122), .val (.ref b163), .val (.int (0 : Int32)), .val (.ref b166), .val (.ref x192), .unset, .unset, .unset, .unset] [(.int (if own_cib 1 u1 then 1 else 0))])
        have LT196 := Lit.stays (s := s) (vm0 := T195.vm) (show Lit (s.setVm T195.vm) _ _ _ from L9) WV196
        rw [if_pos v1]
        show OGo p e below _ T196 (mkF m 451 #[.val (.int len), .val (.int mode), .val (.long a), .second, .val (.long b), .second, .val (.int (Int32.ofNat (n))), .val (.int s7), .val (.int br), .val (.ref b122), .val (.ref b163), .val (.int (0 : Int32)), .val (.ref b166), .val (.ref x192), .unset, .unset, .unset, .unset] [(.int (1 : Int32))])
        refine og (fun _ k => XS.ifNo X196.here hx rfl (hb hby at_451) rfl ((if0 _ _).trans (feq (by decide : ¬ (1 : Int32) = 0)).1) k) ?_
        show OGo p e below _ T196 (mkF m 454 #[.val (.int len), .val (.int mode), .val (.long a), .second, .val (.long b), .second, .val (.int (Int32.ofNat (n))), .val (.int s7), .val (.int br), .val (.ref b122), .val (.ref b163), .val (.int (0 : Int32)), .val (.ref b166), .val (.ref x192), .unset, .unset, .unset, .unset] [])
        refine og (fun _ k => XS.aload X196.here hx rfl (hb hby at_454) rfl rfl k) ?_
        show OGo p e below _ T196 (mkF m 456 #[.val (.int len), .val (.int mode), .val (.long a), .second, .val (.long b), .second, .val (.int (Int32.ofNat (n))), .val (.int s7), .val (.int br), .val (.ref b122), .val (.ref b163), .val (.int (0 : Int32)), .val (.ref b166), .val (.ref x192), .unset, .unset, .unset, .unset] [(.ref b122)])
        refine og (fun _ k => XS.iconst X196.here hx rfl (hb hby at_456) k) ?_
        show OGo p e below _ T196 (mkF m 457 #[.val (.int len), .val (.int mode), .val (.long a), .second, .val (.long b), .second, .val (.int (Int32.ofNat (n))), .val (.int s7), .val (.int br), .val (.ref b122), .val (.ref b163), .val (.int (0 : Int32)), .val (.ref b166), .val (.ref x192), .unset, .unset, .unset, .unset] [(.int (2 : Int32)), (.ref b122)])
        refine og (fun _ k => caloadV X196 hx hZ196 rfl ((q194.keep K195 nin0).keep K196 nin0) ⟨by decide, by decide⟩ rfl (g := (mkF m 457 #[.val (.int len), .val (.int mode), .val (.long a), .second, .val (.long b), .second, .val (.int (Int32.ofNat (n))), .val (.int s7), .val (.int br), .val (.ref b122), .val (.ref b163), .val (.int (0 : Int32)), .val (.ref b166), .val (.ref x192), .unset, .unset, .unset, .unset] [(.int (2 : Int32)), (.ref b122)])) rfl rfl (hb hby at_457) _ k) ?_
        show OGo p e below _ T196 (mkF m 458 #[.val (.int len), .val (.int mode), .val (.long a), .second, .val (.long b), .second, .val (.int (Int32.ofNat (n))), .val (.int s7), .val (.int br), .val (.ref b122), .val (.ref b163), .val (.int (0 : Int32)), .val (.ref b166), .val (.ref x192), .unset, .unset, .unset, .unset] [(.int u2)])
        refine og (fun _ k => XS.iconst X196.here hx rfl (hb hby at_458) k) ?_
        show OGo p e below _ T196 (mkF m 459 #[.val (.int len), .val (.int mode), .val (.long a), .second, .val (.long b), .second, .val (.int (Int32.ofNat (n))), .val (.int s7), .val (.int br), .val (.ref b122), .val (.ref b163), .val (.int (0 : Int32)), .val (.ref b166), .val (.ref x192), .unset, .unset, .unset, .unset] [(.int (2 : Int32)), (.int u2)])
        have q197 := (((q191.keep K192 all0).keep K195 all0).keep K196 all0)
        obtain ⟨v198, T198, L198, kk198, X198, hS198, hk198, hZ198, hown198, CR198, WV198, hQ198, st198⟩ := scallP X196 hx hZ196 hown196 (own_hEL hw) hS196 hk196 H196 (fun vm' hW => Lit.stays (s := s) (vm0 := T196.vm) LT196 hW) (own_g hw 96 rfl) (own_g hw 97 rfl) (own_g hw 4 rfl) (own_g hw 98 rfl) (by decide) (W := 0) (rm_ciB l Z a0 hw [] u2 2 a9 d9 k9 zc wf n0 T196.heap SS' q197 (by decide) ⟨(I9E.keep K196), (I9C.keep K196 nin0), (I9F.keep K196 nin0), (I9V.keep K196 nin0)⟩) rfl (by decide) (by decide) (by decide) (by decide) (g := (mkF m 459 #[.val (.int len), .val (.int mode), .val (.long a), .second, .val (.long b), .second, .val (.int (Int32.ofNat (n))), .val (.int s7), .val (.int br), .val (.ref b122), .val (.ref b163), .val (.int (0 : Int32)), .val (.ref b166), .val (.ref x192), .unset, .unset, .unset, .unset] [(.int (2 : Int32)), (.int u2)])) rfl (by rw [hml]; rfl) (argsL := [(.int u2), (.int (2 : Int32))]) (rest := []) opd_32 rfl rfl rfl (by show 2 * 0 + _ ≤ _; exact Nat.le_of_eq rfl) (hb hby at_459)
        obtain ⟨rfl, N198, K198⟩ := hQ198
        have NN198 := Fr.app NN196 N198
        have KK198 : Keep h0 T198.heap [] := KK196.trans K198 all0
        have H198 := CR198.1
        have R198 := CHr.trans R196 CR198
        refine og st198 ?_
        show OGo p e below _ T198 (mkF m 462 #[.val (.int len), .val (.int mode), .val (.long a), .second, .val (.long b), .second, .val (.int (Int32.ofNat (n))), .val (.int s7), .val (.int br), .val (.ref b122), .val (.ref b163), .val (.int (0 : Int32)), .val (.ref b166), .val (.ref x192), .unset, .unset, .unset, .unset] [(.int (if own_cib 2 u2 then 1 else 0))])
        have LT198 := Lit.stays (s := s) (vm0 := T196.vm) LT196 WV198
        rw [if_pos v2]
        show OGo p e below _ T198 (mkF m 462 #[.val (.int len), .val (.int mode), .val (.long a), .second, .val (.long b), .second, .val (.int (Int32.ofNat (n))), .val (.int s7), .val (.int br), .val (.ref b122), .val (.ref b163), .val (.int (0 : Int32)), .val (.ref b166), .val (.ref x192), .unset, .unset, .unset, .unset] [(.int (1 : Int32))])
        refine og (fun _ k => XS.ifNo X198.here hx rfl (hb hby at_462) rfl ((if0 _ _).trans (feq (by decide : ¬ (1 : Int32) = 0)).1) k) ?_
        show OGo p e below _ T198 (mkF m 465 #[.val (.int len), .val (.int mode), .val (.long a), .second, .val (.long b), .second, .val (.int (Int32.ofNat (n))), .val (.int s7), .val (.int br), .val (.ref b122), .val (.ref b163), .val (.int (0 : Int32)), .val (.ref b166), .val (.ref x192), .unset, .unset, .unset, .unset] [])
        refine og (fun _ k => XS.aload X198.here hx rfl (hb hby at_465) rfl rfl k) ?_
        show OGo p e below _ T198 (mkF m 467 #[.val (.int len), .val (.int mode), .val (.long a), .second, .val (.long b), .second, .val (.int (Int32.ofNat (n))), .val (.int s7), .val (.int br), .val (.ref b122), .val (.ref b163), .val (.int (0 : Int32)), .val (.ref b166), .val (.ref x192), .unset, .unset, .unset, .unset] [(.ref b122)])
        refine og (fun _ k => XS.iconst X198.here hx rfl (hb hby at_467) k) ?_
        show OGo p e below _ T198 (mkF m 468 #[.val (.int len), .val (.int mode), .val (.long a), .second, .val (.long b), .second, .val (.int (Int32.ofNat (n))), .val (.int s7), .val (.int br), .val (.ref b122), .val (.ref b163), .val (.int (0 : Int32)), .val (.ref b166), .val (.ref x192), .unset, .unset, .unset, .unset] [(.int (3 : Int32)), (.ref b122)])
        have q199 := (((q194.keep K195 nin0).keep K196 nin0).keep K198 nin0)
        refine og (fun _ k => caloadV X198 hx hZ198 rfl q199 ⟨by decide, by decide⟩ rfl (g := (mkF m 468 #[.val (.int len), .val (.int mode), .val (.long a), .second, .val (.long b), .second, .val (.int (Int32.ofNat (n))), .val (.int s7), .val (.int br), .val (.ref b122), .val (.ref b163), .val (.int (0 : Int32)), .val (.ref b166), .val (.ref x192), .unset, .unset, .unset, .unset] [(.int (3 : Int32)), (.ref b122)])) rfl rfl (hb hby at_468) _ k) ?_
        show OGo p e below _ T198 (mkF m 469 #[.val (.int len), .val (.int mode), .val (.long a), .second, .val (.long b), .second, .val (.int (Int32.ofNat (n))), .val (.int s7), .val (.int br), .val (.ref b122), .val (.ref b163), .val (.int (0 : Int32)), .val (.ref b166), .val (.ref x192), .unset, .unset, .unset, .unset] [(.int u3)])
        refine og (fun _ k => XS.iconst X198.here hx rfl (hb hby at_469) k) ?_
        show OGo p e below _ T198 (mkF m 470 #[.val (.int len), .val (.int mode), .val (.long a), .second, .val (.long b), .second, .val (.int (Int32.ofNat (n))), .val (.int s7), .val (.int br), .val (.ref b122), .val (.ref b163), .val (.int (0 : Int32)), .val (.ref b166), .val (.ref x192), .unset, .unset, .unset, .unset] [(.int (3 : Int32)), (.int u3)])
        obtain ⟨v200, T200, L200, kk200, X200, hS200, hk200, hZ200, hown200, CR200, WV200, hQ200, st200⟩ := scallP X198 hx hZ198 hown198 (own_hEL hw) hS198 hk198 H198 (fun vm' hW => Lit.stays (s := s) (vm0 := T198.vm) LT198 hW) (own_g hw 96 rfl) (own_g hw 97 rfl) (own_g hw 4 rfl) (own_g hw 98 rfl) (by decide) (W := 0) (rm_ciB l Z a0 hw [] u3 3 a9 d9 k9 zc wf n0 T198.heap SS' (q197.keep K198 all0) (by decide) ⟨((I9E.keep K196).keep K198), ((I9C.keep K196 nin0).keep K198 nin0), ((I9F.keep K196 nin0).keep K198 nin0), ((I9V.keep K196 nin0).keep K198 nin0)⟩) rfl (by decide) (by decide) (by decide) (by decide) (g := (mkF m 470 #[.val (.int len), .val (.int mode), .val (.long a), .second, .val (.long b), .second, .val (.int (Int32.ofNat (n))), .val (.int s7), .val (.int br), .val (.ref b122), .val (.ref b163), .val (.int (0 : Int32)), .val (.ref b166), .val (.ref x192), .unset, .unset, .unset, .unset] [(.int (3 : Int32)), (.int u3)])) rfl (by rw [hml]; rfl) (argsL := [(.int u3), (.int (3 : Int32))]) (rest := []) opd_32 rfl rfl rfl (by show 2 * 0 + _ ≤ _; exact Nat.le_of_eq rfl) (hb hby at_470)
        obtain ⟨rfl, N200, K200⟩ := hQ200
        have NN200 := Fr.app NN198 N200
        have KK200 : Keep h0 T200.heap [] := KK198.trans K200 all0
        have H200 := CR200.1
        have R200 := CHr.trans R198 CR200
        refine og st200 ?_
        show OGo p e below _ T200 (mkF m 473 #[.val (.int len), .val (.int mode), .val (.long a), .second, .val (.long b), .second, .val (.int (Int32.ofNat (n))), .val (.int s7), .val (.int br), .val (.ref b122), .val (.ref b163), .val (.int (0 : Int32)), .val (.ref b166), .val (.ref x192), .unset, .unset, .unset, .unset] [(.int (if own_cib 3 u3 then 1 else 0))])
        have LT200 := Lit.stays (s := s) (vm0 := T198.vm) LT198 WV200
        rw [if_pos v3]
        show OGo p e below _ T200 (mkF m 473 #[.val (.int len), .val (.int mode), .val (.long a), .second, .val (.long b), .second, .val (.int (Int32.ofNat (n))), .val (.int s7), .val (.int br), .val (.ref b122), .val (.ref b163), .val (.int (0 : Int32)), .val (.ref b166), .val (.ref x192), .unset, .unset, .unset, .unset] [(.int (1 : Int32))])
        refine og (fun _ k => XS.ifNo X200.here hx rfl (hb hby at_473) rfl ((if0 _ _).trans (feq (by decide : ¬ (1 : Int32) = 0)).1) k) ?_
        show OGo p e below _ T200 (mkF m 476 #[.val (.int len), .val (.int mode), .val (.long a), .second, .val (.long b), .second, .val (.int (Int32.ofNat (n))), .val (.int s7), .val (.int br), .val (.ref b122), .val (.ref b163), .val (.int (0 : Int32)), .val (.ref b166), .val (.ref x192), .unset, .unset, .unset, .unset] [])
        refine og (fun _ k => XS.aload X200.here hx rfl (hb hby at_476) rfl rfl k) ?_
        show OGo p e below _ T200 (mkF m 478 #[.val (.int len), .val (.int mode), .val (.long a), .second, .val (.long b), .second, .val (.int (Int32.ofNat (n))), .val (.int s7), .val (.int br), .val (.ref b122), .val (.ref b163), .val (.int (0 : Int32)), .val (.ref b166), .val (.ref x192), .unset, .unset, .unset, .unset] [(.ref b122)])
        refine og (fun _ k => XS.iconst X200.here hx rfl (hb hby at_478) k) ?_
        show OGo p e below _ T200 (mkF m 479 #[.val (.int len), .val (.int mode), .val (.long a), .second, .val (.long b), .second, .val (.int (Int32.ofNat (n))), .val (.int s7), .val (.int br), .val (.ref b122), .val (.ref b163), .val (.int (0 : Int32)), .val (.ref b166), .val (.ref x192), .unset, .unset, .unset, .unset] [(.int (4 : Int32)), (.ref b122)])
        refine og (fun _ k => caloadV X200 hx hZ200 rfl (q199.keep K200 nin0) ⟨by decide, by decide⟩ rfl (g := (mkF m 479 #[.val (.int len), .val (.int mode), .val (.long a), .second, .val (.long b), .second, .val (.int (Int32.ofNat (n))), .val (.int s7), .val (.int br), .val (.ref b122), .val (.ref b163), .val (.int (0 : Int32)), .val (.ref b166), .val (.ref x192), .unset, .unset, .unset, .unset] [(.int (4 : Int32)), (.ref b122)])) rfl rfl (hb hby at_479) _ k) ?_
        show OGo p e below _ T200 (mkF m 480 #[.val (.int len), .val (.int mode), .val (.long a), .second, .val (.long b), .second, .val (.int (Int32.ofNat (n))), .val (.int s7), .val (.int br), .val (.ref b122), .val (.ref b163), .val (.int (0 : Int32)), .val (.ref b166), .val (.ref x192), .unset, .unset, .unset, .unset] [(.int u4)])
        refine og (fun _ k => XS.iconst X200.here hx rfl (hb hby at_480) k) ?_
        show OGo p e below _ T200 (mkF m 481 #[.val (.int len), .val (.int mode), .val (.long a), .second, .val (.long b), .second, .val (.int (Int32.ofNat (n))), .val (.int s7), .val (.int br), .val (.ref b122), .val (.ref b163), .val (.int (0 : Int32)), .val (.ref b166), .val (.ref x192), .unset, .unset, .unset, .unset] [(.int (4 : Int32)), (.int u4)])
        have q201 := (((I9C.keep K196 nin0).keep K198 nin0).keep K200 nin0)
        have q202 := (((I9F.keep K196 nin0).keep K198 nin0).keep K200 nin0)
        have q203 := (((I9V.keep K196 nin0).keep K198 nin0).keep K200 nin0)
        obtain ⟨v204, T204, L204, kk204, X204, hS204, hk204, hZ204, hown204, CR204, WV204, hQ204, st204⟩ := scallP X200 hx hZ200 hown200 (own_hEL hw) hS200 hk200 H200 (fun vm' hW => Lit.stays (s := s) (vm0 := T200.vm) LT200 hW) (own_g hw 96 rfl) (own_g hw 97 rfl) (own_g hw 4 rfl) (own_g hw 98 rfl) (by decide) (W := 0) (rm_ciB l Z a0 hw [] u4 4 a9 d9 k9 zc wf n0 T200.heap SS' ((q197.keep K198 all0).keep K200 all0) (by decide) ⟨(((I9E.keep K196).keep K198).keep K200), q201, q202, q203⟩) rfl (by decide) (by decide) (by decide) (by decide) (g := (mkF m 481 #[.val (.int len), .val (.int mode), .val (.long a), .second, .val (.long b), .second, .val (.int (Int32.ofNat (n))), .val (.int s7), .val (.int br), .val (.ref b122), .val (.ref b163), .val (.int (0 : Int32)), .val (.ref b166), .val (.ref x192), .unset, .unset, .unset, .unset] [(.int (4 : Int32)), (.int u4)])) rfl (by rw [hml]; rfl) (argsL := [(.int u4), (.int (4 : Int32))]) (rest := []) opd_32 rfl rfl rfl (by show 2 * 0 + _ ≤ _; exact Nat.le_of_eq rfl) (hb hby at_481)
        obtain ⟨rfl, N204, K204⟩ := hQ204
        have NN204 := Fr.app NN200 N204
        have KK204 : Keep h0 T204.heap [] := KK200.trans K204 all0
        have H204 := CR204.1
        have R204 := CHr.trans R200 CR204
        refine og st204 ?_
        show OGo p e below _ T204 (mkF m 484 #[.val (.int len), .val (.int mode), .val (.long a), .second, .val (.long b), .second, .val (.int (Int32.ofNat (n))), .val (.int s7), .val (.int br), .val (.ref b122), .val (.ref b163), .val (.int (0 : Int32)), .val (.ref b166), .val (.ref x192), .unset, .unset, .unset, .unset] [(.int (if own_cib 4 u4 then 1 else 0))])
        have LT204 := Lit.stays (s := s) (vm0 := T200.vm) LT200 WV204
        rw [if_pos v4]
        show OGo p e below _ T204 (mkF m 484 #[.val (.int len), .val (.int mode), .val (.long a), .second, .val (.long b), .second, .val (.int (Int32.ofNat (n))), .val (.int s7), .val (.int br), .val (.ref b122), .val (.ref b163), .val (.int (0 : Int32)), .val (.ref b166), .val (.ref x192), .unset, .unset, .unset, .unset] [(.int (1 : Int32))])
        refine og (fun _ k => XS.ifNo X204.here hx rfl (hb hby at_484) rfl ((if0 _ _).trans (feq (by decide : ¬ (1 : Int32) = 0)).1) k) ?_
        show OGo p e below _ T204 (mkF m 487 #[.val (.int len), .val (.int mode), .val (.long a), .second, .val (.long b), .second, .val (.int (Int32.ofNat (n))), .val (.int s7), .val (.int br), .val (.ref b122), .val (.ref b163), .val (.int (0 : Int32)), .val (.ref b166), .val (.ref x192), .unset, .unset, .unset, .unset] [])
        refine og (fun _ k => XS.aload X204.here hx rfl (hb hby at_487) rfl rfl k) ?_
        show OGo p e below _ T204 (mkF m 489 #[.val (.int len), .val (.int mode), .val (.long a), .second, .val (.long b), .second, .val (.int (Int32.ofNat (n))), .val (.int s7), .val (.int br), .val (.ref b122), .val (.ref b163), .val (.int (0 : Int32)), .val (.ref b166), .val (.ref x192), .unset, .unset, .unset, .unset] [(.ref b122)])
        refine og (fun _ k => XS.iconst X204.here hx rfl (hb hby at_489) k) ?_
        show OGo p e below _ T204 (mkF m 490 #[.val (.int len), .val (.int mode), .val (.long a), .second, .val (.long b), .second, .val (.int (Int32.ofNat (n))), .val (.int s7), .val (.int br), .val (.ref b122), .val (.ref b163), .val (.int (0 : Int32)), .val (.ref b166), .val (.ref x192), .unset, .unset, .unset, .unset] [(.int (5 : Int32)), (.ref b122)])
        refine og (fun _ k => caloadV X204 hx hZ204 rfl ((q199.keep K200 nin0).keep K204 nin0) ⟨by decide, by decide⟩ rfl (g := (mkF m 490 #[.val (.int len), .val (.int mode), .val (.long a), .second, .val (.long b), .second, .val (.int (Int32.ofNat (n))), .val (.int s7), .val (.int br), .val (.ref b122), .val (.ref b163), .val (.int (0 : Int32)), .val (.ref b166), .val (.ref x192), .unset, .unset, .unset, .unset] [(.int (5 : Int32)), (.ref b122)])) rfl rfl (hb hby at_490) _ k) ?_
        show OGo p e below _ T204 (mkF m 491 #[.val (.int len), .val (.int mode), .val (.long a), .second, .val (.long b), .second, .val (.int (Int32.ofNat (n))), .val (.int s7), .val (.int br), .val (.ref b122), .val (.ref b163), .val (.int (0 : Int32)), .val (.ref b166), .val (.ref x192), .unset, .unset, .unset, .unset] [(.int u5)])
        refine og (fun _ k => XS.iconst X204.here hx rfl (hb hby at_491) k) ?_
        show OGo p e below _ T204 (mkF m 492 #[.val (.int len), .val (.int mode), .val (.long a), .second, .val (.long b), .second, .val (.int (Int32.ofNat (n))), .val (.int s7), .val (.int br), .val (.ref b122), .val (.ref b163), .val (.int (0 : Int32)), .val (.ref b166), .val (.ref x192), .unset, .unset, .unset, .unset] [(.int (5 : Int32)), (.int u5)])
        have q205 := (((q197.keep K198 all0).keep K200 all0).keep K204 all0)
        have q206 := ((((I9E.keep K196).keep K198).keep K200).keep K204)
        obtain ⟨v207, T207, L207, kk207, X207, hS207, hk207, hZ207, hown207, CR207, WV207, hQ207, st207⟩ := scallP X204 hx hZ204 hown204 (own_hEL hw) hS204 hk204 H204 (fun vm' hW => Lit.stays (s := s) (vm0 := T204.vm) LT204 hW) (own_g hw 96 rfl) (own_g hw 97 rfl) (own_g hw 4 rfl) (own_g hw 98 rfl) (by decide) (W := 0) (rm_ciB l Z a0 hw [] u5 5 a9 d9 k9 zc wf n0 T204.heap SS' q205 (by decide) ⟨q206, (q201.keep K204 nin0), (q202.keep K204 nin0), (q203.keep K204 nin0)⟩) rfl (by decide) (by decide) (by decide) (by decide) (g := (mkF m 492 #[.val (.int len), .val (.int mode), .val (.long a), .second, .val (.long b), .second, .val (.int (Int32.ofNat (n))), .val (.int s7), .val (.int br), .val (.ref b122), .val (.ref b163), .val (.int (0 : Int32)), .val (.ref b166), .val (.ref x192), .unset, .unset, .unset, .unset] [(.int (5 : Int32)), (.int u5)])) rfl (by rw [hml]; rfl) (argsL := [(.int u5), (.int (5 : Int32))]) (rest := []) opd_32 rfl rfl rfl (by show 2 * 0 + _ ≤ _; exact Nat.le_of_eq rfl) (hb hby at_492)
        obtain ⟨rfl, N207, K207⟩ := hQ207
        have NN207 := Fr.app NN204 N207
        have KK207 : Keep h0 T207.heap [] := KK204.trans K207 all0
        have H207 := CR207.1
        have R207 := CHr.trans R204 CR207
        refine og st207 ?_
        show OGo p e below _ T207 (mkF m 495 #[.val (.int len), .val (.int mode), .val (.long a), .second, .val (.long b), .second, .val (.int (Int32.ofNat (n))), .val (.int s7), .val (.int br), .val (.ref b122), .val (.ref b163), .val (.int (0 : Int32)), .val (.ref b166), .val (.ref x192), .unset, .unset, .unset, .unset] [(.int (if own_cib 5 u5 then 1 else 0))])
        have LT207 := Lit.stays (s := s) (vm0 := T204.vm) LT204 WV207
        rw [if_pos v5]
        show OGo p e below _ T207 (mkF m 495 #[.val (.int len), .val (.int mode), .val (.long a), .second, .val (.long b), .second, .val (.int (Int32.ofNat (n))), .val (.int s7), .val (.int br), .val (.ref b122), .val (.ref b163), .val (.int (0 : Int32)), .val (.ref b166), .val (.ref x192), .unset, .unset, .unset, .unset] [(.int (1 : Int32))])
        refine og (fun _ k => XS.ifNo X207.here hx rfl (hb hby at_495) rfl ((if0 _ _).trans (feq (by decide : ¬ (1 : Int32) = 0)).1) k) ?_
        show OGo p e below _ T207 (mkF m 498 #[.val (.int len), .val (.int mode), .val (.long a), .second, .val (.long b), .second, .val (.int (Int32.ofNat (n))), .val (.int s7), .val (.int br), .val (.ref b122), .val (.ref b163), .val (.int (0 : Int32)), .val (.ref b166), .val (.ref x192), .unset, .unset, .unset, .unset] [])
        refine og (fun _ k => XS.aload X207.here hx rfl (hb hby at_498) rfl rfl k) ?_
        show OGo p e below _ T207 (mkF m 500 #[.val (.int len), .val (.int mode), .val (.long a), .second, .val (.long b), .second, .val (.int (Int32.ofNat (n))), .val (.int s7), .val (.int br), .val (.ref b122), .val (.ref b163), .val (.int (0 : Int32)), .val (.ref b166), .val (.ref x192), .unset, .unset, .unset, .unset] [(.ref b122)])
        refine og (fun _ k => XS.bipush X207.here hx rfl (hb hby at_500) k) ?_
        show OGo p e below _ T207 (mkF m 502 #[.val (.int len), .val (.int mode), .val (.long a), .second, .val (.long b), .second, .val (.int (Int32.ofNat (n))), .val (.int s7), .val (.int br), .val (.ref b122), .val (.ref b163), .val (.int (0 : Int32)), .val (.ref b166), .val (.ref x192), .unset, .unset, .unset, .unset] [(.int (6 : Int32)), (.ref b122)])
        have q208 := (((q199.keep K200 nin0).keep K204 nin0).keep K207 nin0)
        refine og (fun _ k => caloadV X207 hx hZ207 rfl q208 ⟨by decide, by decide⟩ rfl (g := (mkF m 502 #[.val (.int len), .val (.int mode), .val (.long a), .second, .val (.long b), .second, .val (.int (Int32.ofNat (n))), .val (.int s7), .val (.int br), .val (.ref b122), .val (.ref b163), .val (.int (0 : Int32)), .val (.ref b166), .val (.ref x192), .unset, .unset, .unset, .unset] [(.int (6 : Int32)), (.ref b122)])) rfl rfl (hb hby at_502) _ k) ?_
        show OGo p e below _ T207 (mkF m 503 #[.val (.int len), .val (.int mode), .val (.long a), .second, .val (.long b), .second, .val (.int (Int32.ofNat (n))), .val (.int s7), .val (.int br), .val (.ref b122), .val (.ref b163), .val (.int (0 : Int32)), .val (.ref b166), .val (.ref x192), .unset, .unset, .unset, .unset] [(.int u6)])
        refine og (fun _ k => XS.bipush X207.here hx rfl (hb hby at_503) k) ?_
        show OGo p e below _ T207 (mkF m 505 #[.val (.int len), .val (.int mode), .val (.long a), .second, .val (.long b), .second, .val (.int (Int32.ofNat (n))), .val (.int s7), .val (.int br), .val (.ref b122), .val (.ref b163), .val (.int (0 : Int32)), .val (.ref b166), .val (.ref x192), .unset, .unset, .unset, .unset] [(.int (32 : Int32)), (.int u6)])
        refine og (fun _ k => XS.icmpNo X207.here hx rfl (hb hby at_505) rfl (teq h32).2 k) ?_
        show OGo p e below _ T207 (mkF m 508 #[.val (.int len), .val (.int mode), .val (.long a), .second, .val (.long b), .second, .val (.int (Int32.ofNat (n))), .val (.int s7), .val (.int br), .val (.ref b122), .val (.ref b163), .val (.int (0 : Int32)), .val (.ref b166), .val (.ref x192), .unset, .unset, .unset, .unset] [])
        refine og (fun _ k => XS.iconst X207.here hx rfl (hb hby at_508) k) ?_
        show OGo p e below _ T207 (mkF m 509 #[.val (.int len), .val (.int mode), .val (.long a), .second, .val (.long b), .second, .val (.int (Int32.ofNat (n))), .val (.int s7), .val (.int br), .val (.ref b122), .val (.ref b163), .val (.int (0 : Int32)), .val (.ref b166), .val (.ref x192), .unset, .unset, .unset, .unset] [(.int (1 : Int32))])
        refine og (fun _ k => XS.goto X207.here hx rfl (pc0 := 509) (pc' := 513) rfl (hb hby at_509) (by decide) (by decide) k) ?_
        show OGo p e below _ T207 (mkF m 513 #[.val (.int len), .val (.int mode), .val (.long a), .second, .val (.long b), .second, .val (.int (Int32.ofNat (n))), .val (.int s7), .val (.int br), .val (.ref b122), .val (.ref b163), .val (.int (0 : Int32)), .val (.ref b166), .val (.ref x192), .unset, .unset, .unset, .unset] [(.int (1 : Int32))])
        refine og (fun _ k => XS.istore X207.here hx rfl (hb hby at_513) rfl (l' := #[.val (.int len), .val (.int mode), .val (.long a), .second, .val (.long b), .second, .val (.int (Int32.ofNat (n))), .val (.int s7), .val (.int br), .val (.ref b122), .val (.ref b163), .val (.int (0 : Int32)), .val (.ref b166), .val (.ref x192), .val (.int (1 : Int32)), .unset, .unset, .unset]) rfl k) ?_
        show OGo p e below _ T207 (mkF m 515 #[.val (.int len), .val (.int mode), .val (.long a), .second, .val (.long b), .second, .val (.int (Int32.ofNat (n))), .val (.int s7), .val (.int br), .val (.ref b122), .val (.ref b163), .val (.int (0 : Int32)), .val (.ref b166), .val (.ref x192), .val (.int (1 : Int32)), .unset, .unset, .unset] [])
        refine og (fun _ k => XS.iload X207.here hx rfl (hb hby at_515) rfl k) ?_
        show OGo p e below _ T207 (mkF m 517 #[.val (.int len), .val (.int mode), .val (.long a), .second, .val (.long b), .second, .val (.int (Int32.ofNat (n))), .val (.int s7), .val (.int br), .val (.ref b122), .val (.ref b163), .val (.int (0 : Int32)), .val (.ref b166), .val (.ref x192), .val (.int (1 : Int32)), .unset, .unset, .unset] [(.int (1 : Int32))])
        refine og (fun _ k => XS.ifYes X207.here hx rfl (pc0 := 517) (pc' := 531) rfl (hb hby at_517) rfl ((if0 _ _).trans (feq (by decide : ¬ (1 : Int32) = 0)).2) (by decide) (by decide) k) ?_
        show OGo p e below _ T207 (mkF m 531 #[.val (.int len), .val (.int mode), .val (.long a), .second, .val (.long b), .second, .val (.int (Int32.ofNat (n))), .val (.int s7), .val (.int br), .val (.ref b122), .val (.ref b163), .val (.int (0 : Int32)), .val (.ref b166), .val (.ref x192), .val (.int (1 : Int32)), .unset, .unset, .unset] [])
        refine og (fun _ k => XS.aload X207.here hx rfl (hb hby at_531) rfl rfl k) ?_
        show OGo p e below _ T207 (mkF m 533 #[.val (.int len), .val (.int mode), .val (.long a), .second, .val (.long b), .second, .val (.int (Int32.ofNat (n))), .val (.int s7), .val (.int br), .val (.ref b122), .val (.ref b163), .val (.int (0 : Int32)), .val (.ref b166), .val (.ref x192), .val (.int (1 : Int32)), .unset, .unset, .unset] [(.ref x192)])
        refine og (fun _ k => XS.ifnonnullYes X207.here hx rfl (pc0 := 533) (pc' := 538) rfl (hb hby at_533) rfl (by decide) (by decide) k) ?_
        show OGo p e below _ T207 (mkF m 538 #[.val (.int len), .val (.int mode), .val (.long a), .second, .val (.long b), .second, .val (.int (Int32.ofNat (n))), .val (.int s7), .val (.int br), .val (.ref b122), .val (.ref b163), .val (.int (0 : Int32)), .val (.ref b166), .val (.ref x192), .val (.int (1 : Int32)), .unset, .unset, .unset] [])
        have q209 := ((((((JE192.keep K195).keep K196).keep K198).keep K200).keep K204).keep K207)
        have q210 := ((((((JC192.keep K195 nin0).keep K196 nin0).keep K198 nin0).keep K200 nin0).keep K204 nin0).keep K207 nin0)
        have q211 := ((((((JF192.keep K195 nin0).keep K196 nin0).keep K198 nin0).keep K200 nin0).keep K204 nin0).keep K207 nin0)
        have q212 := ((((((JV192.keep K195 nin0).keep K196 nin0).keep K198 nin0).keep K200 nin0).keep K204 nin0).keep K207 nin0)
        have Is : STI Z T207.heap x192 r192 kr192 (own_b8 bs192) := ⟨q209, q210, q211, q212⟩
        have hok32 : own_ok8 ([u0, u1, u2, u3, u4, u5, 32, u7, u8, u9] : List Int32) := by rw [← h32]; exact hok
        have K678 : ∀ (lo hi : Nat) (hlo : lo = own_lo3 n (own_wsb u7) (own_wsb u8) (own_wsb u9)) (hhi : hi = own_hi3 n (own_wsb u7) (own_wsb u8) (own_wsb u9)) (T : State) (locs : List Loc), Stand p l e room_1 (s.setVm T207.vm) m #[(.int len), (.int mode), (.long a), (.long b)] below meth c T locs 39 478 → Fr n0 locs → T.heap = T207.heap → OGo p e below (EndH Z own_EL s room_1 (own_Q n0)) T (mkF m 678 #[.val (.int len), .val (.int mode), .val (.long a), .second, .val (.long b), .second, .val (.int (Int32.ofNat (n))), .val (.int s7), .val (.int br), .val (.ref b122), .val (.ref b163), .val (.int (0 : Int32)), .val (.ref b166), .val (.ref x192), .val (.int (1 : Int32)), .val (.int (Int32.ofNat (lo))), .val (.int (Int32.ofNat (hi))), .unset] []) := by
          intro lo hi hlo hhi T locs X N eT
          show OGo p e below _ T (mkF m 678 #[.val (.int len), .val (.int mode), .val (.long a), .second, .val (.long b), .second, .val (.int (Int32.ofNat (n))), .val (.int s7), .val (.int br), .val (.ref b122), .val (.ref b163), .val (.int (0 : Int32)), .val (.ref b166), .val (.ref x192), .val (.int (1 : Int32)), .val (.int (Int32.ofNat (lo))), .val (.int (Int32.ofNat (hi))), .unset] [])
          refine og (fun _ k => XS.iload X.here hx rfl (hb hby at_678) rfl k) ?_
          show OGo p e below _ T (mkF m 680 #[.val (.int len), .val (.int mode), .val (.long a), .second, .val (.long b), .second, .val (.int (Int32.ofNat (n))), .val (.int s7), .val (.int br), .val (.ref b122), .val (.ref b163), .val (.int (0 : Int32)), .val (.ref b166), .val (.ref x192), .val (.int (1 : Int32)), .val (.int (Int32.ofNat (lo))), .val (.int (Int32.ofNat (hi))), .unset] [(.int (Int32.ofNat (lo)))])
          refine og (fun _ k => XS.iload X.here hx rfl (hb hby at_680) rfl k) ?_
          show OGo p e below _ T (mkF m 682 #[.val (.int len), .val (.int mode), .val (.long a), .second, .val (.long b), .second, .val (.int (Int32.ofNat (n))), .val (.int s7), .val (.int br), .val (.ref b122), .val (.ref b163), .val (.int (0 : Int32)), .val (.ref b166), .val (.ref x192), .val (.int (1 : Int32)), .val (.int (Int32.ofNat (lo))), .val (.int (Int32.ofNat (hi))), .unset] [(.int (Int32.ofNat (hi))), (.int (Int32.ofNat (lo)))])
          have K696 : ∀ (mm : Nat) (hmm : mm = own_mm lo hi) (T : State) (locs : List Loc), Stand p l e room_1 (s.setVm T207.vm) m #[(.int len), (.int mode), (.long a), (.long b)] below meth c T locs 39 478 → Fr n0 locs → T.heap = T207.heap → OGo p e below (EndH Z own_EL s room_1 (own_Q n0)) T (mkF m 696 #[.val (.int len), .val (.int mode), .val (.long a), .second, .val (.long b), .second, .val (.int (Int32.ofNat (n))), .val (.int s7), .val (.int br), .val (.ref b122), .val (.ref b163), .val (.int (0 : Int32)), .val (.ref b166), .val (.ref x192), .val (.int (1 : Int32)), .val (.int (Int32.ofNat (lo))), .val (.int (Int32.ofNat (hi))), .unset] [(.int (Int32.ofNat (mm)))]) := by
            intro mm hmm T locs X N eT
            show OGo p e below _ T (mkF m 696 #[.val (.int len), .val (.int mode), .val (.long a), .second, .val (.long b), .second, .val (.int (Int32.ofNat (n))), .val (.int s7), .val (.int br), .val (.ref b122), .val (.ref b163), .val (.int (0 : Int32)), .val (.ref b166), .val (.ref x192), .val (.int (1 : Int32)), .val (.int (Int32.ofNat (lo))), .val (.int (Int32.ofNat (hi))), .unset] [(.int (Int32.ofNat (mm)))])
            refine og (fun _ k => XS.istore X.here hx rfl (hb hby at_696) rfl (l' := #[.val (.int len), .val (.int mode), .val (.long a), .second, .val (.long b), .second, .val (.int (Int32.ofNat (n))), .val (.int s7), .val (.int br), .val (.ref b122), .val (.ref b163), .val (.int (0 : Int32)), .val (.ref b166), .val (.ref x192), .val (.int (1 : Int32)), .val (.int (Int32.ofNat (lo))), .val (.int (Int32.ofNat (hi))), .val (.int (Int32.ofNat (mm)))]) rfl k) ?_
            show OGo p e below _ T (mkF m 698 #[.val (.int len), .val (.int mode), .val (.long a), .second, .val (.long b), .second, .val (.int (Int32.ofNat (n))), .val (.int s7), .val (.int br), .val (.ref b122), .val (.ref b163), .val (.int (0 : Int32)), .val (.ref b166), .val (.ref x192), .val (.int (1 : Int32)), .val (.int (Int32.ofNat (lo))), .val (.int (Int32.ofNat (hi))), .val (.int (Int32.ofNat (mm)))] [])
            refine og (fun _ k => XS.aload X.here hx rfl (hb hby at_698) rfl rfl k) ?_
            show OGo p e below _ T (mkF m 700 #[.val (.int len), .val (.int mode), .val (.long a), .second, .val (.long b), .second, .val (.int (Int32.ofNat (n))), .val (.int s7), .val (.int br), .val (.ref b122), .val (.ref b163), .val (.int (0 : Int32)), .val (.ref b166), .val (.ref x192), .val (.int (1 : Int32)), .val (.int (Int32.ofNat (lo))), .val (.int (Int32.ofNat (hi))), .val (.int (Int32.ofNat (mm)))] [(.ref x192)])
            obtain ⟨v213, T213, L213, X213, hQ213, st213⟩ := vcall X hx hZ207 hown207 (own_g hw 175 rfl) (own_g hw 64 rfl) (own_g hw 66 rfl) rfl (own_g hw 66 rfl) (own_g hw 65 rfl) (own_g hw 11 rfl) (own_g hw 67 rfl) (by decide) (W := 0) (rm_length l Z a0 hw [] x192 r192 kr192 (own_b8 bs192) zc wf n0 T207.heap SS' (q205.keep K207 all0) Is) eT (by decide) (by decide) (by decide) (by decide) (g := (mkF m 700 #[.val (.int len), .val (.int mode), .val (.long a), .second, .val (.long b), .second, .val (.int (Int32.ofNat (n))), .val (.int s7), .val (.int br), .val (.ref b122), .val (.ref b163), .val (.int (0 : Int32)), .val (.ref b166), .val (.ref x192), .val (.int (1 : Int32)), .val (.int (Int32.ofNat (lo))), .val (.int (Int32.ofNat (hi))), .val (.int (Int32.ofNat (mm)))] [(.ref x192)])) rfl (by rw [hml]; rfl) q209 (argsL := []) (rest := []) opd_12 rfl rfl rfl (by show 2 * 0 + _ ≤ _; exact Nat.le_of_eq rfl) (hb hby at_700)
            obtain ⟨rfl, rfl, e213⟩ := hQ213
            rw [List.append_nil] at X213
            refine og st213 ?_
            show OGo p e below _ T213 (mkF m 703 #[.val (.int len), .val (.int mode), .val (.long a), .second, .val (.long b), .second, .val (.int (Int32.ofNat (n))), .val (.int s7), .val (.int br), .val (.ref b122), .val (.ref b163), .val (.int (0 : Int32)), .val (.ref b166), .val (.ref x192), .val (.int (1 : Int32)), .val (.int (Int32.ofNat (lo))), .val (.int (Int32.ofNat (hi))), .val (.int (Int32.ofNat (mm)))] [(.int (Int32.ofNat (own_b8 bs192).length))])
            have hbm : bs192.length = mm := by rw [fL, hmm, hlo, hhi]
            rw [own_b8_len, hbm]
            show OGo p e below _ T213 (mkF m 703 #[.val (.int len), .val (.int mode), .val (.long a), .second, .val (.long b), .second, .val (.int (Int32.ofNat (n))), .val (.int s7), .val (.int br), .val (.ref b122), .val (.ref b163), .val (.int (0 : Int32)), .val (.ref b166), .val (.ref x192), .val (.int (1 : Int32)), .val (.int (Int32.ofNat (lo))), .val (.int (Int32.ofNat (hi))), .val (.int (Int32.ofNat (mm)))] [(.int (Int32.ofNat (mm)))])
            refine og (fun _ k => XS.iload X213.here hx rfl (hb hby at_703) rfl k) ?_
            show OGo p e below _ T213 (mkF m 705 #[.val (.int len), .val (.int mode), .val (.long a), .second, .val (.long b), .second, .val (.int (Int32.ofNat (n))), .val (.int s7), .val (.int br), .val (.ref b122), .val (.ref b163), .val (.int (0 : Int32)), .val (.ref b166), .val (.ref x192), .val (.int (1 : Int32)), .val (.int (Int32.ofNat (lo))), .val (.int (Int32.ofNat (hi))), .val (.int (Int32.ofNat (mm)))] [(.int (Int32.ofNat (mm))), (.int (Int32.ofNat (mm)))])
            refine og (fun _ k => XS.icmpNo X213.here hx rfl (hb hby at_705) rfl (teq rfl).2 k) ?_
            show OGo p e below _ T213 (mkF m 708 #[.val (.int len), .val (.int mode), .val (.long a), .second, .val (.long b), .second, .val (.int (Int32.ofNat (n))), .val (.int s7), .val (.int br), .val (.ref b122), .val (.ref b163), .val (.int (0 : Int32)), .val (.ref b166), .val (.ref x192), .val (.int (1 : Int32)), .val (.int (Int32.ofNat (lo))), .val (.int (Int32.ofNat (hi))), .val (.int (Int32.ofNat (mm)))] [])
            have K772 : ∀  (T : State) (locs : List Loc), Stand p l e room_1 (s.setVm T207.vm) m #[(.int len), (.int mode), (.long a), (.long b)] below meth c T locs 39 478 → Fr n0 locs → T.heap = T207.heap → OGo p e below (EndH Z own_EL s room_1 (own_Q n0)) T (mkF m 772 #[.val (.int len), .val (.int mode), .val (.long a), .second, .val (.long b), .second, .val (.int (Int32.ofNat (n))), .val (.int s7), .val (.int br), .val (.ref b122), .val (.ref b163), .val (.int (0 : Int32)), .val (.ref b166), .val (.ref x192), .val (.int (1 : Int32)), .val (.int (Int32.ofNat (lo))), .val (.int (Int32.ofNat (hi))), .val (.int (Int32.ofNat (mm)))] []) := by
              intro  T locs X N eT
              show OGo p e below _ T (mkF m 772 #[.val (.int len), .val (.int mode), .val (.long a), .second, .val (.long b), .second, .val (.int (Int32.ofNat (n))), .val (.int s7), .val (.int br), .val (.ref b122), .val (.ref b163), .val (.int (0 : Int32)), .val (.ref b166), .val (.ref x192), .val (.int (1 : Int32)), .val (.int (Int32.ofNat (lo))), .val (.int (Int32.ofNat (hi))), .val (.int (Int32.ofNat (mm)))] [])
              refine og (fun _ k => XS.iconst X.here hx rfl (hb hby at_772) k) ?_
              show OGo p e below _ T (mkF m 773 #[.val (.int len), .val (.int mode), .val (.long a), .second, .val (.long b), .second, .val (.int (Int32.ofNat (n))), .val (.int s7), .val (.int br), .val (.ref b122), .val (.ref b163), .val (.int (0 : Int32)), .val (.ref b166), .val (.ref x192), .val (.int (1 : Int32)), .val (.int (Int32.ofNat (lo))), .val (.int (Int32.ofNat (hi))), .val (.int (Int32.ofNat (mm)))] [(.int (1 : Int32))])
              refine og (fun _ k => XS.goto X.here hx rfl (pc0 := 773) (pc' := 777) rfl (hb hby at_773) (by decide) (by decide) k) ?_
              show OGo p e below _ T (mkF m 777 #[.val (.int len), .val (.int mode), .val (.long a), .second, .val (.long b), .second, .val (.int (Int32.ofNat (n))), .val (.int s7), .val (.int br), .val (.ref b122), .val (.ref b163), .val (.int (0 : Int32)), .val (.ref b166), .val (.ref x192), .val (.int (1 : Int32)), .val (.int (Int32.ofNat (lo))), .val (.int (Int32.ofNat (hi))), .val (.int (Int32.ofNat (mm)))] [(.int (1 : Int32))])
              exact OGo.retH X hx hZ207 (own_hEL hw) hs0 eT hS207 hk207 H207 R207 (t := .boolean) hret hlk rfl (Or.inl ⟨rfl, by simp, _, rfl⟩) (hb hby at_777) (by decide) (by decide) ⟨rfl, N⟩
            have K750 : ∀  (T : State) (locs : List Loc), Stand p l e room_1 (s.setVm T207.vm) m #[(.int len), (.int mode), (.long a), (.long b)] below meth c T locs 39 478 → Fr n0 locs → T.heap = T207.heap → OGo p e below (EndH Z own_EL s room_1 (own_Q n0)) T (mkF m 750 #[.val (.int len), .val (.int mode), .val (.long a), .second, .val (.long b), .second, .val (.int (Int32.ofNat (n))), .val (.int s7), .val (.int br), .val (.ref b122), .val (.ref b163), .val (.int (0 : Int32)), .val (.ref b166), .val (.ref x192), .val (.int (1 : Int32)), .val (.int (Int32.ofNat (lo))), .val (.int (Int32.ofNat (hi))), .val (.int (Int32.ofNat (mm)))] []) := by
              intro  T locs X N eT
              show OGo p e below _ T (mkF m 750 #[.val (.int len), .val (.int mode), .val (.long a), .second, .val (.long b), .second, .val (.int (Int32.ofNat (n))), .val (.int s7), .val (.int br), .val (.ref b122), .val (.ref b163), .val (.int (0 : Int32)), .val (.ref b166), .val (.ref x192), .val (.int (1 : Int32)), .val (.int (Int32.ofNat (lo))), .val (.int (Int32.ofNat (hi))), .val (.int (Int32.ofNat (mm)))] [])
              refine og (fun _ k => XS.iload X.here hx rfl (hb hby at_750) rfl k) ?_
              show OGo p e below _ T (mkF m 752 #[.val (.int len), .val (.int mode), .val (.long a), .second, .val (.long b), .second, .val (.int (Int32.ofNat (n))), .val (.int s7), .val (.int br), .val (.ref b122), .val (.ref b163), .val (.int (0 : Int32)), .val (.ref b166), .val (.ref x192), .val (.int (1 : Int32)), .val (.int (Int32.ofNat (lo))), .val (.int (Int32.ofNat (hi))), .val (.int (Int32.ofNat (mm)))] [(.int (Int32.ofNat (mm)))])
              refine og (fun _ k => XS.iconst X.here hx rfl (hb hby at_752) k) ?_
              show OGo p e below _ T (mkF m 753 #[.val (.int len), .val (.int mode), .val (.long a), .second, .val (.long b), .second, .val (.int (Int32.ofNat (n))), .val (.int s7), .val (.int br), .val (.ref b122), .val (.ref b163), .val (.int (0 : Int32)), .val (.ref b166), .val (.ref x192), .val (.int (1 : Int32)), .val (.int (Int32.ofNat (lo))), .val (.int (Int32.ofNat (hi))), .val (.int (Int32.ofNat (mm)))] [(.int (3 : Int32)), (.int (Int32.ofNat (mm)))])
              by_cases c : mm < 3
              case pos =>
                refine og (fun _ k => XS.icmpYes X.here hx rfl (pc0 := 753) (pc' := 772) rfl (hb hby at_753) rfl (tlt (show Int32.ofNat mm < Int32.ofNat 3 from (own_lt (by omega) (by decide)).mpr c)).1 (by decide) (by decide) k) ?_
                show OGo p e below _ T (mkF m 772 #[.val (.int len), .val (.int mode), .val (.long a), .second, .val (.long b), .second, .val (.int (Int32.ofNat (n))), .val (.int s7), .val (.int br), .val (.ref b122), .val (.ref b163), .val (.int (0 : Int32)), .val (.ref b166), .val (.ref x192), .val (.int (1 : Int32)), .val (.int (Int32.ofNat (lo))), .val (.int (Int32.ofNat (hi))), .val (.int (Int32.ofNat (mm)))] [])
                exact K772  _ _ X N eT
              refine og (fun _ k => XS.icmpNo X.here hx rfl (hb hby at_753) rfl (flt (fun h => c ((own_lt (b := 3) (by omega) (by decide)).mp h))).1 k) ?_
              show OGo p e below _ T (mkF m 756 #[.val (.int len), .val (.int mode), .val (.long a), .second, .val (.long b), .second, .val (.int (Int32.ofNat (n))), .val (.int s7), .val (.int br), .val (.ref b122), .val (.ref b163), .val (.int (0 : Int32)), .val (.ref b166), .val (.ref x192), .val (.int (1 : Int32)), .val (.int (Int32.ofNat (lo))), .val (.int (Int32.ofNat (hi))), .val (.int (Int32.ofNat (mm)))] [])
              obtain ⟨fa, fb⟩ := fD 2 (by omega)
              rw [← hlo] at fa fb
              refine og (fun _ k => XS.aload X.here hx rfl (hb hby at_756) rfl rfl k) ?_
              show OGo p e below _ T (mkF m 758 #[.val (.int len), .val (.int mode), .val (.long a), .second, .val (.long b), .second, .val (.int (Int32.ofNat (n))), .val (.int s7), .val (.int br), .val (.ref b122), .val (.ref b163), .val (.int (0 : Int32)), .val (.ref b166), .val (.ref x192), .val (.int (1 : Int32)), .val (.int (Int32.ofNat (lo))), .val (.int (Int32.ofNat (hi))), .val (.int (Int32.ofNat (mm)))] [(.ref x192)])
              refine og (fun _ k => XS.iconst X.here hx rfl (hb hby at_758) k) ?_
              show OGo p e below _ T (mkF m 759 #[.val (.int len), .val (.int mode), .val (.long a), .second, .val (.long b), .second, .val (.int (Int32.ofNat (n))), .val (.int s7), .val (.int br), .val (.ref b122), .val (.ref b163), .val (.int (0 : Int32)), .val (.ref b166), .val (.ref x192), .val (.int (1 : Int32)), .val (.int (Int32.ofNat (lo))), .val (.int (Int32.ofNat (hi))), .val (.int (Int32.ofNat (mm)))] [(.int (2 : Int32)), (.ref x192)])
              obtain ⟨v214, T214, L214, X214, hQ214, st214⟩ := vcall X hx hZ207 hown207 (own_g hw 18 rfl) (own_g hw 19 rfl) (own_g hw 21 rfl) rfl (own_g hw 21 rfl) (own_g hw 20 rfl) (own_g hw 11 rfl) (own_g hw 22 rfl) (by decide) (W := 0) (rm_charAt l Z a0 hw [] x192 r192 kr192 (own_b8 bs192) (2 : Int32) (bs192.getD 2 0).toInt8.toInt32 zc wf n0 T207.heap SS' (q205.keep K207 all0) Is (by decide) (show Int32.ofNat 2 < _ from (own_lt (by decide) (by rw [own_b8_len]; omega)).mpr (by rw [own_b8_len]; omega)) (own_b8at (show 2 < bs192.length by omega))) eT (by decide) (by decide) (by decide) (by decide) (g := (mkF m 759 #[.val (.int len), .val (.int mode), .val (.long a), .second, .val (.long b), .second, .val (.int (Int32.ofNat (n))), .val (.int s7), .val (.int br), .val (.ref b122), .val (.ref b163), .val (.int (0 : Int32)), .val (.ref b166), .val (.ref x192), .val (.int (1 : Int32)), .val (.int (Int32.ofNat (lo))), .val (.int (Int32.ofNat (hi))), .val (.int (Int32.ofNat (mm)))] [(.int (2 : Int32)), (.ref x192)])) rfl (by rw [hml]; rfl) q209 (argsL := [(.int (2 : Int32))]) (rest := []) opd_10 rfl rfl rfl (by show 2 * 0 + _ ≤ _; exact Nat.le_of_eq rfl) (hb hby at_759)
              obtain ⟨rfl, rfl, e214⟩ := hQ214
              rw [List.append_nil] at X214
              refine og st214 ?_
              show OGo p e below _ T214 (mkF m 762 #[.val (.int len), .val (.int mode), .val (.long a), .second, .val (.long b), .second, .val (.int (Int32.ofNat (n))), .val (.int s7), .val (.int br), .val (.ref b122), .val (.ref b163), .val (.int (0 : Int32)), .val (.ref b166), .val (.ref x192), .val (.int (1 : Int32)), .val (.int (Int32.ofNat (lo))), .val (.int (Int32.ofNat (hi))), .val (.int (Int32.ofNat (mm)))] [(.int ((bs192.getD 2 0).toInt8.toInt32 &&& 255))])
              rw [fb, own_lo8 (own_okat (by show _ < 10; omega) hok32)]
              show OGo p e below _ T214 (mkF m 762 #[.val (.int len), .val (.int mode), .val (.long a), .second, .val (.long b), .second, .val (.int (Int32.ofNat (n))), .val (.int s7), .val (.int br), .val (.ref b122), .val (.ref b163), .val (.int (0 : Int32)), .val (.ref b166), .val (.ref x192), .val (.int (1 : Int32)), .val (.int (Int32.ofNat (lo))), .val (.int (Int32.ofNat (hi))), .val (.int (Int32.ofNat (mm)))] [(.int (([u0, u1, u2, u3, u4, u5, 32, u7, u8, u9] : List Int32).getD (lo + 2) 0))])
              refine og (fun _ k => XS.aload X214.here hx rfl (hb hby at_762) rfl rfl k) ?_
              show OGo p e below _ T214 (mkF m 764 #[.val (.int len), .val (.int mode), .val (.long a), .second, .val (.long b), .second, .val (.int (Int32.ofNat (n))), .val (.int s7), .val (.int br), .val (.ref b122), .val (.ref b163), .val (.int (0 : Int32)), .val (.ref b166), .val (.ref x192), .val (.int (1 : Int32)), .val (.int (Int32.ofNat (lo))), .val (.int (Int32.ofNat (hi))), .val (.int (Int32.ofNat (mm)))] [(.ref b122), (.int (([u0, u1, u2, u3, u4, u5, 32, u7, u8, u9] : List Int32).getD (lo + 2) 0))])
              refine og (fun _ k => XS.iload X214.here hx rfl (hb hby at_764) rfl k) ?_
              show OGo p e below _ T214 (mkF m 766 #[.val (.int len), .val (.int mode), .val (.long a), .second, .val (.long b), .second, .val (.int (Int32.ofNat (n))), .val (.int s7), .val (.int br), .val (.ref b122), .val (.ref b163), .val (.int (0 : Int32)), .val (.ref b166), .val (.ref x192), .val (.int (1 : Int32)), .val (.int (Int32.ofNat (lo))), .val (.int (Int32.ofNat (hi))), .val (.int (Int32.ofNat (mm)))] [(.int (Int32.ofNat (lo))), (.ref b122), (.int (([u0, u1, u2, u3, u4, u5, 32, u7, u8, u9] : List Int32).getD (lo + 2) 0))])
              refine og (fun _ k => XS.iconst X214.here hx rfl (hb hby at_766) k) ?_
              show OGo p e below _ T214 (mkF m 767 #[.val (.int len), .val (.int mode), .val (.long a), .second, .val (.long b), .second, .val (.int (Int32.ofNat (n))), .val (.int s7), .val (.int br), .val (.ref b122), .val (.ref b163), .val (.int (0 : Int32)), .val (.ref b166), .val (.ref x192), .val (.int (1 : Int32)), .val (.int (Int32.ofNat (lo))), .val (.int (Int32.ofNat (hi))), .val (.int (Int32.ofNat (mm)))] [(.int (2 : Int32)), (.int (Int32.ofNat (lo))), (.ref b122), (.int (([u0, u1, u2, u3, u4, u5, 32, u7, u8, u9] : List Int32).getD (lo + 2) 0))])
              refine og (fun _ k => XS.iadd X214.here hx rfl (hb hby at_767) rfl k) ?_
              show OGo p e below _ T214 (mkF m 768 #[.val (.int len), .val (.int mode), .val (.long a), .second, .val (.long b), .second, .val (.int (Int32.ofNat (n))), .val (.int s7), .val (.int br), .val (.ref b122), .val (.ref b163), .val (.int (0 : Int32)), .val (.ref b166), .val (.ref x192), .val (.int (1 : Int32)), .val (.int (Int32.ofNat (lo))), .val (.int (Int32.ofNat (hi))), .val (.int (Int32.ofNat (mm)))] [(.int ((Int32.ofNat (lo)) + (2 : Int32))), (.ref b122), (.int (([u0, u1, u2, u3, u4, u5, 32, u7, u8, u9] : List Int32).getD (lo + 2) 0))])
              rw [show Int32.ofNat lo + (2 : Int32) = Int32.ofNat (lo + 2) from own_addn _ 2]
              show OGo p e below _ T214 (mkF m 768 #[.val (.int len), .val (.int mode), .val (.long a), .second, .val (.long b), .second, .val (.int (Int32.ofNat (n))), .val (.int s7), .val (.int br), .val (.ref b122), .val (.ref b163), .val (.int (0 : Int32)), .val (.ref b166), .val (.ref x192), .val (.int (1 : Int32)), .val (.int (Int32.ofNat (lo))), .val (.int (Int32.ofNat (hi))), .val (.int (Int32.ofNat (mm)))] [(.int (Int32.ofNat (lo + 2))), (.ref b122), (.int (([u0, u1, u2, u3, u4, u5, 32, u7, u8, u9] : List Int32).getD (lo + 2) 0))])
              have hat : (([u0, u1, u2, u3, u4, u5, u6, u7, u8, u9] : List Int32).map Value.int).getD (Int32.ofNat (lo + 2)).toNatClampNeg (.int (0 : Int32)) = .int (([u0, u1, u2, u3, u4, u5, 32, u7, u8, u9] : List Int32).getD (lo + 2) 0) := by rw [h32]; exact own_mapat (by show _ < 10; omega) (by omega)
              refine og (fun _ k => caloadV X214 hx hZ207 e214 q208 ⟨own_nn (by omega), (own_lt (b := 10) (by omega) (by decide)).mpr (by omega)⟩ hat (g := (mkF m 768 #[.val (.int len), .val (.int mode), .val (.long a), .second, .val (.long b), .second, .val (.int (Int32.ofNat (n))), .val (.int s7), .val (.int br), .val (.ref b122), .val (.ref b163), .val (.int (0 : Int32)), .val (.ref b166), .val (.ref x192), .val (.int (1 : Int32)), .val (.int (Int32.ofNat (lo))), .val (.int (Int32.ofNat (hi))), .val (.int (Int32.ofNat (mm)))] [(.int (Int32.ofNat (lo + 2))), (.ref b122), (.int (([u0, u1, u2, u3, u4, u5, 32, u7, u8, u9] : List Int32).getD (lo + 2) 0))])) rfl rfl (hb hby at_768) _ k) ?_
              show OGo p e below _ T214 (mkF m 769 #[.val (.int len), .val (.int mode), .val (.long a), .second, .val (.long b), .second, .val (.int (Int32.ofNat (n))), .val (.int s7), .val (.int br), .val (.ref b122), .val (.ref b163), .val (.int (0 : Int32)), .val (.ref b166), .val (.ref x192), .val (.int (1 : Int32)), .val (.int (Int32.ofNat (lo))), .val (.int (Int32.ofNat (hi))), .val (.int (Int32.ofNat (mm)))] [(.int (([u0, u1, u2, u3, u4, u5, 32, u7, u8, u9] : List Int32).getD (lo + 2) 0)), (.int (([u0, u1, u2, u3, u4, u5, 32, u7, u8, u9] : List Int32).getD (lo + 2) 0))])
              refine og (fun _ k => XS.icmpNo X214.here hx rfl (hb hby at_769) rfl (teq rfl).2 k) ?_
              show OGo p e below _ T214 (mkF m 772 #[.val (.int len), .val (.int mode), .val (.long a), .second, .val (.long b), .second, .val (.int (Int32.ofNat (n))), .val (.int s7), .val (.int br), .val (.ref b122), .val (.ref b163), .val (.int (0 : Int32)), .val (.ref b166), .val (.ref x192), .val (.int (1 : Int32)), .val (.int (Int32.ofNat (lo))), .val (.int (Int32.ofNat (hi))), .val (.int (Int32.ofNat (mm)))] [])
              exact K772  _ _ X214 N e214
            have K728 : ∀  (T : State) (locs : List Loc), Stand p l e room_1 (s.setVm T207.vm) m #[(.int len), (.int mode), (.long a), (.long b)] below meth c T locs 39 478 → Fr n0 locs → T.heap = T207.heap → OGo p e below (EndH Z own_EL s room_1 (own_Q n0)) T (mkF m 728 #[.val (.int len), .val (.int mode), .val (.long a), .second, .val (.long b), .second, .val (.int (Int32.ofNat (n))), .val (.int s7), .val (.int br), .val (.ref b122), .val (.ref b163), .val (.int (0 : Int32)), .val (.ref b166), .val (.ref x192), .val (.int (1 : Int32)), .val (.int (Int32.ofNat (lo))), .val (.int (Int32.ofNat (hi))), .val (.int (Int32.ofNat (mm)))] []) := by
              intro  T locs X N eT
              show OGo p e below _ T (mkF m 728 #[.val (.int len), .val (.int mode), .val (.long a), .second, .val (.long b), .second, .val (.int (Int32.ofNat (n))), .val (.int s7), .val (.int br), .val (.ref b122), .val (.ref b163), .val (.int (0 : Int32)), .val (.ref b166), .val (.ref x192), .val (.int (1 : Int32)), .val (.int (Int32.ofNat (lo))), .val (.int (Int32.ofNat (hi))), .val (.int (Int32.ofNat (mm)))] [])
              refine og (fun _ k => XS.iload X.here hx rfl (hb hby at_728) rfl k) ?_
              show OGo p e below _ T (mkF m 730 #[.val (.int len), .val (.int mode), .val (.long a), .second, .val (.long b), .second, .val (.int (Int32.ofNat (n))), .val (.int s7), .val (.int br), .val (.ref b122), .val (.ref b163), .val (.int (0 : Int32)), .val (.ref b166), .val (.ref x192), .val (.int (1 : Int32)), .val (.int (Int32.ofNat (lo))), .val (.int (Int32.ofNat (hi))), .val (.int (Int32.ofNat (mm)))] [(.int (Int32.ofNat (mm)))])
              refine og (fun _ k => XS.iconst X.here hx rfl (hb hby at_730) k) ?_
              show OGo p e below _ T (mkF m 731 #[.val (.int len), .val (.int mode), .val (.long a), .second, .val (.long b), .second, .val (.int (Int32.ofNat (n))), .val (.int s7), .val (.int br), .val (.ref b122), .val (.ref b163), .val (.int (0 : Int32)), .val (.ref b166), .val (.ref x192), .val (.int (1 : Int32)), .val (.int (Int32.ofNat (lo))), .val (.int (Int32.ofNat (hi))), .val (.int (Int32.ofNat (mm)))] [(.int (2 : Int32)), (.int (Int32.ofNat (mm)))])
              by_cases c : mm < 2
              case pos =>
                refine og (fun _ k => XS.icmpYes X.here hx rfl (pc0 := 731) (pc' := 750) rfl (hb hby at_731) rfl (tlt (show Int32.ofNat mm < Int32.ofNat 2 from (own_lt (by omega) (by decide)).mpr c)).1 (by decide) (by decide) k) ?_
                show OGo p e below _ T (mkF m 750 #[.val (.int len), .val (.int mode), .val (.long a), .second, .val (.long b), .second, .val (.int (Int32.ofNat (n))), .val (.int s7), .val (.int br), .val (.ref b122), .val (.ref b163), .val (.int (0 : Int32)), .val (.ref b166), .val (.ref x192), .val (.int (1 : Int32)), .val (.int (Int32.ofNat (lo))), .val (.int (Int32.ofNat (hi))), .val (.int (Int32.ofNat (mm)))] [])
                exact K750  _ _ X N eT
              refine og (fun _ k => XS.icmpNo X.here hx rfl (hb hby at_731) rfl (flt (fun h => c ((own_lt (b := 2) (by omega) (by decide)).mp h))).1 k) ?_
              show OGo p e below _ T (mkF m 734 #[.val (.int len), .val (.int mode), .val (.long a), .second, .val (.long b), .second, .val (.int (Int32.ofNat (n))), .val (.int s7), .val (.int br), .val (.ref b122), .val (.ref b163), .val (.int (0 : Int32)), .val (.ref b166), .val (.ref x192), .val (.int (1 : Int32)), .val (.int (Int32.ofNat (lo))), .val (.int (Int32.ofNat (hi))), .val (.int (Int32.ofNat (mm)))] [])
              obtain ⟨fa, fb⟩ := fD 1 (by omega)
              rw [← hlo] at fa fb
              refine og (fun _ k => XS.aload X.here hx rfl (hb hby at_734) rfl rfl k) ?_
              show OGo p e below _ T (mkF m 736 #[.val (.int len), .val (.int mode), .val (.long a), .second, .val (.long b), .second, .val (.int (Int32.ofNat (n))), .val (.int s7), .val (.int br), .val (.ref b122), .val (.ref b163), .val (.int (0 : Int32)), .val (.ref b166), .val (.ref x192), .val (.int (1 : Int32)), .val (.int (Int32.ofNat (lo))), .val (.int (Int32.ofNat (hi))), .val (.int (Int32.ofNat (mm)))] [(.ref x192)])
              refine og (fun _ k => XS.iconst X.here hx rfl (hb hby at_736) k) ?_
              show OGo p e below _ T (mkF m 737 #[.val (.int len), .val (.int mode), .val (.long a), .second, .val (.long b), .second, .val (.int (Int32.ofNat (n))), .val (.int s7), .val (.int br), .val (.ref b122), .val (.ref b163), .val (.int (0 : Int32)), .val (.ref b166), .val (.ref x192), .val (.int (1 : Int32)), .val (.int (Int32.ofNat (lo))), .val (.int (Int32.ofNat (hi))), .val (.int (Int32.ofNat (mm)))] [(.int (1 : Int32)), (.ref x192)])
              obtain ⟨v215, T215, L215, X215, hQ215, st215⟩ := vcall X hx hZ207 hown207 (own_g hw 18 rfl) (own_g hw 19 rfl) (own_g hw 21 rfl) rfl (own_g hw 21 rfl) (own_g hw 20 rfl) (own_g hw 11 rfl) (own_g hw 22 rfl) (by decide) (W := 0) (rm_charAt l Z a0 hw [] x192 r192 kr192 (own_b8 bs192) (1 : Int32) (bs192.getD 1 0).toInt8.toInt32 zc wf n0 T207.heap SS' (q205.keep K207 all0) Is (by decide) (show Int32.ofNat 1 < _ from (own_lt (by decide) (by rw [own_b8_len]; omega)).mpr (by rw [own_b8_len]; omega)) (own_b8at (show 1 < bs192.length by omega))) eT (by decide) (by decide) (by decide) (by decide) (g := (mkF m 737 #[.val (.int len), .val (.int mode), .val (.long a), .second, .val (.long b), .second, .val (.int (Int32.ofNat (n))), .val (.int s7), .val (.int br), .val (.ref b122), .val (.ref b163), .val (.int (0 : Int32)), .val (.ref b166), .val (.ref x192), .val (.int (1 : Int32)), .val (.int (Int32.ofNat (lo))), .val (.int (Int32.ofNat (hi))), .val (.int (Int32.ofNat (mm)))] [(.int (1 : Int32)), (.ref x192)])) rfl (by rw [hml]; rfl) q209 (argsL := [(.int (1 : Int32))]) (rest := []) opd_10 rfl rfl rfl (by show 2 * 0 + _ ≤ _; exact Nat.le_of_eq rfl) (hb hby at_737)
              obtain ⟨rfl, rfl, e215⟩ := hQ215
              rw [List.append_nil] at X215
              refine og st215 ?_
              show OGo p e below _ T215 (mkF m 740 #[.val (.int len), .val (.int mode), .val (.long a), .second, .val (.long b), .second, .val (.int (Int32.ofNat (n))), .val (.int s7), .val (.int br), .val (.ref b122), .val (.ref b163), .val (.int (0 : Int32)), .val (.ref b166), .val (.ref x192), .val (.int (1 : Int32)), .val (.int (Int32.ofNat (lo))), .val (.int (Int32.ofNat (hi))), .val (.int (Int32.ofNat (mm)))] [(.int ((bs192.getD 1 0).toInt8.toInt32 &&& 255))])
              rw [fb, own_lo8 (own_okat (by show _ < 10; omega) hok32)]
              show OGo p e below _ T215 (mkF m 740 #[.val (.int len), .val (.int mode), .val (.long a), .second, .val (.long b), .second, .val (.int (Int32.ofNat (n))), .val (.int s7), .val (.int br), .val (.ref b122), .val (.ref b163), .val (.int (0 : Int32)), .val (.ref b166), .val (.ref x192), .val (.int (1 : Int32)), .val (.int (Int32.ofNat (lo))), .val (.int (Int32.ofNat (hi))), .val (.int (Int32.ofNat (mm)))] [(.int (([u0, u1, u2, u3, u4, u5, 32, u7, u8, u9] : List Int32).getD (lo + 1) 0))])
              refine og (fun _ k => XS.aload X215.here hx rfl (hb hby at_740) rfl rfl k) ?_
              show OGo p e below _ T215 (mkF m 742 #[.val (.int len), .val (.int mode), .val (.long a), .second, .val (.long b), .second, .val (.int (Int32.ofNat (n))), .val (.int s7), .val (.int br), .val (.ref b122), .val (.ref b163), .val (.int (0 : Int32)), .val (.ref b166), .val (.ref x192), .val (.int (1 : Int32)), .val (.int (Int32.ofNat (lo))), .val (.int (Int32.ofNat (hi))), .val (.int (Int32.ofNat (mm)))] [(.ref b122), (.int (([u0, u1, u2, u3, u4, u5, 32, u7, u8, u9] : List Int32).getD (lo + 1) 0))])
              refine og (fun _ k => XS.iload X215.here hx rfl (hb hby at_742) rfl k) ?_
              show OGo p e below _ T215 (mkF m 744 #[.val (.int len), .val (.int mode), .val (.long a), .second, .val (.long b), .second, .val (.int (Int32.ofNat (n))), .val (.int s7), .val (.int br), .val (.ref b122), .val (.ref b163), .val (.int (0 : Int32)), .val (.ref b166), .val (.ref x192), .val (.int (1 : Int32)), .val (.int (Int32.ofNat (lo))), .val (.int (Int32.ofNat (hi))), .val (.int (Int32.ofNat (mm)))] [(.int (Int32.ofNat (lo))), (.ref b122), (.int (([u0, u1, u2, u3, u4, u5, 32, u7, u8, u9] : List Int32).getD (lo + 1) 0))])
              refine og (fun _ k => XS.iconst X215.here hx rfl (hb hby at_744) k) ?_
              show OGo p e below _ T215 (mkF m 745 #[.val (.int len), .val (.int mode), .val (.long a), .second, .val (.long b), .second, .val (.int (Int32.ofNat (n))), .val (.int s7), .val (.int br), .val (.ref b122), .val (.ref b163), .val (.int (0 : Int32)), .val (.ref b166), .val (.ref x192), .val (.int (1 : Int32)), .val (.int (Int32.ofNat (lo))), .val (.int (Int32.ofNat (hi))), .val (.int (Int32.ofNat (mm)))] [(.int (1 : Int32)), (.int (Int32.ofNat (lo))), (.ref b122), (.int (([u0, u1, u2, u3, u4, u5, 32, u7, u8, u9] : List Int32).getD (lo + 1) 0))])
              refine og (fun _ k => XS.iadd X215.here hx rfl (hb hby at_745) rfl k) ?_
              show OGo p e below _ T215 (mkF m 746 #[.val (.int len), .val (.int mode), .val (.long a), .second, .val (.long b), .second, .val (.int (Int32.ofNat (n))), .val (.int s7), .val (.int br), .val (.ref b122), .val (.ref b163), .val (.int (0 : Int32)), .val (.ref b166), .val (.ref x192), .val (.int (1 : Int32)), .val (.int (Int32.ofNat (lo))), .val (.int (Int32.ofNat (hi))), .val (.int (Int32.ofNat (mm)))] [(.int ((Int32.ofNat (lo)) + (1 : Int32))), (.ref b122), (.int (([u0, u1, u2, u3, u4, u5, 32, u7, u8, u9] : List Int32).getD (lo + 1) 0))])
              rw [show Int32.ofNat lo + (1 : Int32) = Int32.ofNat (lo + 1) from own_addn _ 1]
              show OGo p e below _ T215 (mkF m 746 #[.val (.int len), .val (.int mode), .val (.long a), .second, .val (.long b), .second, .val (.int (Int32.ofNat (n))), .val (.int s7), .val (.int br), .val (.ref b122), .val (.ref b163), .val (.int (0 : Int32)), .val (.ref b166), .val (.ref x192), .val (.int (1 : Int32)), .val (.int (Int32.ofNat (lo))), .val (.int (Int32.ofNat (hi))), .val (.int (Int32.ofNat (mm)))] [(.int (Int32.ofNat (lo + 1))), (.ref b122), (.int (([u0, u1, u2, u3, u4, u5, 32, u7, u8, u9] : List Int32).getD (lo + 1) 0))])
              have hat : (([u0, u1, u2, u3, u4, u5, u6, u7, u8, u9] : List Int32).map Value.int).getD (Int32.ofNat (lo + 1)).toNatClampNeg (.int (0 : Int32)) = .int (([u0, u1, u2, u3, u4, u5, 32, u7, u8, u9] : List Int32).getD (lo + 1) 0) := by rw [h32]; exact own_mapat (by show _ < 10; omega) (by omega)
              refine og (fun _ k => caloadV X215 hx hZ207 e215 q208 ⟨own_nn (by omega), (own_lt (b := 10) (by omega) (by decide)).mpr (by omega)⟩ hat (g := (mkF m 746 #[.val (.int len), .val (.int mode), .val (.long a), .second, .val (.long b), .second, .val (.int (Int32.ofNat (n))), .val (.int s7), .val (.int br), .val (.ref b122), .val (.ref b163), .val (.int (0 : Int32)), .val (.ref b166), .val (.ref x192), .val (.int (1 : Int32)), .val (.int (Int32.ofNat (lo))), .val (.int (Int32.ofNat (hi))), .val (.int (Int32.ofNat (mm)))] [(.int (Int32.ofNat (lo + 1))), (.ref b122), (.int (([u0, u1, u2, u3, u4, u5, 32, u7, u8, u9] : List Int32).getD (lo + 1) 0))])) rfl rfl (hb hby at_746) _ k) ?_
              show OGo p e below _ T215 (mkF m 747 #[.val (.int len), .val (.int mode), .val (.long a), .second, .val (.long b), .second, .val (.int (Int32.ofNat (n))), .val (.int s7), .val (.int br), .val (.ref b122), .val (.ref b163), .val (.int (0 : Int32)), .val (.ref b166), .val (.ref x192), .val (.int (1 : Int32)), .val (.int (Int32.ofNat (lo))), .val (.int (Int32.ofNat (hi))), .val (.int (Int32.ofNat (mm)))] [(.int (([u0, u1, u2, u3, u4, u5, 32, u7, u8, u9] : List Int32).getD (lo + 1) 0)), (.int (([u0, u1, u2, u3, u4, u5, 32, u7, u8, u9] : List Int32).getD (lo + 1) 0))])
              refine og (fun _ k => XS.icmpNo X215.here hx rfl (hb hby at_747) rfl (teq rfl).2 k) ?_
              show OGo p e below _ T215 (mkF m 750 #[.val (.int len), .val (.int mode), .val (.long a), .second, .val (.long b), .second, .val (.int (Int32.ofNat (n))), .val (.int s7), .val (.int br), .val (.ref b122), .val (.ref b163), .val (.int (0 : Int32)), .val (.ref b166), .val (.ref x192), .val (.int (1 : Int32)), .val (.int (Int32.ofNat (lo))), .val (.int (Int32.ofNat (hi))), .val (.int (Int32.ofNat (mm)))] [])
              exact K750  _ _ X215 N e215
            refine og (fun _ k => XS.iload X213.here hx rfl (hb hby at_708) rfl k) ?_
            show OGo p e below _ T213 (mkF m 710 #[.val (.int len), .val (.int mode), .val (.long a), .second, .val (.long b), .second, .val (.int (Int32.ofNat (n))), .val (.int s7), .val (.int br), .val (.ref b122), .val (.ref b163), .val (.int (0 : Int32)), .val (.ref b166), .val (.ref x192), .val (.int (1 : Int32)), .val (.int (Int32.ofNat (lo))), .val (.int (Int32.ofNat (hi))), .val (.int (Int32.ofNat (mm)))] [(.int (Int32.ofNat (mm)))])
            refine og (fun _ k => XS.iconst X213.here hx rfl (hb hby at_710) k) ?_
            show OGo p e below _ T213 (mkF m 711 #[.val (.int len), .val (.int mode), .val (.long a), .second, .val (.long b), .second, .val (.int (Int32.ofNat (n))), .val (.int s7), .val (.int br), .val (.ref b122), .val (.ref b163), .val (.int (0 : Int32)), .val (.ref b166), .val (.ref x192), .val (.int (1 : Int32)), .val (.int (Int32.ofNat (lo))), .val (.int (Int32.ofNat (hi))), .val (.int (Int32.ofNat (mm)))] [(.int (1 : Int32)), (.int (Int32.ofNat (mm)))])
            by_cases c : mm < 1
            case pos =>
              refine og (fun _ k => XS.icmpYes X213.here hx rfl (pc0 := 711) (pc' := 728) rfl (hb hby at_711) rfl (tlt (show Int32.ofNat mm < Int32.ofNat 1 from (own_lt (by omega) (by decide)).mpr c)).1 (by decide) (by decide) k) ?_
              show OGo p e below _ T213 (mkF m 728 #[.val (.int len), .val (.int mode), .val (.long a), .second, .val (.long b), .second, .val (.int (Int32.ofNat (n))), .val (.int s7), .val (.int br), .val (.ref b122), .val (.ref b163), .val (.int (0 : Int32)), .val (.ref b166), .val (.ref x192), .val (.int (1 : Int32)), .val (.int (Int32.ofNat (lo))), .val (.int (Int32.ofNat (hi))), .val (.int (Int32.ofNat (mm)))] [])
              exact K728  _ _ X213 N e213
            refine og (fun _ k => XS.icmpNo X213.here hx rfl (hb hby at_711) rfl (flt (fun h => c ((own_lt (b := 1) (by omega) (by decide)).mp h))).1 k) ?_
            show OGo p e below _ T213 (mkF m 714 #[.val (.int len), .val (.int mode), .val (.long a), .second, .val (.long b), .second, .val (.int (Int32.ofNat (n))), .val (.int s7), .val (.int br), .val (.ref b122), .val (.ref b163), .val (.int (0 : Int32)), .val (.ref b166), .val (.ref x192), .val (.int (1 : Int32)), .val (.int (Int32.ofNat (lo))), .val (.int (Int32.ofNat (hi))), .val (.int (Int32.ofNat (mm)))] [])
            obtain ⟨fa, fb⟩ := fD 0 (by omega)
            rw [← hlo] at fa fb
            refine og (fun _ k => XS.aload X213.here hx rfl (hb hby at_714) rfl rfl k) ?_
            show OGo p e below _ T213 (mkF m 716 #[.val (.int len), .val (.int mode), .val (.long a), .second, .val (.long b), .second, .val (.int (Int32.ofNat (n))), .val (.int s7), .val (.int br), .val (.ref b122), .val (.ref b163), .val (.int (0 : Int32)), .val (.ref b166), .val (.ref x192), .val (.int (1 : Int32)), .val (.int (Int32.ofNat (lo))), .val (.int (Int32.ofNat (hi))), .val (.int (Int32.ofNat (mm)))] [(.ref x192)])
            refine og (fun _ k => XS.iconst X213.here hx rfl (hb hby at_716) k) ?_
            show OGo p e below _ T213 (mkF m 717 #[.val (.int len), .val (.int mode), .val (.long a), .second, .val (.long b), .second, .val (.int (Int32.ofNat (n))), .val (.int s7), .val (.int br), .val (.ref b122), .val (.ref b163), .val (.int (0 : Int32)), .val (.ref b166), .val (.ref x192), .val (.int (1 : Int32)), .val (.int (Int32.ofNat (lo))), .val (.int (Int32.ofNat (hi))), .val (.int (Int32.ofNat (mm)))] [(.int (0 : Int32)), (.ref x192)])
            obtain ⟨v216, T216, L216, X216, hQ216, st216⟩ := vcall X213 hx hZ207 hown207 (own_g hw 18 rfl) (own_g hw 19 rfl) (own_g hw 21 rfl) rfl (own_g hw 21 rfl) (own_g hw 20 rfl) (own_g hw 11 rfl) (own_g hw 22 rfl) (by decide) (W := 0) (rm_charAt l Z a0 hw [] x192 r192 kr192 (own_b8 bs192) (0 : Int32) (bs192.getD 0 0).toInt8.toInt32 zc wf n0 T207.heap SS' (q205.keep K207 all0) Is (by decide) (show Int32.ofNat 0 < _ from (own_lt (by decide) (by rw [own_b8_len]; omega)).mpr (by rw [own_b8_len]; omega)) (own_b8at (show 0 < bs192.length by omega))) e213 (by decide) (by decide) (by decide) (by decide) (g := (mkF m 717 #[.val (.int len), .val (.int mode), .val (.long a), .second, .val (.long b), .second, .val (.int (Int32.ofNat (n))), .val (.int s7), .val (.int br), .val (.ref b122), .val (.ref b163), .val (.int (0 : Int32)), .val (.ref b166), .val (.ref x192), .val (.int (1 : Int32)), .val (.int (Int32.ofNat (lo))), .val (.int (Int32.ofNat (hi))), .val (.int (Int32.ofNat (mm)))] [(.int (0 : Int32)), (.ref x192)])) rfl (by rw [hml]; rfl) q209 (argsL := [(.int (0 : Int32))]) (rest := []) opd_10 rfl rfl rfl (by show 2 * 0 + _ ≤ _; exact Nat.le_of_eq rfl) (hb hby at_717)
            obtain ⟨rfl, rfl, e216⟩ := hQ216
            rw [List.append_nil] at X216
            refine og st216 ?_
            show OGo p e below _ T216 (mkF m 720 #[.val (.int len), .val (.int mode), .val (.long a), .second, .val (.long b), .second, .val (.int (Int32.ofNat (n))), .val (.int s7), .val (.int br), .val (.ref b122), .val (.ref b163), .val (.int (0 : Int32)), .val (.ref b166), .val (.ref x192), .val (.int (1 : Int32)), .val (.int (Int32.ofNat (lo))), .val (.int (Int32.ofNat (hi))), .val (.int (Int32.ofNat (mm)))] [(.int ((bs192.getD 0 0).toInt8.toInt32 &&& 255))])
            rw [fb, own_lo8 (own_okat (by show _ < 10; omega) hok32)]
            show OGo p e below _ T216 (mkF m 720 #[.val (.int len), .val (.int mode), .val (.long a), .second, .val (.long b), .second, .val (.int (Int32.ofNat (n))), .val (.int s7), .val (.int br), .val (.ref b122), .val (.ref b163), .val (.int (0 : Int32)), .val (.ref b166), .val (.ref x192), .val (.int (1 : Int32)), .val (.int (Int32.ofNat (lo))), .val (.int (Int32.ofNat (hi))), .val (.int (Int32.ofNat (mm)))] [(.int (([u0, u1, u2, u3, u4, u5, 32, u7, u8, u9] : List Int32).getD (lo + 0) 0))])
            refine og (fun _ k => XS.aload X216.here hx rfl (hb hby at_720) rfl rfl k) ?_
            show OGo p e below _ T216 (mkF m 722 #[.val (.int len), .val (.int mode), .val (.long a), .second, .val (.long b), .second, .val (.int (Int32.ofNat (n))), .val (.int s7), .val (.int br), .val (.ref b122), .val (.ref b163), .val (.int (0 : Int32)), .val (.ref b166), .val (.ref x192), .val (.int (1 : Int32)), .val (.int (Int32.ofNat (lo))), .val (.int (Int32.ofNat (hi))), .val (.int (Int32.ofNat (mm)))] [(.ref b122), (.int (([u0, u1, u2, u3, u4, u5, 32, u7, u8, u9] : List Int32).getD (lo + 0) 0))])
            refine og (fun _ k => XS.iload X216.here hx rfl (hb hby at_722) rfl k) ?_
            show OGo p e below _ T216 (mkF m 724 #[.val (.int len), .val (.int mode), .val (.long a), .second, .val (.long b), .second, .val (.int (Int32.ofNat (n))), .val (.int s7), .val (.int br), .val (.ref b122), .val (.ref b163), .val (.int (0 : Int32)), .val (.ref b166), .val (.ref x192), .val (.int (1 : Int32)), .val (.int (Int32.ofNat (lo))), .val (.int (Int32.ofNat (hi))), .val (.int (Int32.ofNat (mm)))] [(.int (Int32.ofNat (lo))), (.ref b122), (.int (([u0, u1, u2, u3, u4, u5, 32, u7, u8, u9] : List Int32).getD (lo + 0) 0))])
            have hat : (([u0, u1, u2, u3, u4, u5, u6, u7, u8, u9] : List Int32).map Value.int).getD (Int32.ofNat (lo + 0)).toNatClampNeg (.int (0 : Int32)) = .int (([u0, u1, u2, u3, u4, u5, 32, u7, u8, u9] : List Int32).getD (lo + 0) 0) := by rw [h32]; exact own_mapat (by show _ < 10; omega) (by omega)
            refine og (fun _ k => caloadV X216 hx hZ207 e216 q208 ⟨own_nn (by omega), (own_lt (b := 10) (by omega) (by decide)).mpr (by omega)⟩ hat (g := (mkF m 724 #[.val (.int len), .val (.int mode), .val (.long a), .second, .val (.long b), .second, .val (.int (Int32.ofNat (n))), .val (.int s7), .val (.int br), .val (.ref b122), .val (.ref b163), .val (.int (0 : Int32)), .val (.ref b166), .val (.ref x192), .val (.int (1 : Int32)), .val (.int (Int32.ofNat (lo))), .val (.int (Int32.ofNat (hi))), .val (.int (Int32.ofNat (mm)))] [(.int (Int32.ofNat (lo))), (.ref b122), (.int (([u0, u1, u2, u3, u4, u5, 32, u7, u8, u9] : List Int32).getD (lo + 0) 0))])) rfl rfl (hb hby at_724) _ k) ?_
            show OGo p e below _ T216 (mkF m 725 #[.val (.int len), .val (.int mode), .val (.long a), .second, .val (.long b), .second, .val (.int (Int32.ofNat (n))), .val (.int s7), .val (.int br), .val (.ref b122), .val (.ref b163), .val (.int (0 : Int32)), .val (.ref b166), .val (.ref x192), .val (.int (1 : Int32)), .val (.int (Int32.ofNat (lo))), .val (.int (Int32.ofNat (hi))), .val (.int (Int32.ofNat (mm)))] [(.int (([u0, u1, u2, u3, u4, u5, 32, u7, u8, u9] : List Int32).getD (lo + 0) 0)), (.int (([u0, u1, u2, u3, u4, u5, 32, u7, u8, u9] : List Int32).getD (lo + 0) 0))])
            refine og (fun _ k => XS.icmpNo X216.here hx rfl (hb hby at_725) rfl (teq rfl).2 k) ?_
            show OGo p e below _ T216 (mkF m 728 #[.val (.int len), .val (.int mode), .val (.long a), .second, .val (.long b), .second, .val (.int (Int32.ofNat (n))), .val (.int s7), .val (.int br), .val (.ref b122), .val (.ref b163), .val (.int (0 : Int32)), .val (.ref b166), .val (.ref x192), .val (.int (1 : Int32)), .val (.int (Int32.ofNat (lo))), .val (.int (Int32.ofNat (hi))), .val (.int (Int32.ofNat (mm)))] [])
            exact K728  _ _ X216 N e216
          have hhb : hi ≤ 9 := by rw [hhi]; unfold own_hi3 own_hi2 own_hi1; (repeat' split) <;> omega
          have hlb : lo ≤ 10 := by rw [hlo]; exact f10
          by_cases c : hi < lo
          case pos =>
            refine og (fun _ k => XS.icmpYes X.here hx rfl (pc0 := 682) (pc' := 695) rfl (hb hby at_682) rfl (tlt ((own_lt (by omega) (by omega)).mpr c)).2.2.1 (by decide) (by decide) k) ?_
            show OGo p e below _ T (mkF m 695 #[.val (.int len), .val (.int mode), .val (.long a), .second, .val (.long b), .second, .val (.int (Int32.ofNat (n))), .val (.int s7), .val (.int br), .val (.ref b122), .val (.ref b163), .val (.int (0 : Int32)), .val (.ref b166), .val (.ref x192), .val (.int (1 : Int32)), .val (.int (Int32.ofNat (lo))), .val (.int (Int32.ofNat (hi))), .unset] [])
            refine og (fun _ k => XS.iconst X.here hx rfl (hb hby at_695) k) ?_
            show OGo p e below _ T (mkF m 696 #[.val (.int len), .val (.int mode), .val (.long a), .second, .val (.long b), .second, .val (.int (Int32.ofNat (n))), .val (.int s7), .val (.int br), .val (.ref b122), .val (.ref b163), .val (.int (0 : Int32)), .val (.ref b166), .val (.ref x192), .val (.int (1 : Int32)), .val (.int (Int32.ofNat (lo))), .val (.int (Int32.ofNat (hi))), .unset] [(.int (0 : Int32))])
            exact K696 0 (by rw [own_mm, if_pos c]) _ _ X N eT
          refine og (fun _ k => XS.icmpNo X.here hx rfl (hb hby at_682) rfl (flt (fun h => c ((own_lt (by omega) (by omega)).mp h))).2.2.1 k) ?_
          show OGo p e below _ T (mkF m 685 #[.val (.int len), .val (.int mode), .val (.long a), .second, .val (.long b), .second, .val (.int (Int32.ofNat (n))), .val (.int s7), .val (.int br), .val (.ref b122), .val (.ref b163), .val (.int (0 : Int32)), .val (.ref b166), .val (.ref x192), .val (.int (1 : Int32)), .val (.int (Int32.ofNat (lo))), .val (.int (Int32.ofNat (hi))), .unset] [])
          refine og (fun _ k => XS.iload X.here hx rfl (hb hby at_685) rfl k) ?_
          show OGo p e below _ T (mkF m 687 #[.val (.int len), .val (.int mode), .val (.long a), .second, .val (.long b), .second, .val (.int (Int32.ofNat (n))), .val (.int s7), .val (.int br), .val (.ref b122), .val (.ref b163), .val (.int (0 : Int32)), .val (.ref b166), .val (.ref x192), .val (.int (1 : Int32)), .val (.int (Int32.ofNat (lo))), .val (.int (Int32.ofNat (hi))), .unset] [(.int (Int32.ofNat (hi)))])
          refine og (fun _ k => XS.iload X.here hx rfl (hb hby at_687) rfl k) ?_
          show OGo p e below _ T (mkF m 689 #[.val (.int len), .val (.int mode), .val (.long a), .second, .val (.long b), .second, .val (.int (Int32.ofNat (n))), .val (.int s7), .val (.int br), .val (.ref b122), .val (.ref b163), .val (.int (0 : Int32)), .val (.ref b166), .val (.ref x192), .val (.int (1 : Int32)), .val (.int (Int32.ofNat (lo))), .val (.int (Int32.ofNat (hi))), .unset] [(.int (Int32.ofNat (lo))), (.int (Int32.ofNat (hi)))])
          refine og (fun _ k => XS.isub X.here hx rfl (hb hby at_689) rfl k) ?_
          show OGo p e below _ T (mkF m 690 #[.val (.int len), .val (.int mode), .val (.long a), .second, .val (.long b), .second, .val (.int (Int32.ofNat (n))), .val (.int s7), .val (.int br), .val (.ref b122), .val (.ref b163), .val (.int (0 : Int32)), .val (.ref b166), .val (.ref x192), .val (.int (1 : Int32)), .val (.int (Int32.ofNat (lo))), .val (.int (Int32.ofNat (hi))), .unset] [(.int ((Int32.ofNat (hi)) - (Int32.ofNat (lo))))])
          rw [own_subn (show lo ≤ hi by omega) (by omega)]
          show OGo p e below _ T (mkF m 690 #[.val (.int len), .val (.int mode), .val (.long a), .second, .val (.long b), .second, .val (.int (Int32.ofNat (n))), .val (.int s7), .val (.int br), .val (.ref b122), .val (.ref b163), .val (.int (0 : Int32)), .val (.ref b166), .val (.ref x192), .val (.int (1 : Int32)), .val (.int (Int32.ofNat (lo))), .val (.int (Int32.ofNat (hi))), .unset] [(.int (Int32.ofNat (hi - lo)))])
          refine og (fun _ k => XS.iconst X.here hx rfl (hb hby at_690) k) ?_
          show OGo p e below _ T (mkF m 691 #[.val (.int len), .val (.int mode), .val (.long a), .second, .val (.long b), .second, .val (.int (Int32.ofNat (n))), .val (.int s7), .val (.int br), .val (.ref b122), .val (.ref b163), .val (.int (0 : Int32)), .val (.ref b166), .val (.ref x192), .val (.int (1 : Int32)), .val (.int (Int32.ofNat (lo))), .val (.int (Int32.ofNat (hi))), .unset] [(.int (1 : Int32)), (.int (Int32.ofNat (hi - lo)))])
          refine og (fun _ k => XS.iadd X.here hx rfl (hb hby at_691) rfl k) ?_
          show OGo p e below _ T (mkF m 692 #[.val (.int len), .val (.int mode), .val (.long a), .second, .val (.long b), .second, .val (.int (Int32.ofNat (n))), .val (.int s7), .val (.int br), .val (.ref b122), .val (.ref b163), .val (.int (0 : Int32)), .val (.ref b166), .val (.ref x192), .val (.int (1 : Int32)), .val (.int (Int32.ofNat (lo))), .val (.int (Int32.ofNat (hi))), .unset] [(.int ((Int32.ofNat (hi - lo)) + (1 : Int32)))])
          rw [own_inc]
          show OGo p e below _ T (mkF m 692 #[.val (.int len), .val (.int mode), .val (.long a), .second, .val (.long b), .second, .val (.int (Int32.ofNat (n))), .val (.int s7), .val (.int br), .val (.ref b122), .val (.ref b163), .val (.int (0 : Int32)), .val (.ref b166), .val (.ref x192), .val (.int (1 : Int32)), .val (.int (Int32.ofNat (lo))), .val (.int (Int32.ofNat (hi))), .unset] [(.int (Int32.ofNat (hi - lo + 1)))])
          refine og (fun _ k => XS.goto X.here hx rfl (pc0 := 692) (pc' := 696) rfl (hb hby at_692) (by decide) (by decide) k) ?_
          show OGo p e below _ T (mkF m 696 #[.val (.int len), .val (.int mode), .val (.long a), .second, .val (.long b), .second, .val (.int (Int32.ofNat (n))), .val (.int s7), .val (.int br), .val (.ref b122), .val (.ref b163), .val (.int (0 : Int32)), .val (.ref b166), .val (.ref x192), .val (.int (1 : Int32)), .val (.int (Int32.ofNat (lo))), .val (.int (Int32.ofNat (hi))), .unset] [(.int (Int32.ofNat (hi - lo + 1)))])
          exact K696 (hi - lo + 1) (by rw [own_mm, if_neg c]) _ _ X N eT
        have K656 : ∀ (lo hi : Nat) (hlo : lo = own_lo3 n (own_wsb u7) (own_wsb u8) (own_wsb u9)) (hhi : hi = own_hi2 n (own_wsb u7) (own_wsb u8)) (T : State) (locs : List Loc), Stand p l e room_1 (s.setVm T207.vm) m #[(.int len), (.int mode), (.long a), (.long b)] below meth c T locs 39 478 → Fr n0 locs → T.heap = T207.heap → OGo p e below (EndH Z own_EL s room_1 (own_Q n0)) T (mkF m 656 #[.val (.int len), .val (.int mode), .val (.long a), .second, .val (.long b), .second, .val (.int (Int32.ofNat (n))), .val (.int s7), .val (.int br), .val (.ref b122), .val (.ref b163), .val (.int (0 : Int32)), .val (.ref b166), .val (.ref x192), .val (.int (1 : Int32)), .val (.int (Int32.ofNat (lo))), .val (.int (Int32.ofNat (hi))), .unset] []) := by
          intro lo hi hlo hhi T locs X N eT
          show OGo p e below _ T (mkF m 656 #[.val (.int len), .val (.int mode), .val (.long a), .second, .val (.long b), .second, .val (.int (Int32.ofNat (n))), .val (.int s7), .val (.int br), .val (.ref b122), .val (.ref b163), .val (.int (0 : Int32)), .val (.ref b166), .val (.ref x192), .val (.int (1 : Int32)), .val (.int (Int32.ofNat (lo))), .val (.int (Int32.ofNat (hi))), .unset] [])
          refine og (fun _ k => XS.iload X.here hx rfl (hb hby at_656) rfl k) ?_
          show OGo p e below _ T (mkF m 658 #[.val (.int len), .val (.int mode), .val (.long a), .second, .val (.long b), .second, .val (.int (Int32.ofNat (n))), .val (.int s7), .val (.int br), .val (.ref b122), .val (.ref b163), .val (.int (0 : Int32)), .val (.ref b166), .val (.ref x192), .val (.int (1 : Int32)), .val (.int (Int32.ofNat (lo))), .val (.int (Int32.ofNat (hi))), .unset] [(.int (Int32.ofNat (n)))])
          refine og (fun _ k => XS.bipush X.here hx rfl (hb hby at_658) k) ?_
          show OGo p e below _ T (mkF m 660 #[.val (.int len), .val (.int mode), .val (.long a), .second, .val (.long b), .second, .val (.int (Int32.ofNat (n))), .val (.int s7), .val (.int br), .val (.ref b122), .val (.ref b163), .val (.int (0 : Int32)), .val (.ref b166), .val (.ref x192), .val (.int (1 : Int32)), .val (.int (Int32.ofNat (lo))), .val (.int (Int32.ofNat (hi))), .unset] [(.int (9 : Int32)), (.int (Int32.ofNat (n)))])
          by_cases c : 9 < n
          case neg =>
            refine og (fun _ k => XS.icmpYes X.here hx rfl (pc0 := 660) (pc' := 678) rfl (hb hby at_660) rfl (flt (fun h => c ((own_lt (a := 9) (by decide) (by omega)).mp h))).2.2.2 (by decide) (by decide) k) ?_
            show OGo p e below _ T (mkF m 678 #[.val (.int len), .val (.int mode), .val (.long a), .second, .val (.long b), .second, .val (.int (Int32.ofNat (n))), .val (.int s7), .val (.int br), .val (.ref b122), .val (.ref b163), .val (.int (0 : Int32)), .val (.ref b166), .val (.ref x192), .val (.int (1 : Int32)), .val (.int (Int32.ofNat (lo))), .val (.int (Int32.ofNat (hi))), .unset] [])
            exact K678 lo hi hlo (by rw [own_hi3, if_neg (fun h => c h.1)]; exact hhi) _ _ X N eT
          refine og (fun _ k => XS.icmpNo X.here hx rfl (hb hby at_660) rfl (tlt (show Int32.ofNat 9 < Int32.ofNat n from (own_lt (by decide) (by omega)).mpr c)).2.2.2 k) ?_
          show OGo p e below _ T (mkF m 663 #[.val (.int len), .val (.int mode), .val (.long a), .second, .val (.long b), .second, .val (.int (Int32.ofNat (n))), .val (.int s7), .val (.int br), .val (.ref b122), .val (.ref b163), .val (.int (0 : Int32)), .val (.ref b166), .val (.ref x192), .val (.int (1 : Int32)), .val (.int (Int32.ofNat (lo))), .val (.int (Int32.ofNat (hi))), .unset] [])
          refine og (fun _ k => XS.aload X.here hx rfl (hb hby at_663) rfl rfl k) ?_
          show OGo p e below _ T (mkF m 665 #[.val (.int len), .val (.int mode), .val (.long a), .second, .val (.long b), .second, .val (.int (Int32.ofNat (n))), .val (.int s7), .val (.int br), .val (.ref b122), .val (.ref b163), .val (.int (0 : Int32)), .val (.ref b166), .val (.ref x192), .val (.int (1 : Int32)), .val (.int (Int32.ofNat (lo))), .val (.int (Int32.ofNat (hi))), .unset] [(.ref b122)])
          refine og (fun _ k => XS.bipush X.here hx rfl (hb hby at_665) k) ?_
          show OGo p e below _ T (mkF m 667 #[.val (.int len), .val (.int mode), .val (.long a), .second, .val (.long b), .second, .val (.int (Int32.ofNat (n))), .val (.int s7), .val (.int br), .val (.ref b122), .val (.ref b163), .val (.int (0 : Int32)), .val (.ref b166), .val (.ref x192), .val (.int (1 : Int32)), .val (.int (Int32.ofNat (lo))), .val (.int (Int32.ofNat (hi))), .unset] [(.int (9 : Int32)), (.ref b122)])
          refine og (fun _ k => caloadV X hx hZ207 eT q208 ⟨by decide, by decide⟩ rfl (g := (mkF m 667 #[.val (.int len), .val (.int mode), .val (.long a), .second, .val (.long b), .second, .val (.int (Int32.ofNat (n))), .val (.int s7), .val (.int br), .val (.ref b122), .val (.ref b163), .val (.int (0 : Int32)), .val (.ref b166), .val (.ref x192), .val (.int (1 : Int32)), .val (.int (Int32.ofNat (lo))), .val (.int (Int32.ofNat (hi))), .unset] [(.int (9 : Int32)), (.ref b122)])) rfl rfl (hb hby at_667) _ k) ?_
          show OGo p e below _ T (mkF m 668 #[.val (.int len), .val (.int mode), .val (.long a), .second, .val (.long b), .second, .val (.int (Int32.ofNat (n))), .val (.int s7), .val (.int br), .val (.ref b122), .val (.ref b163), .val (.int (0 : Int32)), .val (.ref b166), .val (.ref x192), .val (.int (1 : Int32)), .val (.int (Int32.ofNat (lo))), .val (.int (Int32.ofNat (hi))), .unset] [(.int u9)])
          obtain ⟨v217, T217, L217, X217, hQ217, st217⟩ := scall X hx hZ207 hown207 (own_g hw 172 rfl) (own_g hw 173 rfl) (own_g hw 4 rfl) (own_g hw 174 rfl) (by decide) (W := 0) (rm_ws l Z a0 hw [] u9 T207.heap ) eT (by decide) (by decide) (by decide) (by decide) (g := (mkF m 668 #[.val (.int len), .val (.int mode), .val (.long a), .second, .val (.long b), .second, .val (.int (Int32.ofNat (n))), .val (.int s7), .val (.int br), .val (.ref b122), .val (.ref b163), .val (.int (0 : Int32)), .val (.ref b166), .val (.ref x192), .val (.int (1 : Int32)), .val (.int (Int32.ofNat (lo))), .val (.int (Int32.ofNat (hi))), .unset] [(.int u9)])) rfl (by rw [hml]; rfl) (argsL := [(.int u9)]) (rest := []) opd_33 rfl rfl rfl (by show 2 * 0 + _ ≤ _; exact Nat.le_of_eq rfl) (hb hby at_668)
          obtain ⟨rfl, rfl, e217⟩ := hQ217
          rw [List.append_nil] at X217
          refine og st217 ?_
          show OGo p e below _ T217 (mkF m 671 #[.val (.int len), .val (.int mode), .val (.long a), .second, .val (.long b), .second, .val (.int (Int32.ofNat (n))), .val (.int s7), .val (.int br), .val (.ref b122), .val (.ref b163), .val (.int (0 : Int32)), .val (.ref b166), .val (.ref x192), .val (.int (1 : Int32)), .val (.int (Int32.ofNat (lo))), .val (.int (Int32.ofNat (hi))), .unset] [(.int (if own_wsb u9 then 1 else 0))])
          by_cases wq : own_wsb u9 = true
          case pos =>
            rw [if_pos wq]
            show OGo p e below _ T217 (mkF m 671 #[.val (.int len), .val (.int mode), .val (.long a), .second, .val (.long b), .second, .val (.int (Int32.ofNat (n))), .val (.int s7), .val (.int br), .val (.ref b122), .val (.ref b163), .val (.int (0 : Int32)), .val (.ref b166), .val (.ref x192), .val (.int (1 : Int32)), .val (.int (Int32.ofNat (lo))), .val (.int (Int32.ofNat (hi))), .unset] [(.int (1 : Int32))])
            refine og (fun _ k => XS.ifYes X217.here hx rfl (pc0 := 671) (pc' := 678) rfl (hb hby at_671) rfl ((if0 _ _).trans (feq (by decide : ¬ (1 : Int32) = 0)).2) (by decide) (by decide) k) ?_
            show OGo p e below _ T217 (mkF m 678 #[.val (.int len), .val (.int mode), .val (.long a), .second, .val (.long b), .second, .val (.int (Int32.ofNat (n))), .val (.int s7), .val (.int br), .val (.ref b122), .val (.ref b163), .val (.int (0 : Int32)), .val (.ref b166), .val (.ref x192), .val (.int (1 : Int32)), .val (.int (Int32.ofNat (lo))), .val (.int (Int32.ofNat (hi))), .unset] [])
            exact K678 lo hi hlo (by rw [own_hi3, if_neg (fun h => by rw [wq] at h; exact absurd h.2 (by decide))]; exact hhi) _ _ X217 N e217
          rw [if_neg wq]
          show OGo p e below _ T217 (mkF m 671 #[.val (.int len), .val (.int mode), .val (.long a), .second, .val (.long b), .second, .val (.int (Int32.ofNat (n))), .val (.int s7), .val (.int br), .val (.ref b122), .val (.ref b163), .val (.int (0 : Int32)), .val (.ref b166), .val (.ref x192), .val (.int (1 : Int32)), .val (.int (Int32.ofNat (lo))), .val (.int (Int32.ofNat (hi))), .unset] [(.int (0 : Int32))])
          refine og (fun _ k => XS.ifNo X217.here hx rfl (hb hby at_671) rfl ((if0 _ _).trans (teq (rfl : (0 : Int32) = 0)).2) k) ?_
          show OGo p e below _ T217 (mkF m 674 #[.val (.int len), .val (.int mode), .val (.long a), .second, .val (.long b), .second, .val (.int (Int32.ofNat (n))), .val (.int s7), .val (.int br), .val (.ref b122), .val (.ref b163), .val (.int (0 : Int32)), .val (.ref b166), .val (.ref x192), .val (.int (1 : Int32)), .val (.int (Int32.ofNat (lo))), .val (.int (Int32.ofNat (hi))), .unset] [])
          refine og (fun _ k => XS.bipush X217.here hx rfl (hb hby at_674) k) ?_
          show OGo p e below _ T217 (mkF m 676 #[.val (.int len), .val (.int mode), .val (.long a), .second, .val (.long b), .second, .val (.int (Int32.ofNat (n))), .val (.int s7), .val (.int br), .val (.ref b122), .val (.ref b163), .val (.int (0 : Int32)), .val (.ref b166), .val (.ref x192), .val (.int (1 : Int32)), .val (.int (Int32.ofNat (lo))), .val (.int (Int32.ofNat (hi))), .unset] [(.int (9 : Int32))])
          refine og (fun _ k => XS.istore X217.here hx rfl (hb hby at_676) rfl (l' := #[.val (.int len), .val (.int mode), .val (.long a), .second, .val (.long b), .second, .val (.int (Int32.ofNat (n))), .val (.int s7), .val (.int br), .val (.ref b122), .val (.ref b163), .val (.int (0 : Int32)), .val (.ref b166), .val (.ref x192), .val (.int (1 : Int32)), .val (.int (Int32.ofNat (lo))), .val (.int (9 : Int32)), .unset]) rfl k) ?_
          show OGo p e below _ T217 (mkF m 678 #[.val (.int len), .val (.int mode), .val (.long a), .second, .val (.long b), .second, .val (.int (Int32.ofNat (n))), .val (.int s7), .val (.int br), .val (.ref b122), .val (.ref b163), .val (.int (0 : Int32)), .val (.ref b166), .val (.ref x192), .val (.int (1 : Int32)), .val (.int (Int32.ofNat (lo))), .val (.int (9 : Int32)), .unset] [])
          exact K678 lo 9 hlo (by rw [own_hi3, if_pos ⟨c, by simpa using wq⟩]) _ _ X217 N e217
        have K634 : ∀ (lo hi : Nat) (hlo : lo = own_lo3 n (own_wsb u7) (own_wsb u8) (own_wsb u9)) (hhi : hi = own_hi1 n (own_wsb u7)) (T : State) (locs : List Loc), Stand p l e room_1 (s.setVm T207.vm) m #[(.int len), (.int mode), (.long a), (.long b)] below meth c T locs 39 478 → Fr n0 locs → T.heap = T207.heap → OGo p e below (EndH Z own_EL s room_1 (own_Q n0)) T (mkF m 634 #[.val (.int len), .val (.int mode), .val (.long a), .second, .val (.long b), .second, .val (.int (Int32.ofNat (n))), .val (.int s7), .val (.int br), .val (.ref b122), .val (.ref b163), .val (.int (0 : Int32)), .val (.ref b166), .val (.ref x192), .val (.int (1 : Int32)), .val (.int (Int32.ofNat (lo))), .val (.int (Int32.ofNat (hi))), .unset] []) := by
          intro lo hi hlo hhi T locs X N eT
          show OGo p e below _ T (mkF m 634 #[.val (.int len), .val (.int mode), .val (.long a), .second, .val (.long b), .second, .val (.int (Int32.ofNat (n))), .val (.int s7), .val (.int br), .val (.ref b122), .val (.ref b163), .val (.int (0 : Int32)), .val (.ref b166), .val (.ref x192), .val (.int (1 : Int32)), .val (.int (Int32.ofNat (lo))), .val (.int (Int32.ofNat (hi))), .unset] [])
          refine og (fun _ k => XS.iload X.here hx rfl (hb hby at_634) rfl k) ?_
          show OGo p e below _ T (mkF m 636 #[.val (.int len), .val (.int mode), .val (.long a), .second, .val (.long b), .second, .val (.int (Int32.ofNat (n))), .val (.int s7), .val (.int br), .val (.ref b122), .val (.ref b163), .val (.int (0 : Int32)), .val (.ref b166), .val (.ref x192), .val (.int (1 : Int32)), .val (.int (Int32.ofNat (lo))), .val (.int (Int32.ofNat (hi))), .unset] [(.int (Int32.ofNat (n)))])
          refine og (fun _ k => XS.bipush X.here hx rfl (hb hby at_636) k) ?_
          show OGo p e below _ T (mkF m 638 #[.val (.int len), .val (.int mode), .val (.long a), .second, .val (.long b), .second, .val (.int (Int32.ofNat (n))), .val (.int s7), .val (.int br), .val (.ref b122), .val (.ref b163), .val (.int (0 : Int32)), .val (.ref b166), .val (.ref x192), .val (.int (1 : Int32)), .val (.int (Int32.ofNat (lo))), .val (.int (Int32.ofNat (hi))), .unset] [(.int (8 : Int32)), (.int (Int32.ofNat (n)))])
          by_cases c : 8 < n
          case neg =>
            refine og (fun _ k => XS.icmpYes X.here hx rfl (pc0 := 638) (pc' := 656) rfl (hb hby at_638) rfl (flt (fun h => c ((own_lt (a := 8) (by decide) (by omega)).mp h))).2.2.2 (by decide) (by decide) k) ?_
            show OGo p e below _ T (mkF m 656 #[.val (.int len), .val (.int mode), .val (.long a), .second, .val (.long b), .second, .val (.int (Int32.ofNat (n))), .val (.int s7), .val (.int br), .val (.ref b122), .val (.ref b163), .val (.int (0 : Int32)), .val (.ref b166), .val (.ref x192), .val (.int (1 : Int32)), .val (.int (Int32.ofNat (lo))), .val (.int (Int32.ofNat (hi))), .unset] [])
            exact K656 lo hi hlo (by rw [own_hi2, if_neg (fun h => c h.1)]; exact hhi) _ _ X N eT
          refine og (fun _ k => XS.icmpNo X.here hx rfl (hb hby at_638) rfl (tlt (show Int32.ofNat 8 < Int32.ofNat n from (own_lt (by decide) (by omega)).mpr c)).2.2.2 k) ?_
          show OGo p e below _ T (mkF m 641 #[.val (.int len), .val (.int mode), .val (.long a), .second, .val (.long b), .second, .val (.int (Int32.ofNat (n))), .val (.int s7), .val (.int br), .val (.ref b122), .val (.ref b163), .val (.int (0 : Int32)), .val (.ref b166), .val (.ref x192), .val (.int (1 : Int32)), .val (.int (Int32.ofNat (lo))), .val (.int (Int32.ofNat (hi))), .unset] [])
          refine og (fun _ k => XS.aload X.here hx rfl (hb hby at_641) rfl rfl k) ?_
          show OGo p e below _ T (mkF m 643 #[.val (.int len), .val (.int mode), .val (.long a), .second, .val (.long b), .second, .val (.int (Int32.ofNat (n))), .val (.int s7), .val (.int br), .val (.ref b122), .val (.ref b163), .val (.int (0 : Int32)), .val (.ref b166), .val (.ref x192), .val (.int (1 : Int32)), .val (.int (Int32.ofNat (lo))), .val (.int (Int32.ofNat (hi))), .unset] [(.ref b122)])
          refine og (fun _ k => XS.bipush X.here hx rfl (hb hby at_643) k) ?_
          show OGo p e below _ T (mkF m 645 #[.val (.int len), .val (.int mode), .val (.long a), .second, .val (.long b), .second, .val (.int (Int32.ofNat (n))), .val (.int s7), .val (.int br), .val (.ref b122), .val (.ref b163), .val (.int (0 : Int32)), .val (.ref b166), .val (.ref x192), .val (.int (1 : Int32)), .val (.int (Int32.ofNat (lo))), .val (.int (Int32.ofNat (hi))), .unset] [(.int (8 : Int32)), (.ref b122)])
          refine og (fun _ k => caloadV X hx hZ207 eT q208 ⟨by decide, by decide⟩ rfl (g := (mkF m 645 #[.val (.int len), .val (.int mode), .val (.long a), .second, .val (.long b), .second, .val (.int (Int32.ofNat (n))), .val (.int s7), .val (.int br), .val (.ref b122), .val (.ref b163), .val (.int (0 : Int32)), .val (.ref b166), .val (.ref x192), .val (.int (1 : Int32)), .val (.int (Int32.ofNat (lo))), .val (.int (Int32.ofNat (hi))), .unset] [(.int (8 : Int32)), (.ref b122)])) rfl rfl (hb hby at_645) _ k) ?_
          show OGo p e below _ T (mkF m 646 #[.val (.int len), .val (.int mode), .val (.long a), .second, .val (.long b), .second, .val (.int (Int32.ofNat (n))), .val (.int s7), .val (.int br), .val (.ref b122), .val (.ref b163), .val (.int (0 : Int32)), .val (.ref b166), .val (.ref x192), .val (.int (1 : Int32)), .val (.int (Int32.ofNat (lo))), .val (.int (Int32.ofNat (hi))), .unset] [(.int u8)])
          obtain ⟨v218, T218, L218, X218, hQ218, st218⟩ := scall X hx hZ207 hown207 (own_g hw 172 rfl) (own_g hw 173 rfl) (own_g hw 4 rfl) (own_g hw 174 rfl) (by decide) (W := 0) (rm_ws l Z a0 hw [] u8 T207.heap ) eT (by decide) (by decide) (by decide) (by decide) (g := (mkF m 646 #[.val (.int len), .val (.int mode), .val (.long a), .second, .val (.long b), .second, .val (.int (Int32.ofNat (n))), .val (.int s7), .val (.int br), .val (.ref b122), .val (.ref b163), .val (.int (0 : Int32)), .val (.ref b166), .val (.ref x192), .val (.int (1 : Int32)), .val (.int (Int32.ofNat (lo))), .val (.int (Int32.ofNat (hi))), .unset] [(.int u8)])) rfl (by rw [hml]; rfl) (argsL := [(.int u8)]) (rest := []) opd_33 rfl rfl rfl (by show 2 * 0 + _ ≤ _; exact Nat.le_of_eq rfl) (hb hby at_646)
          obtain ⟨rfl, rfl, e218⟩ := hQ218
          rw [List.append_nil] at X218
          refine og st218 ?_
          show OGo p e below _ T218 (mkF m 649 #[.val (.int len), .val (.int mode), .val (.long a), .second, .val (.long b), .second, .val (.int (Int32.ofNat (n))), .val (.int s7), .val (.int br), .val (.ref b122), .val (.ref b163), .val (.int (0 : Int32)), .val (.ref b166), .val (.ref x192), .val (.int (1 : Int32)), .val (.int (Int32.ofNat (lo))), .val (.int (Int32.ofNat (hi))), .unset] [(.int (if own_wsb u8 then 1 else 0))])
          by_cases wq : own_wsb u8 = true
          case pos =>
            rw [if_pos wq]
            show OGo p e below _ T218 (mkF m 649 #[.val (.int len), .val (.int mode), .val (.long a), .second, .val (.long b), .second, .val (.int (Int32.ofNat (n))), .val (.int s7), .val (.int br), .val (.ref b122), .val (.ref b163), .val (.int (0 : Int32)), .val (.ref b166), .val (.ref x192), .val (.int (1 : Int32)), .val (.int (Int32.ofNat (lo))), .val (.int (Int32.ofNat (hi))), .unset] [(.int (1 : Int32))])
            refine og (fun _ k => XS.ifYes X218.here hx rfl (pc0 := 649) (pc' := 656) rfl (hb hby at_649) rfl ((if0 _ _).trans (feq (by decide : ¬ (1 : Int32) = 0)).2) (by decide) (by decide) k) ?_
            show OGo p e below _ T218 (mkF m 656 #[.val (.int len), .val (.int mode), .val (.long a), .second, .val (.long b), .second, .val (.int (Int32.ofNat (n))), .val (.int s7), .val (.int br), .val (.ref b122), .val (.ref b163), .val (.int (0 : Int32)), .val (.ref b166), .val (.ref x192), .val (.int (1 : Int32)), .val (.int (Int32.ofNat (lo))), .val (.int (Int32.ofNat (hi))), .unset] [])
            exact K656 lo hi hlo (by rw [own_hi2, if_neg (fun h => by rw [wq] at h; exact absurd h.2 (by decide))]; exact hhi) _ _ X218 N e218
          rw [if_neg wq]
          show OGo p e below _ T218 (mkF m 649 #[.val (.int len), .val (.int mode), .val (.long a), .second, .val (.long b), .second, .val (.int (Int32.ofNat (n))), .val (.int s7), .val (.int br), .val (.ref b122), .val (.ref b163), .val (.int (0 : Int32)), .val (.ref b166), .val (.ref x192), .val (.int (1 : Int32)), .val (.int (Int32.ofNat (lo))), .val (.int (Int32.ofNat (hi))), .unset] [(.int (0 : Int32))])
          refine og (fun _ k => XS.ifNo X218.here hx rfl (hb hby at_649) rfl ((if0 _ _).trans (teq (rfl : (0 : Int32) = 0)).2) k) ?_
          show OGo p e below _ T218 (mkF m 652 #[.val (.int len), .val (.int mode), .val (.long a), .second, .val (.long b), .second, .val (.int (Int32.ofNat (n))), .val (.int s7), .val (.int br), .val (.ref b122), .val (.ref b163), .val (.int (0 : Int32)), .val (.ref b166), .val (.ref x192), .val (.int (1 : Int32)), .val (.int (Int32.ofNat (lo))), .val (.int (Int32.ofNat (hi))), .unset] [])
          refine og (fun _ k => XS.bipush X218.here hx rfl (hb hby at_652) k) ?_
          show OGo p e below _ T218 (mkF m 654 #[.val (.int len), .val (.int mode), .val (.long a), .second, .val (.long b), .second, .val (.int (Int32.ofNat (n))), .val (.int s7), .val (.int br), .val (.ref b122), .val (.ref b163), .val (.int (0 : Int32)), .val (.ref b166), .val (.ref x192), .val (.int (1 : Int32)), .val (.int (Int32.ofNat (lo))), .val (.int (Int32.ofNat (hi))), .unset] [(.int (8 : Int32))])
          refine og (fun _ k => XS.istore X218.here hx rfl (hb hby at_654) rfl (l' := #[.val (.int len), .val (.int mode), .val (.long a), .second, .val (.long b), .second, .val (.int (Int32.ofNat (n))), .val (.int s7), .val (.int br), .val (.ref b122), .val (.ref b163), .val (.int (0 : Int32)), .val (.ref b166), .val (.ref x192), .val (.int (1 : Int32)), .val (.int (Int32.ofNat (lo))), .val (.int (8 : Int32)), .unset]) rfl k) ?_
          show OGo p e below _ T218 (mkF m 656 #[.val (.int len), .val (.int mode), .val (.long a), .second, .val (.long b), .second, .val (.int (Int32.ofNat (n))), .val (.int s7), .val (.int br), .val (.ref b122), .val (.ref b163), .val (.int (0 : Int32)), .val (.ref b166), .val (.ref x192), .val (.int (1 : Int32)), .val (.int (Int32.ofNat (lo))), .val (.int (8 : Int32)), .unset] [])
          exact K656 lo 8 hlo (by rw [own_hi2, if_pos ⟨c, by simpa using wq⟩]) _ _ X218 N e218
        have K608 : ∀ (lo : Nat) (hlo : lo = own_lo3 n (own_wsb u7) (own_wsb u8) (own_wsb u9)) (T : State) (locs : List Loc), Stand p l e room_1 (s.setVm T207.vm) m #[(.int len), (.int mode), (.long a), (.long b)] below meth c T locs 39 478 → Fr n0 locs → T.heap = T207.heap → OGo p e below (EndH Z own_EL s room_1 (own_Q n0)) T (mkF m 608 #[.val (.int len), .val (.int mode), .val (.long a), .second, .val (.long b), .second, .val (.int (Int32.ofNat (n))), .val (.int s7), .val (.int br), .val (.ref b122), .val (.ref b163), .val (.int (0 : Int32)), .val (.ref b166), .val (.ref x192), .val (.int (1 : Int32)), .val (.int (Int32.ofNat (lo))), .unset, .unset] []) := by
          intro lo hlo T locs X N eT
          show OGo p e below _ T (mkF m 608 #[.val (.int len), .val (.int mode), .val (.long a), .second, .val (.long b), .second, .val (.int (Int32.ofNat (n))), .val (.int s7), .val (.int br), .val (.ref b122), .val (.ref b163), .val (.int (0 : Int32)), .val (.ref b166), .val (.ref x192), .val (.int (1 : Int32)), .val (.int (Int32.ofNat (lo))), .unset, .unset] [])
          refine og (fun _ k => XS.bipush X.here hx rfl (hb hby at_608) k) ?_
          show OGo p e below _ T (mkF m 610 #[.val (.int len), .val (.int mode), .val (.long a), .second, .val (.long b), .second, .val (.int (Int32.ofNat (n))), .val (.int s7), .val (.int br), .val (.ref b122), .val (.ref b163), .val (.int (0 : Int32)), .val (.ref b166), .val (.ref x192), .val (.int (1 : Int32)), .val (.int (Int32.ofNat (lo))), .unset, .unset] [(.int (6 : Int32))])
          refine og (fun _ k => XS.istore X.here hx rfl (hb hby at_610) rfl (l' := #[.val (.int len), .val (.int mode), .val (.long a), .second, .val (.long b), .second, .val (.int (Int32.ofNat (n))), .val (.int s7), .val (.int br), .val (.ref b122), .val (.ref b163), .val (.int (0 : Int32)), .val (.ref b166), .val (.ref x192), .val (.int (1 : Int32)), .val (.int (Int32.ofNat (lo))), .val (.int (6 : Int32)), .unset]) rfl k) ?_
          show OGo p e below _ T (mkF m 612 #[.val (.int len), .val (.int mode), .val (.long a), .second, .val (.long b), .second, .val (.int (Int32.ofNat (n))), .val (.int s7), .val (.int br), .val (.ref b122), .val (.ref b163), .val (.int (0 : Int32)), .val (.ref b166), .val (.ref x192), .val (.int (1 : Int32)), .val (.int (Int32.ofNat (lo))), .val (.int (6 : Int32)), .unset] [])
          refine og (fun _ k => XS.iload X.here hx rfl (hb hby at_612) rfl k) ?_
          show OGo p e below _ T (mkF m 614 #[.val (.int len), .val (.int mode), .val (.long a), .second, .val (.long b), .second, .val (.int (Int32.ofNat (n))), .val (.int s7), .val (.int br), .val (.ref b122), .val (.ref b163), .val (.int (0 : Int32)), .val (.ref b166), .val (.ref x192), .val (.int (1 : Int32)), .val (.int (Int32.ofNat (lo))), .val (.int (6 : Int32)), .unset] [(.int (Int32.ofNat (n)))])
          refine og (fun _ k => XS.bipush X.here hx rfl (hb hby at_614) k) ?_
          show OGo p e below _ T (mkF m 616 #[.val (.int len), .val (.int mode), .val (.long a), .second, .val (.long b), .second, .val (.int (Int32.ofNat (n))), .val (.int s7), .val (.int br), .val (.ref b122), .val (.ref b163), .val (.int (0 : Int32)), .val (.ref b166), .val (.ref x192), .val (.int (1 : Int32)), .val (.int (Int32.ofNat (lo))), .val (.int (6 : Int32)), .unset] [(.int (7 : Int32)), (.int (Int32.ofNat (n)))])
          by_cases c : 7 < n
          case neg =>
            refine og (fun _ k => XS.icmpYes X.here hx rfl (pc0 := 616) (pc' := 634) rfl (hb hby at_616) rfl (flt (fun h => c ((own_lt (a := 7) (by decide) (by omega)).mp h))).2.2.2 (by decide) (by decide) k) ?_
            show OGo p e below _ T (mkF m 634 #[.val (.int len), .val (.int mode), .val (.long a), .second, .val (.long b), .second, .val (.int (Int32.ofNat (n))), .val (.int s7), .val (.int br), .val (.ref b122), .val (.ref b163), .val (.int (0 : Int32)), .val (.ref b166), .val (.ref x192), .val (.int (1 : Int32)), .val (.int (Int32.ofNat (lo))), .val (.int (6 : Int32)), .unset] [])
            exact K634 lo 6 hlo (by rw [own_hi1, if_neg (fun h => c h.1)]) _ _ X N eT
          refine og (fun _ k => XS.icmpNo X.here hx rfl (hb hby at_616) rfl (tlt (show Int32.ofNat 7 < Int32.ofNat n from (own_lt (by decide) (by omega)).mpr c)).2.2.2 k) ?_
          show OGo p e below _ T (mkF m 619 #[.val (.int len), .val (.int mode), .val (.long a), .second, .val (.long b), .second, .val (.int (Int32.ofNat (n))), .val (.int s7), .val (.int br), .val (.ref b122), .val (.ref b163), .val (.int (0 : Int32)), .val (.ref b166), .val (.ref x192), .val (.int (1 : Int32)), .val (.int (Int32.ofNat (lo))), .val (.int (6 : Int32)), .unset] [])
          refine og (fun _ k => XS.aload X.here hx rfl (hb hby at_619) rfl rfl k) ?_
          show OGo p e below _ T (mkF m 621 #[.val (.int len), .val (.int mode), .val (.long a), .second, .val (.long b), .second, .val (.int (Int32.ofNat (n))), .val (.int s7), .val (.int br), .val (.ref b122), .val (.ref b163), .val (.int (0 : Int32)), .val (.ref b166), .val (.ref x192), .val (.int (1 : Int32)), .val (.int (Int32.ofNat (lo))), .val (.int (6 : Int32)), .unset] [(.ref b122)])
          refine og (fun _ k => XS.bipush X.here hx rfl (hb hby at_621) k) ?_
          show OGo p e below _ T (mkF m 623 #[.val (.int len), .val (.int mode), .val (.long a), .second, .val (.long b), .second, .val (.int (Int32.ofNat (n))), .val (.int s7), .val (.int br), .val (.ref b122), .val (.ref b163), .val (.int (0 : Int32)), .val (.ref b166), .val (.ref x192), .val (.int (1 : Int32)), .val (.int (Int32.ofNat (lo))), .val (.int (6 : Int32)), .unset] [(.int (7 : Int32)), (.ref b122)])
          refine og (fun _ k => caloadV X hx hZ207 eT q208 ⟨by decide, by decide⟩ rfl (g := (mkF m 623 #[.val (.int len), .val (.int mode), .val (.long a), .second, .val (.long b), .second, .val (.int (Int32.ofNat (n))), .val (.int s7), .val (.int br), .val (.ref b122), .val (.ref b163), .val (.int (0 : Int32)), .val (.ref b166), .val (.ref x192), .val (.int (1 : Int32)), .val (.int (Int32.ofNat (lo))), .val (.int (6 : Int32)), .unset] [(.int (7 : Int32)), (.ref b122)])) rfl rfl (hb hby at_623) _ k) ?_
          show OGo p e below _ T (mkF m 624 #[.val (.int len), .val (.int mode), .val (.long a), .second, .val (.long b), .second, .val (.int (Int32.ofNat (n))), .val (.int s7), .val (.int br), .val (.ref b122), .val (.ref b163), .val (.int (0 : Int32)), .val (.ref b166), .val (.ref x192), .val (.int (1 : Int32)), .val (.int (Int32.ofNat (lo))), .val (.int (6 : Int32)), .unset] [(.int u7)])
          obtain ⟨v219, T219, L219, X219, hQ219, st219⟩ := scall X hx hZ207 hown207 (own_g hw 172 rfl) (own_g hw 173 rfl) (own_g hw 4 rfl) (own_g hw 174 rfl) (by decide) (W := 0) (rm_ws l Z a0 hw [] u7 T207.heap ) eT (by decide) (by decide) (by decide) (by decide) (g := (mkF m 624 #[.val (.int len), .val (.int mode), .val (.long a), .second, .val (.long b), .second, .val (.int (Int32.ofNat (n))), .val (.int s7), .val (.int br), .val (.ref b122), .val (.ref b163), .val (.int (0 : Int32)), .val (.ref b166), .val (.ref x192), .val (.int (1 : Int32)), .val (.int (Int32.ofNat (lo))), .val (.int (6 : Int32)), .unset] [(.int u7)])) rfl (by rw [hml]; rfl) (argsL := [(.int u7)]) (rest := []) opd_33 rfl rfl rfl (by show 2 * 0 + _ ≤ _; exact Nat.le_of_eq rfl) (hb hby at_624)
          obtain ⟨rfl, rfl, e219⟩ := hQ219
          rw [List.append_nil] at X219
          refine og st219 ?_
          show OGo p e below _ T219 (mkF m 627 #[.val (.int len), .val (.int mode), .val (.long a), .second, .val (.long b), .second, .val (.int (Int32.ofNat (n))), .val (.int s7), .val (.int br), .val (.ref b122), .val (.ref b163), .val (.int (0 : Int32)), .val (.ref b166), .val (.ref x192), .val (.int (1 : Int32)), .val (.int (Int32.ofNat (lo))), .val (.int (6 : Int32)), .unset] [(.int (if own_wsb u7 then 1 else 0))])
          by_cases wq : own_wsb u7 = true
          case pos =>
            rw [if_pos wq]
            show OGo p e below _ T219 (mkF m 627 #[.val (.int len), .val (.int mode), .val (.long a), .second, .val (.long b), .second, .val (.int (Int32.ofNat (n))), .val (.int s7), .val (.int br), .val (.ref b122), .val (.ref b163), .val (.int (0 : Int32)), .val (.ref b166), .val (.ref x192), .val (.int (1 : Int32)), .val (.int (Int32.ofNat (lo))), .val (.int (6 : Int32)), .unset] [(.int (1 : Int32))])
            refine og (fun _ k => XS.ifYes X219.here hx rfl (pc0 := 627) (pc' := 634) rfl (hb hby at_627) rfl ((if0 _ _).trans (feq (by decide : ¬ (1 : Int32) = 0)).2) (by decide) (by decide) k) ?_
            show OGo p e below _ T219 (mkF m 634 #[.val (.int len), .val (.int mode), .val (.long a), .second, .val (.long b), .second, .val (.int (Int32.ofNat (n))), .val (.int s7), .val (.int br), .val (.ref b122), .val (.ref b163), .val (.int (0 : Int32)), .val (.ref b166), .val (.ref x192), .val (.int (1 : Int32)), .val (.int (Int32.ofNat (lo))), .val (.int (6 : Int32)), .unset] [])
            exact K634 lo 6 hlo (by rw [own_hi1, if_neg (fun h => by rw [wq] at h; exact absurd h.2 (by decide))]) _ _ X219 N e219
          rw [if_neg wq]
          show OGo p e below _ T219 (mkF m 627 #[.val (.int len), .val (.int mode), .val (.long a), .second, .val (.long b), .second, .val (.int (Int32.ofNat (n))), .val (.int s7), .val (.int br), .val (.ref b122), .val (.ref b163), .val (.int (0 : Int32)), .val (.ref b166), .val (.ref x192), .val (.int (1 : Int32)), .val (.int (Int32.ofNat (lo))), .val (.int (6 : Int32)), .unset] [(.int (0 : Int32))])
          refine og (fun _ k => XS.ifNo X219.here hx rfl (hb hby at_627) rfl ((if0 _ _).trans (teq (rfl : (0 : Int32) = 0)).2) k) ?_
          show OGo p e below _ T219 (mkF m 630 #[.val (.int len), .val (.int mode), .val (.long a), .second, .val (.long b), .second, .val (.int (Int32.ofNat (n))), .val (.int s7), .val (.int br), .val (.ref b122), .val (.ref b163), .val (.int (0 : Int32)), .val (.ref b166), .val (.ref x192), .val (.int (1 : Int32)), .val (.int (Int32.ofNat (lo))), .val (.int (6 : Int32)), .unset] [])
          refine og (fun _ k => XS.bipush X219.here hx rfl (hb hby at_630) k) ?_
          show OGo p e below _ T219 (mkF m 632 #[.val (.int len), .val (.int mode), .val (.long a), .second, .val (.long b), .second, .val (.int (Int32.ofNat (n))), .val (.int s7), .val (.int br), .val (.ref b122), .val (.ref b163), .val (.int (0 : Int32)), .val (.ref b166), .val (.ref x192), .val (.int (1 : Int32)), .val (.int (Int32.ofNat (lo))), .val (.int (6 : Int32)), .unset] [(.int (7 : Int32))])
          refine og (fun _ k => XS.istore X219.here hx rfl (hb hby at_632) rfl (l' := #[.val (.int len), .val (.int mode), .val (.long a), .second, .val (.long b), .second, .val (.int (Int32.ofNat (n))), .val (.int s7), .val (.int br), .val (.ref b122), .val (.ref b163), .val (.int (0 : Int32)), .val (.ref b166), .val (.ref x192), .val (.int (1 : Int32)), .val (.int (Int32.ofNat (lo))), .val (.int (7 : Int32)), .unset]) rfl k) ?_
          show OGo p e below _ T219 (mkF m 634 #[.val (.int len), .val (.int mode), .val (.long a), .second, .val (.long b), .second, .val (.int (Int32.ofNat (n))), .val (.int s7), .val (.int br), .val (.ref b122), .val (.ref b163), .val (.int (0 : Int32)), .val (.ref b166), .val (.ref x192), .val (.int (1 : Int32)), .val (.int (Int32.ofNat (lo))), .val (.int (7 : Int32)), .unset] [])
          exact K634 lo 7 hlo (by rw [own_hi1, if_pos ⟨c, by simpa using wq⟩]) _ _ X219 N e219
        have K586 : ∀ (lo : Nat) (hlo : lo = own_lo2 n (own_wsb u8) (own_wsb u9)) (T : State) (locs : List Loc), Stand p l e room_1 (s.setVm T207.vm) m #[(.int len), (.int mode), (.long a), (.long b)] below meth c T locs 39 478 → Fr n0 locs → T.heap = T207.heap → OGo p e below (EndH Z own_EL s room_1 (own_Q n0)) T (mkF m 586 #[.val (.int len), .val (.int mode), .val (.long a), .second, .val (.long b), .second, .val (.int (Int32.ofNat (n))), .val (.int s7), .val (.int br), .val (.ref b122), .val (.ref b163), .val (.int (0 : Int32)), .val (.ref b166), .val (.ref x192), .val (.int (1 : Int32)), .val (.int (Int32.ofNat (lo))), .unset, .unset] []) := by
          intro lo hlo T locs X N eT
          show OGo p e below _ T (mkF m 586 #[.val (.int len), .val (.int mode), .val (.long a), .second, .val (.long b), .second, .val (.int (Int32.ofNat (n))), .val (.int s7), .val (.int br), .val (.ref b122), .val (.ref b163), .val (.int (0 : Int32)), .val (.ref b166), .val (.ref x192), .val (.int (1 : Int32)), .val (.int (Int32.ofNat (lo))), .unset, .unset] [])
          refine og (fun _ k => XS.iload X.here hx rfl (hb hby at_586) rfl k) ?_
          show OGo p e below _ T (mkF m 588 #[.val (.int len), .val (.int mode), .val (.long a), .second, .val (.long b), .second, .val (.int (Int32.ofNat (n))), .val (.int s7), .val (.int br), .val (.ref b122), .val (.ref b163), .val (.int (0 : Int32)), .val (.ref b166), .val (.ref x192), .val (.int (1 : Int32)), .val (.int (Int32.ofNat (lo))), .unset, .unset] [(.int (Int32.ofNat (n)))])
          refine og (fun _ k => XS.bipush X.here hx rfl (hb hby at_588) k) ?_
          show OGo p e below _ T (mkF m 590 #[.val (.int len), .val (.int mode), .val (.long a), .second, .val (.long b), .second, .val (.int (Int32.ofNat (n))), .val (.int s7), .val (.int br), .val (.ref b122), .val (.ref b163), .val (.int (0 : Int32)), .val (.ref b166), .val (.ref x192), .val (.int (1 : Int32)), .val (.int (Int32.ofNat (lo))), .unset, .unset] [(.int (7 : Int32)), (.int (Int32.ofNat (n)))])
          by_cases c : 7 < n
          case neg =>
            refine og (fun _ k => XS.icmpYes X.here hx rfl (pc0 := 590) (pc' := 608) rfl (hb hby at_590) rfl (flt (fun h => c ((own_lt (a := 7) (by decide) (by omega)).mp h))).2.2.2 (by decide) (by decide) k) ?_
            show OGo p e below _ T (mkF m 608 #[.val (.int len), .val (.int mode), .val (.long a), .second, .val (.long b), .second, .val (.int (Int32.ofNat (n))), .val (.int s7), .val (.int br), .val (.ref b122), .val (.ref b163), .val (.int (0 : Int32)), .val (.ref b166), .val (.ref x192), .val (.int (1 : Int32)), .val (.int (Int32.ofNat (lo))), .unset, .unset] [])
            exact K608 lo (by rw [own_lo3, if_neg (fun h => c h.1)]; exact hlo) _ _ X N eT
          refine og (fun _ k => XS.icmpNo X.here hx rfl (hb hby at_590) rfl (tlt (show Int32.ofNat 7 < Int32.ofNat n from (own_lt (by decide) (by omega)).mpr c)).2.2.2 k) ?_
          show OGo p e below _ T (mkF m 593 #[.val (.int len), .val (.int mode), .val (.long a), .second, .val (.long b), .second, .val (.int (Int32.ofNat (n))), .val (.int s7), .val (.int br), .val (.ref b122), .val (.ref b163), .val (.int (0 : Int32)), .val (.ref b166), .val (.ref x192), .val (.int (1 : Int32)), .val (.int (Int32.ofNat (lo))), .unset, .unset] [])
          refine og (fun _ k => XS.aload X.here hx rfl (hb hby at_593) rfl rfl k) ?_
          show OGo p e below _ T (mkF m 595 #[.val (.int len), .val (.int mode), .val (.long a), .second, .val (.long b), .second, .val (.int (Int32.ofNat (n))), .val (.int s7), .val (.int br), .val (.ref b122), .val (.ref b163), .val (.int (0 : Int32)), .val (.ref b166), .val (.ref x192), .val (.int (1 : Int32)), .val (.int (Int32.ofNat (lo))), .unset, .unset] [(.ref b122)])
          refine og (fun _ k => XS.bipush X.here hx rfl (hb hby at_595) k) ?_
          show OGo p e below _ T (mkF m 597 #[.val (.int len), .val (.int mode), .val (.long a), .second, .val (.long b), .second, .val (.int (Int32.ofNat (n))), .val (.int s7), .val (.int br), .val (.ref b122), .val (.ref b163), .val (.int (0 : Int32)), .val (.ref b166), .val (.ref x192), .val (.int (1 : Int32)), .val (.int (Int32.ofNat (lo))), .unset, .unset] [(.int (7 : Int32)), (.ref b122)])
          refine og (fun _ k => caloadV X hx hZ207 eT q208 ⟨by decide, by decide⟩ rfl (g := (mkF m 597 #[.val (.int len), .val (.int mode), .val (.long a), .second, .val (.long b), .second, .val (.int (Int32.ofNat (n))), .val (.int s7), .val (.int br), .val (.ref b122), .val (.ref b163), .val (.int (0 : Int32)), .val (.ref b166), .val (.ref x192), .val (.int (1 : Int32)), .val (.int (Int32.ofNat (lo))), .unset, .unset] [(.int (7 : Int32)), (.ref b122)])) rfl rfl (hb hby at_597) _ k) ?_
          show OGo p e below _ T (mkF m 598 #[.val (.int len), .val (.int mode), .val (.long a), .second, .val (.long b), .second, .val (.int (Int32.ofNat (n))), .val (.int s7), .val (.int br), .val (.ref b122), .val (.ref b163), .val (.int (0 : Int32)), .val (.ref b166), .val (.ref x192), .val (.int (1 : Int32)), .val (.int (Int32.ofNat (lo))), .unset, .unset] [(.int u7)])
          obtain ⟨v220, T220, L220, X220, hQ220, st220⟩ := scall X hx hZ207 hown207 (own_g hw 172 rfl) (own_g hw 173 rfl) (own_g hw 4 rfl) (own_g hw 174 rfl) (by decide) (W := 0) (rm_ws l Z a0 hw [] u7 T207.heap ) eT (by decide) (by decide) (by decide) (by decide) (g := (mkF m 598 #[.val (.int len), .val (.int mode), .val (.long a), .second, .val (.long b), .second, .val (.int (Int32.ofNat (n))), .val (.int s7), .val (.int br), .val (.ref b122), .val (.ref b163), .val (.int (0 : Int32)), .val (.ref b166), .val (.ref x192), .val (.int (1 : Int32)), .val (.int (Int32.ofNat (lo))), .unset, .unset] [(.int u7)])) rfl (by rw [hml]; rfl) (argsL := [(.int u7)]) (rest := []) opd_33 rfl rfl rfl (by show 2 * 0 + _ ≤ _; exact Nat.le_of_eq rfl) (hb hby at_598)
          obtain ⟨rfl, rfl, e220⟩ := hQ220
          rw [List.append_nil] at X220
          refine og st220 ?_
          show OGo p e below _ T220 (mkF m 601 #[.val (.int len), .val (.int mode), .val (.long a), .second, .val (.long b), .second, .val (.int (Int32.ofNat (n))), .val (.int s7), .val (.int br), .val (.ref b122), .val (.ref b163), .val (.int (0 : Int32)), .val (.ref b166), .val (.ref x192), .val (.int (1 : Int32)), .val (.int (Int32.ofNat (lo))), .unset, .unset] [(.int (if own_wsb u7 then 1 else 0))])
          by_cases wq : own_wsb u7 = true
          case pos =>
            rw [if_pos wq]
            show OGo p e below _ T220 (mkF m 601 #[.val (.int len), .val (.int mode), .val (.long a), .second, .val (.long b), .second, .val (.int (Int32.ofNat (n))), .val (.int s7), .val (.int br), .val (.ref b122), .val (.ref b163), .val (.int (0 : Int32)), .val (.ref b166), .val (.ref x192), .val (.int (1 : Int32)), .val (.int (Int32.ofNat (lo))), .unset, .unset] [(.int (1 : Int32))])
            refine og (fun _ k => XS.ifYes X220.here hx rfl (pc0 := 601) (pc' := 608) rfl (hb hby at_601) rfl ((if0 _ _).trans (feq (by decide : ¬ (1 : Int32) = 0)).2) (by decide) (by decide) k) ?_
            show OGo p e below _ T220 (mkF m 608 #[.val (.int len), .val (.int mode), .val (.long a), .second, .val (.long b), .second, .val (.int (Int32.ofNat (n))), .val (.int s7), .val (.int br), .val (.ref b122), .val (.ref b163), .val (.int (0 : Int32)), .val (.ref b166), .val (.ref x192), .val (.int (1 : Int32)), .val (.int (Int32.ofNat (lo))), .unset, .unset] [])
            exact K608 lo (by rw [own_lo3, if_neg (fun h => by rw [wq] at h; exact absurd h.2 (by decide))]; exact hlo) _ _ X220 N e220
          rw [if_neg wq]
          show OGo p e below _ T220 (mkF m 601 #[.val (.int len), .val (.int mode), .val (.long a), .second, .val (.long b), .second, .val (.int (Int32.ofNat (n))), .val (.int s7), .val (.int br), .val (.ref b122), .val (.ref b163), .val (.int (0 : Int32)), .val (.ref b166), .val (.ref x192), .val (.int (1 : Int32)), .val (.int (Int32.ofNat (lo))), .unset, .unset] [(.int (0 : Int32))])
          refine og (fun _ k => XS.ifNo X220.here hx rfl (hb hby at_601) rfl ((if0 _ _).trans (teq (rfl : (0 : Int32) = 0)).2) k) ?_
          show OGo p e below _ T220 (mkF m 604 #[.val (.int len), .val (.int mode), .val (.long a), .second, .val (.long b), .second, .val (.int (Int32.ofNat (n))), .val (.int s7), .val (.int br), .val (.ref b122), .val (.ref b163), .val (.int (0 : Int32)), .val (.ref b166), .val (.ref x192), .val (.int (1 : Int32)), .val (.int (Int32.ofNat (lo))), .unset, .unset] [])
          refine og (fun _ k => XS.bipush X220.here hx rfl (hb hby at_604) k) ?_
          show OGo p e below _ T220 (mkF m 606 #[.val (.int len), .val (.int mode), .val (.long a), .second, .val (.long b), .second, .val (.int (Int32.ofNat (n))), .val (.int s7), .val (.int br), .val (.ref b122), .val (.ref b163), .val (.int (0 : Int32)), .val (.ref b166), .val (.ref x192), .val (.int (1 : Int32)), .val (.int (Int32.ofNat (lo))), .unset, .unset] [(.int (7 : Int32))])
          refine og (fun _ k => XS.istore X220.here hx rfl (hb hby at_606) rfl (l' := #[.val (.int len), .val (.int mode), .val (.long a), .second, .val (.long b), .second, .val (.int (Int32.ofNat (n))), .val (.int s7), .val (.int br), .val (.ref b122), .val (.ref b163), .val (.int (0 : Int32)), .val (.ref b166), .val (.ref x192), .val (.int (1 : Int32)), .val (.int (7 : Int32)), .unset, .unset]) rfl k) ?_
          show OGo p e below _ T220 (mkF m 608 #[.val (.int len), .val (.int mode), .val (.long a), .second, .val (.long b), .second, .val (.int (Int32.ofNat (n))), .val (.int s7), .val (.int br), .val (.ref b122), .val (.ref b163), .val (.int (0 : Int32)), .val (.ref b166), .val (.ref x192), .val (.int (1 : Int32)), .val (.int (7 : Int32)), .unset, .unset] [])
          exact K608 7 (by rw [own_lo3, if_pos ⟨c, by simpa using wq⟩]) _ _ X220 N e220
        have K564 : ∀ (lo : Nat) (hlo : lo = own_lo1 n (own_wsb u9)) (T : State) (locs : List Loc), Stand p l e room_1 (s.setVm T207.vm) m #[(.int len), (.int mode), (.long a), (.long b)] below meth c T locs 39 478 → Fr n0 locs → T.heap = T207.heap → OGo p e below (EndH Z own_EL s room_1 (own_Q n0)) T (mkF m 564 #[.val (.int len), .val (.int mode), .val (.long a), .second, .val (.long b), .second, .val (.int (Int32.ofNat (n))), .val (.int s7), .val (.int br), .val (.ref b122), .val (.ref b163), .val (.int (0 : Int32)), .val (.ref b166), .val (.ref x192), .val (.int (1 : Int32)), .val (.int (Int32.ofNat (lo))), .unset, .unset] []) := by
          intro lo hlo T locs X N eT
          show OGo p e below _ T (mkF m 564 #[.val (.int len), .val (.int mode), .val (.long a), .second, .val (.long b), .second, .val (.int (Int32.ofNat (n))), .val (.int s7), .val (.int br), .val (.ref b122), .val (.ref b163), .val (.int (0 : Int32)), .val (.ref b166), .val (.ref x192), .val (.int (1 : Int32)), .val (.int (Int32.ofNat (lo))), .unset, .unset] [])
          refine og (fun _ k => XS.iload X.here hx rfl (hb hby at_564) rfl k) ?_
          show OGo p e below _ T (mkF m 566 #[.val (.int len), .val (.int mode), .val (.long a), .second, .val (.long b), .second, .val (.int (Int32.ofNat (n))), .val (.int s7), .val (.int br), .val (.ref b122), .val (.ref b163), .val (.int (0 : Int32)), .val (.ref b166), .val (.ref x192), .val (.int (1 : Int32)), .val (.int (Int32.ofNat (lo))), .unset, .unset] [(.int (Int32.ofNat (n)))])
          refine og (fun _ k => XS.bipush X.here hx rfl (hb hby at_566) k) ?_
          show OGo p e below _ T (mkF m 568 #[.val (.int len), .val (.int mode), .val (.long a), .second, .val (.long b), .second, .val (.int (Int32.ofNat (n))), .val (.int s7), .val (.int br), .val (.ref b122), .val (.ref b163), .val (.int (0 : Int32)), .val (.ref b166), .val (.ref x192), .val (.int (1 : Int32)), .val (.int (Int32.ofNat (lo))), .unset, .unset] [(.int (8 : Int32)), (.int (Int32.ofNat (n)))])
          by_cases c : 8 < n
          case neg =>
            refine og (fun _ k => XS.icmpYes X.here hx rfl (pc0 := 568) (pc' := 586) rfl (hb hby at_568) rfl (flt (fun h => c ((own_lt (a := 8) (by decide) (by omega)).mp h))).2.2.2 (by decide) (by decide) k) ?_
            show OGo p e below _ T (mkF m 586 #[.val (.int len), .val (.int mode), .val (.long a), .second, .val (.long b), .second, .val (.int (Int32.ofNat (n))), .val (.int s7), .val (.int br), .val (.ref b122), .val (.ref b163), .val (.int (0 : Int32)), .val (.ref b166), .val (.ref x192), .val (.int (1 : Int32)), .val (.int (Int32.ofNat (lo))), .unset, .unset] [])
            exact K586 lo (by rw [own_lo2, if_neg (fun h => c h.1)]; exact hlo) _ _ X N eT
          refine og (fun _ k => XS.icmpNo X.here hx rfl (hb hby at_568) rfl (tlt (show Int32.ofNat 8 < Int32.ofNat n from (own_lt (by decide) (by omega)).mpr c)).2.2.2 k) ?_
          show OGo p e below _ T (mkF m 571 #[.val (.int len), .val (.int mode), .val (.long a), .second, .val (.long b), .second, .val (.int (Int32.ofNat (n))), .val (.int s7), .val (.int br), .val (.ref b122), .val (.ref b163), .val (.int (0 : Int32)), .val (.ref b166), .val (.ref x192), .val (.int (1 : Int32)), .val (.int (Int32.ofNat (lo))), .unset, .unset] [])
          refine og (fun _ k => XS.aload X.here hx rfl (hb hby at_571) rfl rfl k) ?_
          show OGo p e below _ T (mkF m 573 #[.val (.int len), .val (.int mode), .val (.long a), .second, .val (.long b), .second, .val (.int (Int32.ofNat (n))), .val (.int s7), .val (.int br), .val (.ref b122), .val (.ref b163), .val (.int (0 : Int32)), .val (.ref b166), .val (.ref x192), .val (.int (1 : Int32)), .val (.int (Int32.ofNat (lo))), .unset, .unset] [(.ref b122)])
          refine og (fun _ k => XS.bipush X.here hx rfl (hb hby at_573) k) ?_
          show OGo p e below _ T (mkF m 575 #[.val (.int len), .val (.int mode), .val (.long a), .second, .val (.long b), .second, .val (.int (Int32.ofNat (n))), .val (.int s7), .val (.int br), .val (.ref b122), .val (.ref b163), .val (.int (0 : Int32)), .val (.ref b166), .val (.ref x192), .val (.int (1 : Int32)), .val (.int (Int32.ofNat (lo))), .unset, .unset] [(.int (8 : Int32)), (.ref b122)])
          refine og (fun _ k => caloadV X hx hZ207 eT q208 ⟨by decide, by decide⟩ rfl (g := (mkF m 575 #[.val (.int len), .val (.int mode), .val (.long a), .second, .val (.long b), .second, .val (.int (Int32.ofNat (n))), .val (.int s7), .val (.int br), .val (.ref b122), .val (.ref b163), .val (.int (0 : Int32)), .val (.ref b166), .val (.ref x192), .val (.int (1 : Int32)), .val (.int (Int32.ofNat (lo))), .unset, .unset] [(.int (8 : Int32)), (.ref b122)])) rfl rfl (hb hby at_575) _ k) ?_
          show OGo p e below _ T (mkF m 576 #[.val (.int len), .val (.int mode), .val (.long a), .second, .val (.long b), .second, .val (.int (Int32.ofNat (n))), .val (.int s7), .val (.int br), .val (.ref b122), .val (.ref b163), .val (.int (0 : Int32)), .val (.ref b166), .val (.ref x192), .val (.int (1 : Int32)), .val (.int (Int32.ofNat (lo))), .unset, .unset] [(.int u8)])
          obtain ⟨v221, T221, L221, X221, hQ221, st221⟩ := scall X hx hZ207 hown207 (own_g hw 172 rfl) (own_g hw 173 rfl) (own_g hw 4 rfl) (own_g hw 174 rfl) (by decide) (W := 0) (rm_ws l Z a0 hw [] u8 T207.heap ) eT (by decide) (by decide) (by decide) (by decide) (g := (mkF m 576 #[.val (.int len), .val (.int mode), .val (.long a), .second, .val (.long b), .second, .val (.int (Int32.ofNat (n))), .val (.int s7), .val (.int br), .val (.ref b122), .val (.ref b163), .val (.int (0 : Int32)), .val (.ref b166), .val (.ref x192), .val (.int (1 : Int32)), .val (.int (Int32.ofNat (lo))), .unset, .unset] [(.int u8)])) rfl (by rw [hml]; rfl) (argsL := [(.int u8)]) (rest := []) opd_33 rfl rfl rfl (by show 2 * 0 + _ ≤ _; exact Nat.le_of_eq rfl) (hb hby at_576)
          obtain ⟨rfl, rfl, e221⟩ := hQ221
          rw [List.append_nil] at X221
          refine og st221 ?_
          show OGo p e below _ T221 (mkF m 579 #[.val (.int len), .val (.int mode), .val (.long a), .second, .val (.long b), .second, .val (.int (Int32.ofNat (n))), .val (.int s7), .val (.int br), .val (.ref b122), .val (.ref b163), .val (.int (0 : Int32)), .val (.ref b166), .val (.ref x192), .val (.int (1 : Int32)), .val (.int (Int32.ofNat (lo))), .unset, .unset] [(.int (if own_wsb u8 then 1 else 0))])
          by_cases wq : own_wsb u8 = true
          case pos =>
            rw [if_pos wq]
            show OGo p e below _ T221 (mkF m 579 #[.val (.int len), .val (.int mode), .val (.long a), .second, .val (.long b), .second, .val (.int (Int32.ofNat (n))), .val (.int s7), .val (.int br), .val (.ref b122), .val (.ref b163), .val (.int (0 : Int32)), .val (.ref b166), .val (.ref x192), .val (.int (1 : Int32)), .val (.int (Int32.ofNat (lo))), .unset, .unset] [(.int (1 : Int32))])
            refine og (fun _ k => XS.ifYes X221.here hx rfl (pc0 := 579) (pc' := 586) rfl (hb hby at_579) rfl ((if0 _ _).trans (feq (by decide : ¬ (1 : Int32) = 0)).2) (by decide) (by decide) k) ?_
            show OGo p e below _ T221 (mkF m 586 #[.val (.int len), .val (.int mode), .val (.long a), .second, .val (.long b), .second, .val (.int (Int32.ofNat (n))), .val (.int s7), .val (.int br), .val (.ref b122), .val (.ref b163), .val (.int (0 : Int32)), .val (.ref b166), .val (.ref x192), .val (.int (1 : Int32)), .val (.int (Int32.ofNat (lo))), .unset, .unset] [])
            exact K586 lo (by rw [own_lo2, if_neg (fun h => by rw [wq] at h; exact absurd h.2 (by decide))]; exact hlo) _ _ X221 N e221
          rw [if_neg wq]
          show OGo p e below _ T221 (mkF m 579 #[.val (.int len), .val (.int mode), .val (.long a), .second, .val (.long b), .second, .val (.int (Int32.ofNat (n))), .val (.int s7), .val (.int br), .val (.ref b122), .val (.ref b163), .val (.int (0 : Int32)), .val (.ref b166), .val (.ref x192), .val (.int (1 : Int32)), .val (.int (Int32.ofNat (lo))), .unset, .unset] [(.int (0 : Int32))])
          refine og (fun _ k => XS.ifNo X221.here hx rfl (hb hby at_579) rfl ((if0 _ _).trans (teq (rfl : (0 : Int32) = 0)).2) k) ?_
          show OGo p e below _ T221 (mkF m 582 #[.val (.int len), .val (.int mode), .val (.long a), .second, .val (.long b), .second, .val (.int (Int32.ofNat (n))), .val (.int s7), .val (.int br), .val (.ref b122), .val (.ref b163), .val (.int (0 : Int32)), .val (.ref b166), .val (.ref x192), .val (.int (1 : Int32)), .val (.int (Int32.ofNat (lo))), .unset, .unset] [])
          refine og (fun _ k => XS.bipush X221.here hx rfl (hb hby at_582) k) ?_
          show OGo p e below _ T221 (mkF m 584 #[.val (.int len), .val (.int mode), .val (.long a), .second, .val (.long b), .second, .val (.int (Int32.ofNat (n))), .val (.int s7), .val (.int br), .val (.ref b122), .val (.ref b163), .val (.int (0 : Int32)), .val (.ref b166), .val (.ref x192), .val (.int (1 : Int32)), .val (.int (Int32.ofNat (lo))), .unset, .unset] [(.int (8 : Int32))])
          refine og (fun _ k => XS.istore X221.here hx rfl (hb hby at_584) rfl (l' := #[.val (.int len), .val (.int mode), .val (.long a), .second, .val (.long b), .second, .val (.int (Int32.ofNat (n))), .val (.int s7), .val (.int br), .val (.ref b122), .val (.ref b163), .val (.int (0 : Int32)), .val (.ref b166), .val (.ref x192), .val (.int (1 : Int32)), .val (.int (8 : Int32)), .unset, .unset]) rfl k) ?_
          show OGo p e below _ T221 (mkF m 586 #[.val (.int len), .val (.int mode), .val (.long a), .second, .val (.long b), .second, .val (.int (Int32.ofNat (n))), .val (.int s7), .val (.int br), .val (.ref b122), .val (.ref b163), .val (.int (0 : Int32)), .val (.ref b166), .val (.ref x192), .val (.int (1 : Int32)), .val (.int (8 : Int32)), .unset, .unset] [])
          exact K586 8 (by rw [own_lo2, if_pos ⟨c, by simpa using wq⟩]) _ _ X221 N e221
        refine og (fun _ k => XS.iload X207.here hx rfl (hb hby at_538) rfl k) ?_
        show OGo p e below _ T207 (mkF m 540 #[.val (.int len), .val (.int mode), .val (.long a), .second, .val (.long b), .second, .val (.int (Int32.ofNat (n))), .val (.int s7), .val (.int br), .val (.ref b122), .val (.ref b163), .val (.int (0 : Int32)), .val (.ref b166), .val (.ref x192), .val (.int (1 : Int32)), .unset, .unset, .unset] [(.int (Int32.ofNat (n)))])
        refine og (fun _ k => XS.istore X207.here hx rfl (hb hby at_540) rfl (l' := #[.val (.int len), .val (.int mode), .val (.long a), .second, .val (.long b), .second, .val (.int (Int32.ofNat (n))), .val (.int s7), .val (.int br), .val (.ref b122), .val (.ref b163), .val (.int (0 : Int32)), .val (.ref b166), .val (.ref x192), .val (.int (1 : Int32)), .val (.int (Int32.ofNat (n))), .unset, .unset]) rfl k) ?_
        show OGo p e below _ T207 (mkF m 542 #[.val (.int len), .val (.int mode), .val (.long a), .second, .val (.long b), .second, .val (.int (Int32.ofNat (n))), .val (.int s7), .val (.int br), .val (.ref b122), .val (.ref b163), .val (.int (0 : Int32)), .val (.ref b166), .val (.ref x192), .val (.int (1 : Int32)), .val (.int (Int32.ofNat (n))), .unset, .unset] [])
        refine og (fun _ k => XS.iload X207.here hx rfl (hb hby at_542) rfl k) ?_
        show OGo p e below _ T207 (mkF m 544 #[.val (.int len), .val (.int mode), .val (.long a), .second, .val (.long b), .second, .val (.int (Int32.ofNat (n))), .val (.int s7), .val (.int br), .val (.ref b122), .val (.ref b163), .val (.int (0 : Int32)), .val (.ref b166), .val (.ref x192), .val (.int (1 : Int32)), .val (.int (Int32.ofNat (n))), .unset, .unset] [(.int (Int32.ofNat (n)))])
        refine og (fun _ k => XS.bipush X207.here hx rfl (hb hby at_544) k) ?_
        show OGo p e below _ T207 (mkF m 546 #[.val (.int len), .val (.int mode), .val (.long a), .second, .val (.long b), .second, .val (.int (Int32.ofNat (n))), .val (.int s7), .val (.int br), .val (.ref b122), .val (.ref b163), .val (.int (0 : Int32)), .val (.ref b166), .val (.ref x192), .val (.int (1 : Int32)), .val (.int (Int32.ofNat (n))), .unset, .unset] [(.int (9 : Int32)), (.int (Int32.ofNat (n)))])
        by_cases c : 9 < n
        case neg =>
          refine og (fun _ k => XS.icmpYes X207.here hx rfl (pc0 := 546) (pc' := 564) rfl (hb hby at_546) rfl (flt (fun h => c ((own_lt (a := 9) (by decide) (by omega)).mp h))).2.2.2 (by decide) (by decide) k) ?_
          show OGo p e below _ T207 (mkF m 564 #[.val (.int len), .val (.int mode), .val (.long a), .second, .val (.long b), .second, .val (.int (Int32.ofNat (n))), .val (.int s7), .val (.int br), .val (.ref b122), .val (.ref b163), .val (.int (0 : Int32)), .val (.ref b166), .val (.ref x192), .val (.int (1 : Int32)), .val (.int (Int32.ofNat (n))), .unset, .unset] [])
          exact K564 n (by rw [own_lo1, if_neg (fun h => c h.1)]) _ _ X207 NN207 rfl
        refine og (fun _ k => XS.icmpNo X207.here hx rfl (hb hby at_546) rfl (tlt (show Int32.ofNat 9 < Int32.ofNat n from (own_lt (by decide) (by omega)).mpr c)).2.2.2 k) ?_
        show OGo p e below _ T207 (mkF m 549 #[.val (.int len), .val (.int mode), .val (.long a), .second, .val (.long b), .second, .val (.int (Int32.ofNat (n))), .val (.int s7), .val (.int br), .val (.ref b122), .val (.ref b163), .val (.int (0 : Int32)), .val (.ref b166), .val (.ref x192), .val (.int (1 : Int32)), .val (.int (Int32.ofNat (n))), .unset, .unset] [])
        refine og (fun _ k => XS.aload X207.here hx rfl (hb hby at_549) rfl rfl k) ?_
        show OGo p e below _ T207 (mkF m 551 #[.val (.int len), .val (.int mode), .val (.long a), .second, .val (.long b), .second, .val (.int (Int32.ofNat (n))), .val (.int s7), .val (.int br), .val (.ref b122), .val (.ref b163), .val (.int (0 : Int32)), .val (.ref b166), .val (.ref x192), .val (.int (1 : Int32)), .val (.int (Int32.ofNat (n))), .unset, .unset] [(.ref b122)])
        refine og (fun _ k => XS.bipush X207.here hx rfl (hb hby at_551) k) ?_
        show OGo p e below _ T207 (mkF m 553 #[.val (.int len), .val (.int mode), .val (.long a), .second, .val (.long b), .second, .val (.int (Int32.ofNat (n))), .val (.int s7), .val (.int br), .val (.ref b122), .val (.ref b163), .val (.int (0 : Int32)), .val (.ref b166), .val (.ref x192), .val (.int (1 : Int32)), .val (.int (Int32.ofNat (n))), .unset, .unset] [(.int (9 : Int32)), (.ref b122)])
        refine og (fun _ k => caloadV X207 hx hZ207 rfl q208 ⟨by decide, by decide⟩ rfl (g := (mkF m 553 #[.val (.int len), .val (.int mode), .val (.long a), .second, .val (.long b), .second, .val (.int (Int32.ofNat (n))), .val (.int s7), .val (.int br), .val (.ref b122), .val (.ref b163), .val (.int (0 : Int32)), .val (.ref b166), .val (.ref x192), .val (.int (1 : Int32)), .val (.int (Int32.ofNat (n))), .unset, .unset] [(.int (9 : Int32)), (.ref b122)])) rfl rfl (hb hby at_553) _ k) ?_
        show OGo p e below _ T207 (mkF m 554 #[.val (.int len), .val (.int mode), .val (.long a), .second, .val (.long b), .second, .val (.int (Int32.ofNat (n))), .val (.int s7), .val (.int br), .val (.ref b122), .val (.ref b163), .val (.int (0 : Int32)), .val (.ref b166), .val (.ref x192), .val (.int (1 : Int32)), .val (.int (Int32.ofNat (n))), .unset, .unset] [(.int u9)])
        obtain ⟨v222, T222, L222, X222, hQ222, st222⟩ := scall X207 hx hZ207 hown207 (own_g hw 172 rfl) (own_g hw 173 rfl) (own_g hw 4 rfl) (own_g hw 174 rfl) (by decide) (W := 0) (rm_ws l Z a0 hw [] u9 T207.heap ) rfl (by decide) (by decide) (by decide) (by decide) (g := (mkF m 554 #[.val (.int len), .val (.int mode), .val (.long a), .second, .val (.long b), .second, .val (.int (Int32.ofNat (n))), .val (.int s7), .val (.int br), .val (.ref b122), .val (.ref b163), .val (.int (0 : Int32)), .val (.ref b166), .val (.ref x192), .val (.int (1 : Int32)), .val (.int (Int32.ofNat (n))), .unset, .unset] [(.int u9)])) rfl (by rw [hml]; rfl) (argsL := [(.int u9)]) (rest := []) opd_33 rfl rfl rfl (by show 2 * 0 + _ ≤ _; exact Nat.le_of_eq rfl) (hb hby at_554)
        obtain ⟨rfl, rfl, e222⟩ := hQ222
        rw [List.append_nil] at X222
        refine og st222 ?_
        show OGo p e below _ T222 (mkF m 557 #[.val (.int len), .val (.int mode), .val (.long a), .second, .val (.long b), .second, .val (.int (Int32.ofNat (n))), .val (.int s7), .val (.int br), .val (.ref b122), .val (.ref b163), .val (.int (0 : Int32)), .val (.ref b166), .val (.ref x192), .val (.int (1 : Int32)), .val (.int (Int32.ofNat (n))), .unset, .unset] [(.int (if own_wsb u9 then 1 else 0))])
        by_cases wq : own_wsb u9 = true
        case pos =>
          rw [if_pos wq]
          show OGo p e below _ T222 (mkF m 557 #[.val (.int len), .val (.int mode), .val (.long a), .second, .val (.long b), .second, .val (.int (Int32.ofNat (n))), .val (.int s7), .val (.int br), .val (.ref b122), .val (.ref b163), .val (.int (0 : Int32)), .val (.ref b166), .val (.ref x192), .val (.int (1 : Int32)), .val (.int (Int32.ofNat (n))), .unset, .unset] [(.int (1 : Int32))])
          refine og (fun _ k => XS.ifYes X222.here hx rfl (pc0 := 557) (pc' := 564) rfl (hb hby at_557) rfl ((if0 _ _).trans (feq (by decide : ¬ (1 : Int32) = 0)).2) (by decide) (by decide) k) ?_
          show OGo p e below _ T222 (mkF m 564 #[.val (.int len), .val (.int mode), .val (.long a), .second, .val (.long b), .second, .val (.int (Int32.ofNat (n))), .val (.int s7), .val (.int br), .val (.ref b122), .val (.ref b163), .val (.int (0 : Int32)), .val (.ref b166), .val (.ref x192), .val (.int (1 : Int32)), .val (.int (Int32.ofNat (n))), .unset, .unset] [])
          exact K564 n (by rw [own_lo1, if_neg (fun h => by rw [wq] at h; exact absurd h.2 (by decide))]) _ _ X222 NN207 e222
        rw [if_neg wq]
        show OGo p e below _ T222 (mkF m 557 #[.val (.int len), .val (.int mode), .val (.long a), .second, .val (.long b), .second, .val (.int (Int32.ofNat (n))), .val (.int s7), .val (.int br), .val (.ref b122), .val (.ref b163), .val (.int (0 : Int32)), .val (.ref b166), .val (.ref x192), .val (.int (1 : Int32)), .val (.int (Int32.ofNat (n))), .unset, .unset] [(.int (0 : Int32))])
        refine og (fun _ k => XS.ifNo X222.here hx rfl (hb hby at_557) rfl ((if0 _ _).trans (teq (rfl : (0 : Int32) = 0)).2) k) ?_
        show OGo p e below _ T222 (mkF m 560 #[.val (.int len), .val (.int mode), .val (.long a), .second, .val (.long b), .second, .val (.int (Int32.ofNat (n))), .val (.int s7), .val (.int br), .val (.ref b122), .val (.ref b163), .val (.int (0 : Int32)), .val (.ref b166), .val (.ref x192), .val (.int (1 : Int32)), .val (.int (Int32.ofNat (n))), .unset, .unset] [])
        refine og (fun _ k => XS.bipush X222.here hx rfl (hb hby at_560) k) ?_
        show OGo p e below _ T222 (mkF m 562 #[.val (.int len), .val (.int mode), .val (.long a), .second, .val (.long b), .second, .val (.int (Int32.ofNat (n))), .val (.int s7), .val (.int br), .val (.ref b122), .val (.ref b163), .val (.int (0 : Int32)), .val (.ref b166), .val (.ref x192), .val (.int (1 : Int32)), .val (.int (Int32.ofNat (n))), .unset, .unset] [(.int (9 : Int32))])
        refine og (fun _ k => XS.istore X222.here hx rfl (hb hby at_562) rfl (l' := #[.val (.int len), .val (.int mode), .val (.long a), .second, .val (.long b), .second, .val (.int (Int32.ofNat (n))), .val (.int s7), .val (.int br), .val (.ref b122), .val (.ref b163), .val (.int (0 : Int32)), .val (.ref b166), .val (.ref x192), .val (.int (1 : Int32)), .val (.int (9 : Int32)), .unset, .unset]) rfl k) ?_
        show OGo p e below _ T222 (mkF m 564 #[.val (.int len), .val (.int mode), .val (.long a), .second, .val (.long b), .second, .val (.int (Int32.ofNat (n))), .val (.int s7), .val (.int br), .val (.ref b122), .val (.ref b163), .val (.int (0 : Int32)), .val (.ref b166), .val (.ref x192), .val (.int (1 : Int32)), .val (.int (9 : Int32)), .unset, .unset] [])
        exact K564 9 (by rw [own_lo1, if_pos ⟨c, by simpa using wq⟩]) _ _ X222 NN207 e222
      have J9 : ∀ (T : State) (h : Heap) (locs : List Loc), Stand p l e room_1 (s.setVm T143.vm) m #[(.int len), (.int mode), (.long a), (.long b)] below meth c T locs 17 212 → T.heap = h → Fr n0 locs → Keep h0 h [] → Old Z n0 h → CHv Z own_EL T143.vm h → CHr Z own_EL s.vm h0 T143.vm h → kk143 ≤ h.size → Arv Z h b122 k122 .char (10 : Int32) (([u0, u1, u2, u3, u4, u5, u6, u7, u8, u9] : List Int32).map Value.int) (.int (0 : Int32)) → Arv Z h b163 k163 .char (Int32.ofNat n) ((ds.take 9).map Value.int) (.int (0 : Int32)) → OGo p e below (EndH Z own_EL s room_1 (own_Q n0)) T (mkF m 348 #[.val (.int len), .val (.int mode), .val (.long a), .second, .val (.long b), .second, .val (.int (Int32.ofNat (n))), .val (.int s7), .val (.int br), .val (.ref b122), .val (.ref b163), .unset, .unset, .unset, .unset, .unset, .unset, .unset] []) := by
        intro T h locs X eT N K O1 H1 R1 hk1 Va Vb
        show OGo p e below _ T (mkF m 348 #[.val (.int len), .val (.int mode), .val (.long a), .second, .val (.long b), .second, .val (.int (Int32.ofNat (n))), .val (.int s7), .val (.int br), .val (.ref b122), .val (.ref b163), .unset, .unset, .unset, .unset, .unset, .unset, .unset] [])
        refine og (fun _ k => XS.iload X.here hx rfl (hb hby at_348) rfl k) ?_
        show OGo p e below _ T (mkF m 350 #[.val (.int len), .val (.int mode), .val (.long a), .second, .val (.long b), .second, .val (.int (Int32.ofNat (n))), .val (.int s7), .val (.int br), .val (.ref b122), .val (.ref b163), .unset, .unset, .unset, .unset, .unset, .unset, .unset] [(.int (Int32.ofNat (n)))])
        refine og (fun _ k => XS.bipush X.here hx rfl (hb hby at_350) k) ?_
        show OGo p e below _ T (mkF m 352 #[.val (.int len), .val (.int mode), .val (.long a), .second, .val (.long b), .second, .val (.int (Int32.ofNat (n))), .val (.int s7), .val (.int br), .val (.ref b122), .val (.ref b163), .unset, .unset, .unset, .unset, .unset, .unset, .unset] [(.int (9 : Int32)), (.int (Int32.ofNat (n)))])
        by_cases c : 9 < n
        case neg =>
          refine og (fun _ k => XS.icmpYes X.here hx rfl (pc0 := 352) (pc' := 365) rfl (hb hby at_352) rfl (flt (fun q => c ((own_lt (a := 9) (by decide) (by omega)).mp q))).2.2.2 (by decide) (by decide) k) ?_
          show OGo p e below _ T (mkF m 365 #[.val (.int len), .val (.int mode), .val (.long a), .second, .val (.long b), .second, .val (.int (Int32.ofNat (n))), .val (.int s7), .val (.int br), .val (.ref b122), .val (.ref b163), .unset, .unset, .unset, .unset, .unset, .unset, .unset] [])
          exact J10 T h locs X eT N K O1 H1 R1 hk1 Va (by rw [← own_tk1 (show ds.length ≤ 9 by omega)]; exact Vb)
        refine og (fun _ k => XS.icmpNo X.here hx rfl (hb hby at_352) rfl (tlt (show Int32.ofNat 9 < Int32.ofNat n from (own_lt (by decide) (by omega)).mpr c)).2.2.2 k) ?_
        show OGo p e below _ T (mkF m 355 #[.val (.int len), .val (.int mode), .val (.long a), .second, .val (.long b), .second, .val (.int (Int32.ofNat (n))), .val (.int s7), .val (.int br), .val (.ref b122), .val (.ref b163), .unset, .unset, .unset, .unset, .unset, .unset, .unset] [])
        refine og (fun _ k => XS.aload X.here hx rfl (hb hby at_355) rfl rfl k) ?_
        show OGo p e below _ T (mkF m 357 #[.val (.int len), .val (.int mode), .val (.long a), .second, .val (.long b), .second, .val (.int (Int32.ofNat (n))), .val (.int s7), .val (.int br), .val (.ref b122), .val (.ref b163), .unset, .unset, .unset, .unset, .unset, .unset, .unset] [(.ref b163)])
        refine og (fun _ k => XS.bipush X.here hx rfl (hb hby at_357) k) ?_
        show OGo p e below _ T (mkF m 359 #[.val (.int len), .val (.int mode), .val (.long a), .second, .val (.long b), .second, .val (.int (Int32.ofNat (n))), .val (.int s7), .val (.int br), .val (.ref b122), .val (.ref b163), .unset, .unset, .unset, .unset, .unset, .unset, .unset] [(.int (9 : Int32)), (.ref b163)])
        refine og (fun _ k => XS.aload X.here hx rfl (hb hby at_359) rfl rfl k) ?_
        show OGo p e below _ T (mkF m 361 #[.val (.int len), .val (.int mode), .val (.long a), .second, .val (.long b), .second, .val (.int (Int32.ofNat (n))), .val (.int s7), .val (.int br), .val (.ref b122), .val (.ref b163), .unset, .unset, .unset, .unset, .unset, .unset, .unset] [(.ref b122), (.int (9 : Int32)), (.ref b163)])
        refine og (fun _ k => XS.bipush X.here hx rfl (hb hby at_361) k) ?_
        show OGo p e below _ T (mkF m 363 #[.val (.int len), .val (.int mode), .val (.long a), .second, .val (.long b), .second, .val (.int (Int32.ofNat (n))), .val (.int s7), .val (.int br), .val (.ref b122), .val (.ref b163), .unset, .unset, .unset, .unset, .unset, .unset, .unset] [(.int (9 : Int32)), (.ref b122), (.int (9 : Int32)), (.ref b163)])
        refine og (fun _ k => caloadV X hx hZ143 eT Va ⟨by decide, by decide⟩ rfl (g := (mkF m 363 #[.val (.int len), .val (.int mode), .val (.long a), .second, .val (.long b), .second, .val (.int (Int32.ofNat (n))), .val (.int s7), .val (.int br), .val (.ref b122), .val (.ref b163), .unset, .unset, .unset, .unset, .unset, .unset, .unset] [(.int (9 : Int32)), (.ref b122), (.int (9 : Int32)), (.ref b163)])) rfl rfl (hb hby at_363) _ k) ?_
        show OGo p e below _ T (mkF m 364 #[.val (.int len), .val (.int mode), .val (.long a), .second, .val (.long b), .second, .val (.int (Int32.ofNat (n))), .val (.int s7), .val (.int br), .val (.ref b122), .val (.ref b163), .unset, .unset, .unset, .unset, .unset, .unset, .unset] [(.int u9), (.int (9 : Int32)), (.ref b163)])
        have hgt : ds[9]? = some u9 := by rw [hds, List.getElem?_take]; simp [c]
        have Vp : Arv Z h b163 k163 .char (Int32.ofNat n) ((ds.take 9).map Value.int ++ List.replicate 1 (.int (0 : Int32))) (.int (0 : Int32)) := Vb.pad (pad_rep _ _ 1)
        have hlp : (9 : Int32).toNatClampNeg < ((ds.take 9).map Value.int ++ List.replicate 1 (Value.int (0 : Int32))).length := by show 9 < _; simp <;> omega
        obtain ⟨T223, h223, X223, e223, W223, Vq223, st223⟩ := castoreV X hx hZ143 eT Vp (j := (9 : Int32)) ⟨by decide, (show Int32.ofNat 9 < Int32.ofNat n from (own_lt (by decide) (by omega)).mpr c)⟩ hlp (g := (mkF m 364 #[.val (.int len), .val (.int mode), .val (.long a), .second, .val (.long b), .second, .val (.int (Int32.ofNat (n))), .val (.int s7), .val (.int br), .val (.ref b122), .val (.ref b163), .unset, .unset, .unset, .unset, .unset, .unset, .unset] [(.int u9), (.int (9 : Int32)), (.ref b163)])) rfl rfl (hb hby at_364)
        have N223 := Fr.snoc X223 N (Nat.le_trans Z0 sz_b163)
        have KK223 : Keep h0 h223 [] := K.wr W223 (Or.inr sz_b163)
        have H223 := CHv.wr W223 (own_safeA hZ143.alike Vb) H1
        have R223 := CHr.trans R1 (CHr.wr W223 (own_safeA hZ143.alike Vb) H1)
        refine og st223 ?_
        show OGo p e below _ T223 (mkF m 365 #[.val (.int len), .val (.int mode), .val (.long a), .second, .val (.long b), .second, .val (.int (Int32.ofNat (n))), .val (.int s7), .val (.int br), .val (.ref b122), .val (.ref b163), .unset, .unset, .unset, .unset, .unset, .unset, .unset] [])
        rw [show (9 : Int32).toNatClampNeg = 9 from rfl, own_setc hgt (own_narc hu9)] at Vq223
        exact J10 _ _ _ X223 e223 N223 KK223 (O1.wr W223 (Nat.le_trans Z0 sz_b163)) H223 R223 (Nat.le_trans hk1 (Nat.le_of_eq W223.size.symm)) (Va.other W223 nab) Vq223
      have J8 : ∀ (T : State) (h : Heap) (locs : List Loc), Stand p l e room_1 (s.setVm T143.vm) m #[(.int len), (.int mode), (.long a), (.long b)] below meth c T locs 17 212 → T.heap = h → Fr n0 locs → Keep h0 h [] → Old Z n0 h → CHv Z own_EL T143.vm h → CHr Z own_EL s.vm h0 T143.vm h → kk143 ≤ h.size → Arv Z h b122 k122 .char (10 : Int32) (([u0, u1, u2, u3, u4, u5, u6, u7, u8, u9] : List Int32).map Value.int) (.int (0 : Int32)) → Arv Z h b163 k163 .char (Int32.ofNat n) ((ds.take 8).map Value.int) (.int (0 : Int32)) → OGo p e below (EndH Z own_EL s room_1 (own_Q n0)) T (mkF m 331 #[.val (.int len), .val (.int mode), .val (.long a), .second, .val (.long b), .second, .val (.int (Int32.ofNat (n))), .val (.int s7), .val (.int br), .val (.ref b122), .val (.ref b163), .unset, .unset, .unset, .unset, .unset, .unset, .unset] []) := by
        intro T h locs X eT N K O1 H1 R1 hk1 Va Vb
        show OGo p e below _ T (mkF m 331 #[.val (.int len), .val (.int mode), .val (.long a), .second, .val (.long b), .second, .val (.int (Int32.ofNat (n))), .val (.int s7), .val (.int br), .val (.ref b122), .val (.ref b163), .unset, .unset, .unset, .unset, .unset, .unset, .unset] [])
        refine og (fun _ k => XS.iload X.here hx rfl (hb hby at_331) rfl k) ?_
        show OGo p e below _ T (mkF m 333 #[.val (.int len), .val (.int mode), .val (.long a), .second, .val (.long b), .second, .val (.int (Int32.ofNat (n))), .val (.int s7), .val (.int br), .val (.ref b122), .val (.ref b163), .unset, .unset, .unset, .unset, .unset, .unset, .unset] [(.int (Int32.ofNat (n)))])
        refine og (fun _ k => XS.bipush X.here hx rfl (hb hby at_333) k) ?_
        show OGo p e below _ T (mkF m 335 #[.val (.int len), .val (.int mode), .val (.long a), .second, .val (.long b), .second, .val (.int (Int32.ofNat (n))), .val (.int s7), .val (.int br), .val (.ref b122), .val (.ref b163), .unset, .unset, .unset, .unset, .unset, .unset, .unset] [(.int (8 : Int32)), (.int (Int32.ofNat (n)))])
        by_cases c : 8 < n
        case neg =>
          refine og (fun _ k => XS.icmpYes X.here hx rfl (pc0 := 335) (pc' := 348) rfl (hb hby at_335) rfl (flt (fun q => c ((own_lt (a := 8) (by decide) (by omega)).mp q))).2.2.2 (by decide) (by decide) k) ?_
          show OGo p e below _ T (mkF m 348 #[.val (.int len), .val (.int mode), .val (.long a), .second, .val (.long b), .second, .val (.int (Int32.ofNat (n))), .val (.int s7), .val (.int br), .val (.ref b122), .val (.ref b163), .unset, .unset, .unset, .unset, .unset, .unset, .unset] [])
          exact J9 T h locs X eT N K O1 H1 R1 hk1 Va (by rw [← own_tk1 (show ds.length ≤ 8 by omega)]; exact Vb)
        refine og (fun _ k => XS.icmpNo X.here hx rfl (hb hby at_335) rfl (tlt (show Int32.ofNat 8 < Int32.ofNat n from (own_lt (by decide) (by omega)).mpr c)).2.2.2 k) ?_
        show OGo p e below _ T (mkF m 338 #[.val (.int len), .val (.int mode), .val (.long a), .second, .val (.long b), .second, .val (.int (Int32.ofNat (n))), .val (.int s7), .val (.int br), .val (.ref b122), .val (.ref b163), .unset, .unset, .unset, .unset, .unset, .unset, .unset] [])
        refine og (fun _ k => XS.aload X.here hx rfl (hb hby at_338) rfl rfl k) ?_
        show OGo p e below _ T (mkF m 340 #[.val (.int len), .val (.int mode), .val (.long a), .second, .val (.long b), .second, .val (.int (Int32.ofNat (n))), .val (.int s7), .val (.int br), .val (.ref b122), .val (.ref b163), .unset, .unset, .unset, .unset, .unset, .unset, .unset] [(.ref b163)])
        refine og (fun _ k => XS.bipush X.here hx rfl (hb hby at_340) k) ?_
        show OGo p e below _ T (mkF m 342 #[.val (.int len), .val (.int mode), .val (.long a), .second, .val (.long b), .second, .val (.int (Int32.ofNat (n))), .val (.int s7), .val (.int br), .val (.ref b122), .val (.ref b163), .unset, .unset, .unset, .unset, .unset, .unset, .unset] [(.int (8 : Int32)), (.ref b163)])
        refine og (fun _ k => XS.aload X.here hx rfl (hb hby at_342) rfl rfl k) ?_
        show OGo p e below _ T (mkF m 344 #[.val (.int len), .val (.int mode), .val (.long a), .second, .val (.long b), .second, .val (.int (Int32.ofNat (n))), .val (.int s7), .val (.int br), .val (.ref b122), .val (.ref b163), .unset, .unset, .unset, .unset, .unset, .unset, .unset] [(.ref b122), (.int (8 : Int32)), (.ref b163)])
        refine og (fun _ k => XS.bipush X.here hx rfl (hb hby at_344) k) ?_
        show OGo p e below _ T (mkF m 346 #[.val (.int len), .val (.int mode), .val (.long a), .second, .val (.long b), .second, .val (.int (Int32.ofNat (n))), .val (.int s7), .val (.int br), .val (.ref b122), .val (.ref b163), .unset, .unset, .unset, .unset, .unset, .unset, .unset] [(.int (8 : Int32)), (.ref b122), (.int (8 : Int32)), (.ref b163)])
        refine og (fun _ k => caloadV X hx hZ143 eT Va ⟨by decide, by decide⟩ rfl (g := (mkF m 346 #[.val (.int len), .val (.int mode), .val (.long a), .second, .val (.long b), .second, .val (.int (Int32.ofNat (n))), .val (.int s7), .val (.int br), .val (.ref b122), .val (.ref b163), .unset, .unset, .unset, .unset, .unset, .unset, .unset] [(.int (8 : Int32)), (.ref b122), (.int (8 : Int32)), (.ref b163)])) rfl rfl (hb hby at_346) _ k) ?_
        show OGo p e below _ T (mkF m 347 #[.val (.int len), .val (.int mode), .val (.long a), .second, .val (.long b), .second, .val (.int (Int32.ofNat (n))), .val (.int s7), .val (.int br), .val (.ref b122), .val (.ref b163), .unset, .unset, .unset, .unset, .unset, .unset, .unset] [(.int u8), (.int (8 : Int32)), (.ref b163)])
        have hgt : ds[8]? = some u8 := by rw [hds, List.getElem?_take]; simp [c]
        have Vp : Arv Z h b163 k163 .char (Int32.ofNat n) ((ds.take 8).map Value.int ++ List.replicate 1 (.int (0 : Int32))) (.int (0 : Int32)) := Vb.pad (pad_rep _ _ 1)
        have hlp : (8 : Int32).toNatClampNeg < ((ds.take 8).map Value.int ++ List.replicate 1 (Value.int (0 : Int32))).length := by show 8 < _; simp <;> omega
        obtain ⟨T224, h224, X224, e224, W224, Vq224, st224⟩ := castoreV X hx hZ143 eT Vp (j := (8 : Int32)) ⟨by decide, (show Int32.ofNat 8 < Int32.ofNat n from (own_lt (by decide) (by omega)).mpr c)⟩ hlp (g := (mkF m 347 #[.val (.int len), .val (.int mode), .val (.long a), .second, .val (.long b), .second, .val (.int (Int32.ofNat (n))), .val (.int s7), .val (.int br), .val (.ref b122), .val (.ref b163), .unset, .unset, .unset, .unset, .unset, .unset, .unset] [(.int u8), (.int (8 : Int32)), (.ref b163)])) rfl rfl (hb hby at_347)
        have N224 := Fr.snoc X224 N (Nat.le_trans Z0 sz_b163)
        have KK224 : Keep h0 h224 [] := K.wr W224 (Or.inr sz_b163)
        have H224 := CHv.wr W224 (own_safeA hZ143.alike Vb) H1
        have R224 := CHr.trans R1 (CHr.wr W224 (own_safeA hZ143.alike Vb) H1)
        refine og st224 ?_
        show OGo p e below _ T224 (mkF m 348 #[.val (.int len), .val (.int mode), .val (.long a), .second, .val (.long b), .second, .val (.int (Int32.ofNat (n))), .val (.int s7), .val (.int br), .val (.ref b122), .val (.ref b163), .unset, .unset, .unset, .unset, .unset, .unset, .unset] [])
        rw [show (8 : Int32).toNatClampNeg = 8 from rfl, own_setc hgt (own_narc hu8)] at Vq224
        exact J9 _ _ _ X224 e224 N224 KK224 (O1.wr W224 (Nat.le_trans Z0 sz_b163)) H224 R224 (Nat.le_trans hk1 (Nat.le_of_eq W224.size.symm)) (Va.other W224 nab) Vq224
      have J7 : ∀ (T : State) (h : Heap) (locs : List Loc), Stand p l e room_1 (s.setVm T143.vm) m #[(.int len), (.int mode), (.long a), (.long b)] below meth c T locs 17 212 → T.heap = h → Fr n0 locs → Keep h0 h [] → Old Z n0 h → CHv Z own_EL T143.vm h → CHr Z own_EL s.vm h0 T143.vm h → kk143 ≤ h.size → Arv Z h b122 k122 .char (10 : Int32) (([u0, u1, u2, u3, u4, u5, u6, u7, u8, u9] : List Int32).map Value.int) (.int (0 : Int32)) → Arv Z h b163 k163 .char (Int32.ofNat n) ((ds.take 7).map Value.int) (.int (0 : Int32)) → OGo p e below (EndH Z own_EL s room_1 (own_Q n0)) T (mkF m 314 #[.val (.int len), .val (.int mode), .val (.long a), .second, .val (.long b), .second, .val (.int (Int32.ofNat (n))), .val (.int s7), .val (.int br), .val (.ref b122), .val (.ref b163), .unset, .unset, .unset, .unset, .unset, .unset, .unset] []) := by
        intro T h locs X eT N K O1 H1 R1 hk1 Va Vb
        show OGo p e below _ T (mkF m 314 #[.val (.int len), .val (.int mode), .val (.long a), .second, .val (.long b), .second, .val (.int (Int32.ofNat (n))), .val (.int s7), .val (.int br), .val (.ref b122), .val (.ref b163), .unset, .unset, .unset, .unset, .unset, .unset, .unset] [])
        refine og (fun _ k => XS.iload X.here hx rfl (hb hby at_314) rfl k) ?_
        show OGo p e below _ T (mkF m 316 #[.val (.int len), .val (.int mode), .val (.long a), .second, .val (.long b), .second, .val (.int (Int32.ofNat (n))), .val (.int s7), .val (.int br), .val (.ref b122), .val (.ref b163), .unset, .unset, .unset, .unset, .unset, .unset, .unset] [(.int (Int32.ofNat (n)))])
        refine og (fun _ k => XS.bipush X.here hx rfl (hb hby at_316) k) ?_
        show OGo p e below _ T (mkF m 318 #[.val (.int len), .val (.int mode), .val (.long a), .second, .val (.long b), .second, .val (.int (Int32.ofNat (n))), .val (.int s7), .val (.int br), .val (.ref b122), .val (.ref b163), .unset, .unset, .unset, .unset, .unset, .unset, .unset] [(.int (7 : Int32)), (.int (Int32.ofNat (n)))])
        by_cases c : 7 < n
        case neg =>
          refine og (fun _ k => XS.icmpYes X.here hx rfl (pc0 := 318) (pc' := 331) rfl (hb hby at_318) rfl (flt (fun q => c ((own_lt (a := 7) (by decide) (by omega)).mp q))).2.2.2 (by decide) (by decide) k) ?_
          show OGo p e below _ T (mkF m 331 #[.val (.int len), .val (.int mode), .val (.long a), .second, .val (.long b), .second, .val (.int (Int32.ofNat (n))), .val (.int s7), .val (.int br), .val (.ref b122), .val (.ref b163), .unset, .unset, .unset, .unset, .unset, .unset, .unset] [])
          exact J8 T h locs X eT N K O1 H1 R1 hk1 Va (by rw [← own_tk1 (show ds.length ≤ 7 by omega)]; exact Vb)
        refine og (fun _ k => XS.icmpNo X.here hx rfl (hb hby at_318) rfl (tlt (show Int32.ofNat 7 < Int32.ofNat n from (own_lt (by decide) (by omega)).mpr c)).2.2.2 k) ?_
        show OGo p e below _ T (mkF m 321 #[.val (.int len), .val (.int mode), .val (.long a), .second, .val (.long b), .second, .val (.int (Int32.ofNat (n))), .val (.int s7), .val (.int br), .val (.ref b122), .val (.ref b163), .unset, .unset, .unset, .unset, .unset, .unset, .unset] [])
        refine og (fun _ k => XS.aload X.here hx rfl (hb hby at_321) rfl rfl k) ?_
        show OGo p e below _ T (mkF m 323 #[.val (.int len), .val (.int mode), .val (.long a), .second, .val (.long b), .second, .val (.int (Int32.ofNat (n))), .val (.int s7), .val (.int br), .val (.ref b122), .val (.ref b163), .unset, .unset, .unset, .unset, .unset, .unset, .unset] [(.ref b163)])
        refine og (fun _ k => XS.bipush X.here hx rfl (hb hby at_323) k) ?_
        show OGo p e below _ T (mkF m 325 #[.val (.int len), .val (.int mode), .val (.long a), .second, .val (.long b), .second, .val (.int (Int32.ofNat (n))), .val (.int s7), .val (.int br), .val (.ref b122), .val (.ref b163), .unset, .unset, .unset, .unset, .unset, .unset, .unset] [(.int (7 : Int32)), (.ref b163)])
        refine og (fun _ k => XS.aload X.here hx rfl (hb hby at_325) rfl rfl k) ?_
        show OGo p e below _ T (mkF m 327 #[.val (.int len), .val (.int mode), .val (.long a), .second, .val (.long b), .second, .val (.int (Int32.ofNat (n))), .val (.int s7), .val (.int br), .val (.ref b122), .val (.ref b163), .unset, .unset, .unset, .unset, .unset, .unset, .unset] [(.ref b122), (.int (7 : Int32)), (.ref b163)])
        refine og (fun _ k => XS.bipush X.here hx rfl (hb hby at_327) k) ?_
        show OGo p e below _ T (mkF m 329 #[.val (.int len), .val (.int mode), .val (.long a), .second, .val (.long b), .second, .val (.int (Int32.ofNat (n))), .val (.int s7), .val (.int br), .val (.ref b122), .val (.ref b163), .unset, .unset, .unset, .unset, .unset, .unset, .unset] [(.int (7 : Int32)), (.ref b122), (.int (7 : Int32)), (.ref b163)])
        refine og (fun _ k => caloadV X hx hZ143 eT Va ⟨by decide, by decide⟩ rfl (g := (mkF m 329 #[.val (.int len), .val (.int mode), .val (.long a), .second, .val (.long b), .second, .val (.int (Int32.ofNat (n))), .val (.int s7), .val (.int br), .val (.ref b122), .val (.ref b163), .unset, .unset, .unset, .unset, .unset, .unset, .unset] [(.int (7 : Int32)), (.ref b122), (.int (7 : Int32)), (.ref b163)])) rfl rfl (hb hby at_329) _ k) ?_
        show OGo p e below _ T (mkF m 330 #[.val (.int len), .val (.int mode), .val (.long a), .second, .val (.long b), .second, .val (.int (Int32.ofNat (n))), .val (.int s7), .val (.int br), .val (.ref b122), .val (.ref b163), .unset, .unset, .unset, .unset, .unset, .unset, .unset] [(.int u7), (.int (7 : Int32)), (.ref b163)])
        have hgt : ds[7]? = some u7 := by rw [hds, List.getElem?_take]; simp [c]
        have Vp : Arv Z h b163 k163 .char (Int32.ofNat n) ((ds.take 7).map Value.int ++ List.replicate 1 (.int (0 : Int32))) (.int (0 : Int32)) := Vb.pad (pad_rep _ _ 1)
        have hlp : (7 : Int32).toNatClampNeg < ((ds.take 7).map Value.int ++ List.replicate 1 (Value.int (0 : Int32))).length := by show 7 < _; simp <;> omega
        obtain ⟨T225, h225, X225, e225, W225, Vq225, st225⟩ := castoreV X hx hZ143 eT Vp (j := (7 : Int32)) ⟨by decide, (show Int32.ofNat 7 < Int32.ofNat n from (own_lt (by decide) (by omega)).mpr c)⟩ hlp (g := (mkF m 330 #[.val (.int len), .val (.int mode), .val (.long a), .second, .val (.long b), .second, .val (.int (Int32.ofNat (n))), .val (.int s7), .val (.int br), .val (.ref b122), .val (.ref b163), .unset, .unset, .unset, .unset, .unset, .unset, .unset] [(.int u7), (.int (7 : Int32)), (.ref b163)])) rfl rfl (hb hby at_330)
        have N225 := Fr.snoc X225 N (Nat.le_trans Z0 sz_b163)
        have KK225 : Keep h0 h225 [] := K.wr W225 (Or.inr sz_b163)
        have H225 := CHv.wr W225 (own_safeA hZ143.alike Vb) H1
        have R225 := CHr.trans R1 (CHr.wr W225 (own_safeA hZ143.alike Vb) H1)
        refine og st225 ?_
        show OGo p e below _ T225 (mkF m 331 #[.val (.int len), .val (.int mode), .val (.long a), .second, .val (.long b), .second, .val (.int (Int32.ofNat (n))), .val (.int s7), .val (.int br), .val (.ref b122), .val (.ref b163), .unset, .unset, .unset, .unset, .unset, .unset, .unset] [])
        rw [show (7 : Int32).toNatClampNeg = 7 from rfl, own_setc hgt (own_narc hu7)] at Vq225
        exact J8 _ _ _ X225 e225 N225 KK225 (O1.wr W225 (Nat.le_trans Z0 sz_b163)) H225 R225 (Nat.le_trans hk1 (Nat.le_of_eq W225.size.symm)) (Va.other W225 nab) Vq225
      have J6 : ∀ (T : State) (h : Heap) (locs : List Loc), Stand p l e room_1 (s.setVm T143.vm) m #[(.int len), (.int mode), (.long a), (.long b)] below meth c T locs 17 212 → T.heap = h → Fr n0 locs → Keep h0 h [] → Old Z n0 h → CHv Z own_EL T143.vm h → CHr Z own_EL s.vm h0 T143.vm h → kk143 ≤ h.size → Arv Z h b122 k122 .char (10 : Int32) (([u0, u1, u2, u3, u4, u5, u6, u7, u8, u9] : List Int32).map Value.int) (.int (0 : Int32)) → Arv Z h b163 k163 .char (Int32.ofNat n) ((ds.take 6).map Value.int) (.int (0 : Int32)) → OGo p e below (EndH Z own_EL s room_1 (own_Q n0)) T (mkF m 297 #[.val (.int len), .val (.int mode), .val (.long a), .second, .val (.long b), .second, .val (.int (Int32.ofNat (n))), .val (.int s7), .val (.int br), .val (.ref b122), .val (.ref b163), .unset, .unset, .unset, .unset, .unset, .unset, .unset] []) := by
        intro T h locs X eT N K O1 H1 R1 hk1 Va Vb
        show OGo p e below _ T (mkF m 297 #[.val (.int len), .val (.int mode), .val (.long a), .second, .val (.long b), .second, .val (.int (Int32.ofNat (n))), .val (.int s7), .val (.int br), .val (.ref b122), .val (.ref b163), .unset, .unset, .unset, .unset, .unset, .unset, .unset] [])
        refine og (fun _ k => XS.iload X.here hx rfl (hb hby at_297) rfl k) ?_
        show OGo p e below _ T (mkF m 299 #[.val (.int len), .val (.int mode), .val (.long a), .second, .val (.long b), .second, .val (.int (Int32.ofNat (n))), .val (.int s7), .val (.int br), .val (.ref b122), .val (.ref b163), .unset, .unset, .unset, .unset, .unset, .unset, .unset] [(.int (Int32.ofNat (n)))])
        refine og (fun _ k => XS.bipush X.here hx rfl (hb hby at_299) k) ?_
        show OGo p e below _ T (mkF m 301 #[.val (.int len), .val (.int mode), .val (.long a), .second, .val (.long b), .second, .val (.int (Int32.ofNat (n))), .val (.int s7), .val (.int br), .val (.ref b122), .val (.ref b163), .unset, .unset, .unset, .unset, .unset, .unset, .unset] [(.int (6 : Int32)), (.int (Int32.ofNat (n)))])
        by_cases c : 6 < n
        case neg =>
          refine og (fun _ k => XS.icmpYes X.here hx rfl (pc0 := 301) (pc' := 314) rfl (hb hby at_301) rfl (flt (fun q => c ((own_lt (a := 6) (by decide) (by omega)).mp q))).2.2.2 (by decide) (by decide) k) ?_
          show OGo p e below _ T (mkF m 314 #[.val (.int len), .val (.int mode), .val (.long a), .second, .val (.long b), .second, .val (.int (Int32.ofNat (n))), .val (.int s7), .val (.int br), .val (.ref b122), .val (.ref b163), .unset, .unset, .unset, .unset, .unset, .unset, .unset] [])
          exact J7 T h locs X eT N K O1 H1 R1 hk1 Va (by rw [← own_tk1 (show ds.length ≤ 6 by omega)]; exact Vb)
        refine og (fun _ k => XS.icmpNo X.here hx rfl (hb hby at_301) rfl (tlt (show Int32.ofNat 6 < Int32.ofNat n from (own_lt (by decide) (by omega)).mpr c)).2.2.2 k) ?_
        show OGo p e below _ T (mkF m 304 #[.val (.int len), .val (.int mode), .val (.long a), .second, .val (.long b), .second, .val (.int (Int32.ofNat (n))), .val (.int s7), .val (.int br), .val (.ref b122), .val (.ref b163), .unset, .unset, .unset, .unset, .unset, .unset, .unset] [])
        refine og (fun _ k => XS.aload X.here hx rfl (hb hby at_304) rfl rfl k) ?_
        show OGo p e below _ T (mkF m 306 #[.val (.int len), .val (.int mode), .val (.long a), .second, .val (.long b), .second, .val (.int (Int32.ofNat (n))), .val (.int s7), .val (.int br), .val (.ref b122), .val (.ref b163), .unset, .unset, .unset, .unset, .unset, .unset, .unset] [(.ref b163)])
        refine og (fun _ k => XS.bipush X.here hx rfl (hb hby at_306) k) ?_
        show OGo p e below _ T (mkF m 308 #[.val (.int len), .val (.int mode), .val (.long a), .second, .val (.long b), .second, .val (.int (Int32.ofNat (n))), .val (.int s7), .val (.int br), .val (.ref b122), .val (.ref b163), .unset, .unset, .unset, .unset, .unset, .unset, .unset] [(.int (6 : Int32)), (.ref b163)])
        refine og (fun _ k => XS.aload X.here hx rfl (hb hby at_308) rfl rfl k) ?_
        show OGo p e below _ T (mkF m 310 #[.val (.int len), .val (.int mode), .val (.long a), .second, .val (.long b), .second, .val (.int (Int32.ofNat (n))), .val (.int s7), .val (.int br), .val (.ref b122), .val (.ref b163), .unset, .unset, .unset, .unset, .unset, .unset, .unset] [(.ref b122), (.int (6 : Int32)), (.ref b163)])
        refine og (fun _ k => XS.bipush X.here hx rfl (hb hby at_310) k) ?_
        show OGo p e below _ T (mkF m 312 #[.val (.int len), .val (.int mode), .val (.long a), .second, .val (.long b), .second, .val (.int (Int32.ofNat (n))), .val (.int s7), .val (.int br), .val (.ref b122), .val (.ref b163), .unset, .unset, .unset, .unset, .unset, .unset, .unset] [(.int (6 : Int32)), (.ref b122), (.int (6 : Int32)), (.ref b163)])
        refine og (fun _ k => caloadV X hx hZ143 eT Va ⟨by decide, by decide⟩ rfl (g := (mkF m 312 #[.val (.int len), .val (.int mode), .val (.long a), .second, .val (.long b), .second, .val (.int (Int32.ofNat (n))), .val (.int s7), .val (.int br), .val (.ref b122), .val (.ref b163), .unset, .unset, .unset, .unset, .unset, .unset, .unset] [(.int (6 : Int32)), (.ref b122), (.int (6 : Int32)), (.ref b163)])) rfl rfl (hb hby at_312) _ k) ?_
        show OGo p e below _ T (mkF m 313 #[.val (.int len), .val (.int mode), .val (.long a), .second, .val (.long b), .second, .val (.int (Int32.ofNat (n))), .val (.int s7), .val (.int br), .val (.ref b122), .val (.ref b163), .unset, .unset, .unset, .unset, .unset, .unset, .unset] [(.int u6), (.int (6 : Int32)), (.ref b163)])
        have hgt : ds[6]? = some u6 := by rw [hds, List.getElem?_take]; simp [c]
        have Vp : Arv Z h b163 k163 .char (Int32.ofNat n) ((ds.take 6).map Value.int ++ List.replicate 1 (.int (0 : Int32))) (.int (0 : Int32)) := Vb.pad (pad_rep _ _ 1)
        have hlp : (6 : Int32).toNatClampNeg < ((ds.take 6).map Value.int ++ List.replicate 1 (Value.int (0 : Int32))).length := by show 6 < _; simp <;> omega
        obtain ⟨T226, h226, X226, e226, W226, Vq226, st226⟩ := castoreV X hx hZ143 eT Vp (j := (6 : Int32)) ⟨by decide, (show Int32.ofNat 6 < Int32.ofNat n from (own_lt (by decide) (by omega)).mpr c)⟩ hlp (g := (mkF m 313 #[.val (.int len), .val (.int mode), .val (.long a), .second, .val (.long b), .second, .val (.int (Int32.ofNat (n))), .val (.int s7), .val (.int br), .val (.ref b122), .val (.ref b163), .unset, .unset, .unset, .unset, .unset, .unset, .unset] [(.int u6), (.int (6 : Int32)), (.ref b163)])) rfl rfl (hb hby at_313)
        have N226 := Fr.snoc X226 N (Nat.le_trans Z0 sz_b163)
        have KK226 : Keep h0 h226 [] := K.wr W226 (Or.inr sz_b163)
        have H226 := CHv.wr W226 (own_safeA hZ143.alike Vb) H1
        have R226 := CHr.trans R1 (CHr.wr W226 (own_safeA hZ143.alike Vb) H1)
        refine og st226 ?_
        show OGo p e below _ T226 (mkF m 314 #[.val (.int len), .val (.int mode), .val (.long a), .second, .val (.long b), .second, .val (.int (Int32.ofNat (n))), .val (.int s7), .val (.int br), .val (.ref b122), .val (.ref b163), .unset, .unset, .unset, .unset, .unset, .unset, .unset] [])
        rw [show (6 : Int32).toNatClampNeg = 6 from rfl, own_setc hgt (own_narc hu6)] at Vq226
        exact J7 _ _ _ X226 e226 N226 KK226 (O1.wr W226 (Nat.le_trans Z0 sz_b163)) H226 R226 (Nat.le_trans hk1 (Nat.le_of_eq W226.size.symm)) (Va.other W226 nab) Vq226
      have J5 : ∀ (T : State) (h : Heap) (locs : List Loc), Stand p l e room_1 (s.setVm T143.vm) m #[(.int len), (.int mode), (.long a), (.long b)] below meth c T locs 17 212 → T.heap = h → Fr n0 locs → Keep h0 h [] → Old Z n0 h → CHv Z own_EL T143.vm h → CHr Z own_EL s.vm h0 T143.vm h → kk143 ≤ h.size → Arv Z h b122 k122 .char (10 : Int32) (([u0, u1, u2, u3, u4, u5, u6, u7, u8, u9] : List Int32).map Value.int) (.int (0 : Int32)) → Arv Z h b163 k163 .char (Int32.ofNat n) ((ds.take 5).map Value.int) (.int (0 : Int32)) → OGo p e below (EndH Z own_EL s room_1 (own_Q n0)) T (mkF m 283 #[.val (.int len), .val (.int mode), .val (.long a), .second, .val (.long b), .second, .val (.int (Int32.ofNat (n))), .val (.int s7), .val (.int br), .val (.ref b122), .val (.ref b163), .unset, .unset, .unset, .unset, .unset, .unset, .unset] []) := by
        intro T h locs X eT N K O1 H1 R1 hk1 Va Vb
        show OGo p e below _ T (mkF m 283 #[.val (.int len), .val (.int mode), .val (.long a), .second, .val (.long b), .second, .val (.int (Int32.ofNat (n))), .val (.int s7), .val (.int br), .val (.ref b122), .val (.ref b163), .unset, .unset, .unset, .unset, .unset, .unset, .unset] [])
        refine og (fun _ k => XS.iload X.here hx rfl (hb hby at_283) rfl k) ?_
        show OGo p e below _ T (mkF m 285 #[.val (.int len), .val (.int mode), .val (.long a), .second, .val (.long b), .second, .val (.int (Int32.ofNat (n))), .val (.int s7), .val (.int br), .val (.ref b122), .val (.ref b163), .unset, .unset, .unset, .unset, .unset, .unset, .unset] [(.int (Int32.ofNat (n)))])
        refine og (fun _ k => XS.iconst X.here hx rfl (hb hby at_285) k) ?_
        show OGo p e below _ T (mkF m 286 #[.val (.int len), .val (.int mode), .val (.long a), .second, .val (.long b), .second, .val (.int (Int32.ofNat (n))), .val (.int s7), .val (.int br), .val (.ref b122), .val (.ref b163), .unset, .unset, .unset, .unset, .unset, .unset, .unset] [(.int (5 : Int32)), (.int (Int32.ofNat (n)))])
        by_cases c : 5 < n
        case neg =>
          refine og (fun _ k => XS.icmpYes X.here hx rfl (pc0 := 286) (pc' := 297) rfl (hb hby at_286) rfl (flt (fun q => c ((own_lt (a := 5) (by decide) (by omega)).mp q))).2.2.2 (by decide) (by decide) k) ?_
          show OGo p e below _ T (mkF m 297 #[.val (.int len), .val (.int mode), .val (.long a), .second, .val (.long b), .second, .val (.int (Int32.ofNat (n))), .val (.int s7), .val (.int br), .val (.ref b122), .val (.ref b163), .unset, .unset, .unset, .unset, .unset, .unset, .unset] [])
          exact J6 T h locs X eT N K O1 H1 R1 hk1 Va (by rw [← own_tk1 (show ds.length ≤ 5 by omega)]; exact Vb)
        refine og (fun _ k => XS.icmpNo X.here hx rfl (hb hby at_286) rfl (tlt (show Int32.ofNat 5 < Int32.ofNat n from (own_lt (by decide) (by omega)).mpr c)).2.2.2 k) ?_
        show OGo p e below _ T (mkF m 289 #[.val (.int len), .val (.int mode), .val (.long a), .second, .val (.long b), .second, .val (.int (Int32.ofNat (n))), .val (.int s7), .val (.int br), .val (.ref b122), .val (.ref b163), .unset, .unset, .unset, .unset, .unset, .unset, .unset] [])
        refine og (fun _ k => XS.aload X.here hx rfl (hb hby at_289) rfl rfl k) ?_
        show OGo p e below _ T (mkF m 291 #[.val (.int len), .val (.int mode), .val (.long a), .second, .val (.long b), .second, .val (.int (Int32.ofNat (n))), .val (.int s7), .val (.int br), .val (.ref b122), .val (.ref b163), .unset, .unset, .unset, .unset, .unset, .unset, .unset] [(.ref b163)])
        refine og (fun _ k => XS.iconst X.here hx rfl (hb hby at_291) k) ?_
        show OGo p e below _ T (mkF m 292 #[.val (.int len), .val (.int mode), .val (.long a), .second, .val (.long b), .second, .val (.int (Int32.ofNat (n))), .val (.int s7), .val (.int br), .val (.ref b122), .val (.ref b163), .unset, .unset, .unset, .unset, .unset, .unset, .unset] [(.int (5 : Int32)), (.ref b163)])
        refine og (fun _ k => XS.aload X.here hx rfl (hb hby at_292) rfl rfl k) ?_
        show OGo p e below _ T (mkF m 294 #[.val (.int len), .val (.int mode), .val (.long a), .second, .val (.long b), .second, .val (.int (Int32.ofNat (n))), .val (.int s7), .val (.int br), .val (.ref b122), .val (.ref b163), .unset, .unset, .unset, .unset, .unset, .unset, .unset] [(.ref b122), (.int (5 : Int32)), (.ref b163)])
        refine og (fun _ k => XS.iconst X.here hx rfl (hb hby at_294) k) ?_
        show OGo p e below _ T (mkF m 295 #[.val (.int len), .val (.int mode), .val (.long a), .second, .val (.long b), .second, .val (.int (Int32.ofNat (n))), .val (.int s7), .val (.int br), .val (.ref b122), .val (.ref b163), .unset, .unset, .unset, .unset, .unset, .unset, .unset] [(.int (5 : Int32)), (.ref b122), (.int (5 : Int32)), (.ref b163)])
        refine og (fun _ k => caloadV X hx hZ143 eT Va ⟨by decide, by decide⟩ rfl (g := (mkF m 295 #[.val (.int len), .val (.int mode), .val (.long a), .second, .val (.long b), .second, .val (.int (Int32.ofNat (n))), .val (.int s7), .val (.int br), .val (.ref b122), .val (.ref b163), .unset, .unset, .unset, .unset, .unset, .unset, .unset] [(.int (5 : Int32)), (.ref b122), (.int (5 : Int32)), (.ref b163)])) rfl rfl (hb hby at_295) _ k) ?_
        show OGo p e below _ T (mkF m 296 #[.val (.int len), .val (.int mode), .val (.long a), .second, .val (.long b), .second, .val (.int (Int32.ofNat (n))), .val (.int s7), .val (.int br), .val (.ref b122), .val (.ref b163), .unset, .unset, .unset, .unset, .unset, .unset, .unset] [(.int u5), (.int (5 : Int32)), (.ref b163)])
        have hgt : ds[5]? = some u5 := by rw [hds, List.getElem?_take]; simp [c]
        have Vp : Arv Z h b163 k163 .char (Int32.ofNat n) ((ds.take 5).map Value.int ++ List.replicate 1 (.int (0 : Int32))) (.int (0 : Int32)) := Vb.pad (pad_rep _ _ 1)
        have hlp : (5 : Int32).toNatClampNeg < ((ds.take 5).map Value.int ++ List.replicate 1 (Value.int (0 : Int32))).length := by show 5 < _; simp <;> omega
        obtain ⟨T227, h227, X227, e227, W227, Vq227, st227⟩ := castoreV X hx hZ143 eT Vp (j := (5 : Int32)) ⟨by decide, (show Int32.ofNat 5 < Int32.ofNat n from (own_lt (by decide) (by omega)).mpr c)⟩ hlp (g := (mkF m 296 #[.val (.int len), .val (.int mode), .val (.long a), .second, .val (.long b), .second, .val (.int (Int32.ofNat (n))), .val (.int s7), .val (.int br), .val (.ref b122), .val (.ref b163), .unset, .unset, .unset, .unset, .unset, .unset, .unset] [(.int u5), (.int (5 : Int32)), (.ref b163)])) rfl rfl (hb hby at_296)
        have N227 := Fr.snoc X227 N (Nat.le_trans Z0 sz_b163)
        have KK227 : Keep h0 h227 [] := K.wr W227 (Or.inr sz_b163)
        have H227 := CHv.wr W227 (own_safeA hZ143.alike Vb) H1
        have R227 := CHr.trans R1 (CHr.wr W227 (own_safeA hZ143.alike Vb) H1)
        refine og st227 ?_
        show OGo p e below _ T227 (mkF m 297 #[.val (.int len), .val (.int mode), .val (.long a), .second, .val (.long b), .second, .val (.int (Int32.ofNat (n))), .val (.int s7), .val (.int br), .val (.ref b122), .val (.ref b163), .unset, .unset, .unset, .unset, .unset, .unset, .unset] [])
        rw [show (5 : Int32).toNatClampNeg = 5 from rfl, own_setc hgt (own_narc hu5)] at Vq227
        exact J6 _ _ _ X227 e227 N227 KK227 (O1.wr W227 (Nat.le_trans Z0 sz_b163)) H227 R227 (Nat.le_trans hk1 (Nat.le_of_eq W227.size.symm)) (Va.other W227 nab) Vq227
      have J4 : ∀ (T : State) (h : Heap) (locs : List Loc), Stand p l e room_1 (s.setVm T143.vm) m #[(.int len), (.int mode), (.long a), (.long b)] below meth c T locs 17 212 → T.heap = h → Fr n0 locs → Keep h0 h [] → Old Z n0 h → CHv Z own_EL T143.vm h → CHr Z own_EL s.vm h0 T143.vm h → kk143 ≤ h.size → Arv Z h b122 k122 .char (10 : Int32) (([u0, u1, u2, u3, u4, u5, u6, u7, u8, u9] : List Int32).map Value.int) (.int (0 : Int32)) → Arv Z h b163 k163 .char (Int32.ofNat n) ((ds.take 4).map Value.int) (.int (0 : Int32)) → OGo p e below (EndH Z own_EL s room_1 (own_Q n0)) T (mkF m 269 #[.val (.int len), .val (.int mode), .val (.long a), .second, .val (.long b), .second, .val (.int (Int32.ofNat (n))), .val (.int s7), .val (.int br), .val (.ref b122), .val (.ref b163), .unset, .unset, .unset, .unset, .unset, .unset, .unset] []) := by
        intro T h locs X eT N K O1 H1 R1 hk1 Va Vb
        show OGo p e below _ T (mkF m 269 #[.val (.int len), .val (.int mode), .val (.long a), .second, .val (.long b), .second, .val (.int (Int32.ofNat (n))), .val (.int s7), .val (.int br), .val (.ref b122), .val (.ref b163), .unset, .unset, .unset, .unset, .unset, .unset, .unset] [])
        refine og (fun _ k => XS.iload X.here hx rfl (hb hby at_269) rfl k) ?_
        show OGo p e below _ T (mkF m 271 #[.val (.int len), .val (.int mode), .val (.long a), .second, .val (.long b), .second, .val (.int (Int32.ofNat (n))), .val (.int s7), .val (.int br), .val (.ref b122), .val (.ref b163), .unset, .unset, .unset, .unset, .unset, .unset, .unset] [(.int (Int32.ofNat (n)))])
        refine og (fun _ k => XS.iconst X.here hx rfl (hb hby at_271) k) ?_
        show OGo p e below _ T (mkF m 272 #[.val (.int len), .val (.int mode), .val (.long a), .second, .val (.long b), .second, .val (.int (Int32.ofNat (n))), .val (.int s7), .val (.int br), .val (.ref b122), .val (.ref b163), .unset, .unset, .unset, .unset, .unset, .unset, .unset] [(.int (4 : Int32)), (.int (Int32.ofNat (n)))])
        by_cases c : 4 < n
        case neg =>
          refine og (fun _ k => XS.icmpYes X.here hx rfl (pc0 := 272) (pc' := 283) rfl (hb hby at_272) rfl (flt (fun q => c ((own_lt (a := 4) (by decide) (by omega)).mp q))).2.2.2 (by decide) (by decide) k) ?_
          show OGo p e below _ T (mkF m 283 #[.val (.int len), .val (.int mode), .val (.long a), .second, .val (.long b), .second, .val (.int (Int32.ofNat (n))), .val (.int s7), .val (.int br), .val (.ref b122), .val (.ref b163), .unset, .unset, .unset, .unset, .unset, .unset, .unset] [])
          exact J5 T h locs X eT N K O1 H1 R1 hk1 Va (by rw [← own_tk1 (show ds.length ≤ 4 by omega)]; exact Vb)
        refine og (fun _ k => XS.icmpNo X.here hx rfl (hb hby at_272) rfl (tlt (show Int32.ofNat 4 < Int32.ofNat n from (own_lt (by decide) (by omega)).mpr c)).2.2.2 k) ?_
        show OGo p e below _ T (mkF m 275 #[.val (.int len), .val (.int mode), .val (.long a), .second, .val (.long b), .second, .val (.int (Int32.ofNat (n))), .val (.int s7), .val (.int br), .val (.ref b122), .val (.ref b163), .unset, .unset, .unset, .unset, .unset, .unset, .unset] [])
        refine og (fun _ k => XS.aload X.here hx rfl (hb hby at_275) rfl rfl k) ?_
        show OGo p e below _ T (mkF m 277 #[.val (.int len), .val (.int mode), .val (.long a), .second, .val (.long b), .second, .val (.int (Int32.ofNat (n))), .val (.int s7), .val (.int br), .val (.ref b122), .val (.ref b163), .unset, .unset, .unset, .unset, .unset, .unset, .unset] [(.ref b163)])
        refine og (fun _ k => XS.iconst X.here hx rfl (hb hby at_277) k) ?_
        show OGo p e below _ T (mkF m 278 #[.val (.int len), .val (.int mode), .val (.long a), .second, .val (.long b), .second, .val (.int (Int32.ofNat (n))), .val (.int s7), .val (.int br), .val (.ref b122), .val (.ref b163), .unset, .unset, .unset, .unset, .unset, .unset, .unset] [(.int (4 : Int32)), (.ref b163)])
        refine og (fun _ k => XS.aload X.here hx rfl (hb hby at_278) rfl rfl k) ?_
        show OGo p e below _ T (mkF m 280 #[.val (.int len), .val (.int mode), .val (.long a), .second, .val (.long b), .second, .val (.int (Int32.ofNat (n))), .val (.int s7), .val (.int br), .val (.ref b122), .val (.ref b163), .unset, .unset, .unset, .unset, .unset, .unset, .unset] [(.ref b122), (.int (4 : Int32)), (.ref b163)])
        refine og (fun _ k => XS.iconst X.here hx rfl (hb hby at_280) k) ?_
        show OGo p e below _ T (mkF m 281 #[.val (.int len), .val (.int mode), .val (.long a), .second, .val (.long b), .second, .val (.int (Int32.ofNat (n))), .val (.int s7), .val (.int br), .val (.ref b122), .val (.ref b163), .unset, .unset, .unset, .unset, .unset, .unset, .unset] [(.int (4 : Int32)), (.ref b122), (.int (4 : Int32)), (.ref b163)])
        refine og (fun _ k => caloadV X hx hZ143 eT Va ⟨by decide, by decide⟩ rfl (g := (mkF m 281 #[.val (.int len), .val (.int mode), .val (.long a), .second, .val (.long b), .second, .val (.int (Int32.ofNat (n))), .val (.int s7), .val (.int br), .val (.ref b122), .val (.ref b163), .unset, .unset, .unset, .unset, .unset, .unset, .unset] [(.int (4 : Int32)), (.ref b122), (.int (4 : Int32)), (.ref b163)])) rfl rfl (hb hby at_281) _ k) ?_
        show OGo p e below _ T (mkF m 282 #[.val (.int len), .val (.int mode), .val (.long a), .second, .val (.long b), .second, .val (.int (Int32.ofNat (n))), .val (.int s7), .val (.int br), .val (.ref b122), .val (.ref b163), .unset, .unset, .unset, .unset, .unset, .unset, .unset] [(.int u4), (.int (4 : Int32)), (.ref b163)])
        have hgt : ds[4]? = some u4 := by rw [hds, List.getElem?_take]; simp [c]
        have Vp : Arv Z h b163 k163 .char (Int32.ofNat n) ((ds.take 4).map Value.int ++ List.replicate 1 (.int (0 : Int32))) (.int (0 : Int32)) := Vb.pad (pad_rep _ _ 1)
        have hlp : (4 : Int32).toNatClampNeg < ((ds.take 4).map Value.int ++ List.replicate 1 (Value.int (0 : Int32))).length := by show 4 < _; simp <;> omega
        obtain ⟨T228, h228, X228, e228, W228, Vq228, st228⟩ := castoreV X hx hZ143 eT Vp (j := (4 : Int32)) ⟨by decide, (show Int32.ofNat 4 < Int32.ofNat n from (own_lt (by decide) (by omega)).mpr c)⟩ hlp (g := (mkF m 282 #[.val (.int len), .val (.int mode), .val (.long a), .second, .val (.long b), .second, .val (.int (Int32.ofNat (n))), .val (.int s7), .val (.int br), .val (.ref b122), .val (.ref b163), .unset, .unset, .unset, .unset, .unset, .unset, .unset] [(.int u4), (.int (4 : Int32)), (.ref b163)])) rfl rfl (hb hby at_282)
        have N228 := Fr.snoc X228 N (Nat.le_trans Z0 sz_b163)
        have KK228 : Keep h0 h228 [] := K.wr W228 (Or.inr sz_b163)
        have H228 := CHv.wr W228 (own_safeA hZ143.alike Vb) H1
        have R228 := CHr.trans R1 (CHr.wr W228 (own_safeA hZ143.alike Vb) H1)
        refine og st228 ?_
        show OGo p e below _ T228 (mkF m 283 #[.val (.int len), .val (.int mode), .val (.long a), .second, .val (.long b), .second, .val (.int (Int32.ofNat (n))), .val (.int s7), .val (.int br), .val (.ref b122), .val (.ref b163), .unset, .unset, .unset, .unset, .unset, .unset, .unset] [])
        rw [show (4 : Int32).toNatClampNeg = 4 from rfl, own_setc hgt (own_narc hu4)] at Vq228
        exact J5 _ _ _ X228 e228 N228 KK228 (O1.wr W228 (Nat.le_trans Z0 sz_b163)) H228 R228 (Nat.le_trans hk1 (Nat.le_of_eq W228.size.symm)) (Va.other W228 nab) Vq228
      have J3 : ∀ (T : State) (h : Heap) (locs : List Loc), Stand p l e room_1 (s.setVm T143.vm) m #[(.int len), (.int mode), (.long a), (.long b)] below meth c T locs 17 212 → T.heap = h → Fr n0 locs → Keep h0 h [] → Old Z n0 h → CHv Z own_EL T143.vm h → CHr Z own_EL s.vm h0 T143.vm h → kk143 ≤ h.size → Arv Z h b122 k122 .char (10 : Int32) (([u0, u1, u2, u3, u4, u5, u6, u7, u8, u9] : List Int32).map Value.int) (.int (0 : Int32)) → Arv Z h b163 k163 .char (Int32.ofNat n) ((ds.take 3).map Value.int) (.int (0 : Int32)) → OGo p e below (EndH Z own_EL s room_1 (own_Q n0)) T (mkF m 255 #[.val (.int len), .val (.int mode), .val (.long a), .second, .val (.long b), .second, .val (.int (Int32.ofNat (n))), .val (.int s7), .val (.int br), .val (.ref b122), .val (.ref b163), .unset, .unset, .unset, .unset, .unset, .unset, .unset] []) := by
        intro T h locs X eT N K O1 H1 R1 hk1 Va Vb
        show OGo p e below _ T (mkF m 255 #[.val (.int len), .val (.int mode), .val (.long a), .second, .val (.long b), .second, .val (.int (Int32.ofNat (n))), .val (.int s7), .val (.int br), .val (.ref b122), .val (.ref b163), .unset, .unset, .unset, .unset, .unset, .unset, .unset] [])
        refine og (fun _ k => XS.iload X.here hx rfl (hb hby at_255) rfl k) ?_
        show OGo p e below _ T (mkF m 257 #[.val (.int len), .val (.int mode), .val (.long a), .second, .val (.long b), .second, .val (.int (Int32.ofNat (n))), .val (.int s7), .val (.int br), .val (.ref b122), .val (.ref b163), .unset, .unset, .unset, .unset, .unset, .unset, .unset] [(.int (Int32.ofNat (n)))])
        refine og (fun _ k => XS.iconst X.here hx rfl (hb hby at_257) k) ?_
        show OGo p e below _ T (mkF m 258 #[.val (.int len), .val (.int mode), .val (.long a), .second, .val (.long b), .second, .val (.int (Int32.ofNat (n))), .val (.int s7), .val (.int br), .val (.ref b122), .val (.ref b163), .unset, .unset, .unset, .unset, .unset, .unset, .unset] [(.int (3 : Int32)), (.int (Int32.ofNat (n)))])
        by_cases c : 3 < n
        case neg =>
          refine og (fun _ k => XS.icmpYes X.here hx rfl (pc0 := 258) (pc' := 269) rfl (hb hby at_258) rfl (flt (fun q => c ((own_lt (a := 3) (by decide) (by omega)).mp q))).2.2.2 (by decide) (by decide) k) ?_
          show OGo p e below _ T (mkF m 269 #[.val (.int len), .val (.int mode), .val (.long a), .second, .val (.long b), .second, .val (.int (Int32.ofNat (n))), .val (.int s7), .val (.int br), .val (.ref b122), .val (.ref b163), .unset, .unset, .unset, .unset, .unset, .unset, .unset] [])
          exact J4 T h locs X eT N K O1 H1 R1 hk1 Va (by rw [← own_tk1 (show ds.length ≤ 3 by omega)]; exact Vb)
        refine og (fun _ k => XS.icmpNo X.here hx rfl (hb hby at_258) rfl (tlt (show Int32.ofNat 3 < Int32.ofNat n from (own_lt (by decide) (by omega)).mpr c)).2.2.2 k) ?_
        show OGo p e below _ T (mkF m 261 #[.val (.int len), .val (.int mode), .val (.long a), .second, .val (.long b), .second, .val (.int (Int32.ofNat (n))), .val (.int s7), .val (.int br), .val (.ref b122), .val (.ref b163), .unset, .unset, .unset, .unset, .unset, .unset, .unset] [])
        refine og (fun _ k => XS.aload X.here hx rfl (hb hby at_261) rfl rfl k) ?_
        show OGo p e below _ T (mkF m 263 #[.val (.int len), .val (.int mode), .val (.long a), .second, .val (.long b), .second, .val (.int (Int32.ofNat (n))), .val (.int s7), .val (.int br), .val (.ref b122), .val (.ref b163), .unset, .unset, .unset, .unset, .unset, .unset, .unset] [(.ref b163)])
        refine og (fun _ k => XS.iconst X.here hx rfl (hb hby at_263) k) ?_
        show OGo p e below _ T (mkF m 264 #[.val (.int len), .val (.int mode), .val (.long a), .second, .val (.long b), .second, .val (.int (Int32.ofNat (n))), .val (.int s7), .val (.int br), .val (.ref b122), .val (.ref b163), .unset, .unset, .unset, .unset, .unset, .unset, .unset] [(.int (3 : Int32)), (.ref b163)])
        refine og (fun _ k => XS.aload X.here hx rfl (hb hby at_264) rfl rfl k) ?_
        show OGo p e below _ T (mkF m 266 #[.val (.int len), .val (.int mode), .val (.long a), .second, .val (.long b), .second, .val (.int (Int32.ofNat (n))), .val (.int s7), .val (.int br), .val (.ref b122), .val (.ref b163), .unset, .unset, .unset, .unset, .unset, .unset, .unset] [(.ref b122), (.int (3 : Int32)), (.ref b163)])
        refine og (fun _ k => XS.iconst X.here hx rfl (hb hby at_266) k) ?_
        show OGo p e below _ T (mkF m 267 #[.val (.int len), .val (.int mode), .val (.long a), .second, .val (.long b), .second, .val (.int (Int32.ofNat (n))), .val (.int s7), .val (.int br), .val (.ref b122), .val (.ref b163), .unset, .unset, .unset, .unset, .unset, .unset, .unset] [(.int (3 : Int32)), (.ref b122), (.int (3 : Int32)), (.ref b163)])
        refine og (fun _ k => caloadV X hx hZ143 eT Va ⟨by decide, by decide⟩ rfl (g := (mkF m 267 #[.val (.int len), .val (.int mode), .val (.long a), .second, .val (.long b), .second, .val (.int (Int32.ofNat (n))), .val (.int s7), .val (.int br), .val (.ref b122), .val (.ref b163), .unset, .unset, .unset, .unset, .unset, .unset, .unset] [(.int (3 : Int32)), (.ref b122), (.int (3 : Int32)), (.ref b163)])) rfl rfl (hb hby at_267) _ k) ?_
        show OGo p e below _ T (mkF m 268 #[.val (.int len), .val (.int mode), .val (.long a), .second, .val (.long b), .second, .val (.int (Int32.ofNat (n))), .val (.int s7), .val (.int br), .val (.ref b122), .val (.ref b163), .unset, .unset, .unset, .unset, .unset, .unset, .unset] [(.int u3), (.int (3 : Int32)), (.ref b163)])
        have hgt : ds[3]? = some u3 := by rw [hds, List.getElem?_take]; simp [c]
        have Vp : Arv Z h b163 k163 .char (Int32.ofNat n) ((ds.take 3).map Value.int ++ List.replicate 1 (.int (0 : Int32))) (.int (0 : Int32)) := Vb.pad (pad_rep _ _ 1)
        have hlp : (3 : Int32).toNatClampNeg < ((ds.take 3).map Value.int ++ List.replicate 1 (Value.int (0 : Int32))).length := by show 3 < _; simp <;> omega
        obtain ⟨T229, h229, X229, e229, W229, Vq229, st229⟩ := castoreV X hx hZ143 eT Vp (j := (3 : Int32)) ⟨by decide, (show Int32.ofNat 3 < Int32.ofNat n from (own_lt (by decide) (by omega)).mpr c)⟩ hlp (g := (mkF m 268 #[.val (.int len), .val (.int mode), .val (.long a), .second, .val (.long b), .second, .val (.int (Int32.ofNat (n))), .val (.int s7), .val (.int br), .val (.ref b122), .val (.ref b163), .unset, .unset, .unset, .unset, .unset, .unset, .unset] [(.int u3), (.int (3 : Int32)), (.ref b163)])) rfl rfl (hb hby at_268)
        have N229 := Fr.snoc X229 N (Nat.le_trans Z0 sz_b163)
        have KK229 : Keep h0 h229 [] := K.wr W229 (Or.inr sz_b163)
        have H229 := CHv.wr W229 (own_safeA hZ143.alike Vb) H1
        have R229 := CHr.trans R1 (CHr.wr W229 (own_safeA hZ143.alike Vb) H1)
        refine og st229 ?_
        show OGo p e below _ T229 (mkF m 269 #[.val (.int len), .val (.int mode), .val (.long a), .second, .val (.long b), .second, .val (.int (Int32.ofNat (n))), .val (.int s7), .val (.int br), .val (.ref b122), .val (.ref b163), .unset, .unset, .unset, .unset, .unset, .unset, .unset] [])
        rw [show (3 : Int32).toNatClampNeg = 3 from rfl, own_setc hgt (own_narc hu3)] at Vq229
        exact J4 _ _ _ X229 e229 N229 KK229 (O1.wr W229 (Nat.le_trans Z0 sz_b163)) H229 R229 (Nat.le_trans hk1 (Nat.le_of_eq W229.size.symm)) (Va.other W229 nab) Vq229
      have J2 : ∀ (T : State) (h : Heap) (locs : List Loc), Stand p l e room_1 (s.setVm T143.vm) m #[(.int len), (.int mode), (.long a), (.long b)] below meth c T locs 17 212 → T.heap = h → Fr n0 locs → Keep h0 h [] → Old Z n0 h → CHv Z own_EL T143.vm h → CHr Z own_EL s.vm h0 T143.vm h → kk143 ≤ h.size → Arv Z h b122 k122 .char (10 : Int32) (([u0, u1, u2, u3, u4, u5, u6, u7, u8, u9] : List Int32).map Value.int) (.int (0 : Int32)) → Arv Z h b163 k163 .char (Int32.ofNat n) ((ds.take 2).map Value.int) (.int (0 : Int32)) → OGo p e below (EndH Z own_EL s room_1 (own_Q n0)) T (mkF m 241 #[.val (.int len), .val (.int mode), .val (.long a), .second, .val (.long b), .second, .val (.int (Int32.ofNat (n))), .val (.int s7), .val (.int br), .val (.ref b122), .val (.ref b163), .unset, .unset, .unset, .unset, .unset, .unset, .unset] []) := by
        intro T h locs X eT N K O1 H1 R1 hk1 Va Vb
        show OGo p e below _ T (mkF m 241 #[.val (.int len), .val (.int mode), .val (.long a), .second, .val (.long b), .second, .val (.int (Int32.ofNat (n))), .val (.int s7), .val (.int br), .val (.ref b122), .val (.ref b163), .unset, .unset, .unset, .unset, .unset, .unset, .unset] [])
        refine og (fun _ k => XS.iload X.here hx rfl (hb hby at_241) rfl k) ?_
        show OGo p e below _ T (mkF m 243 #[.val (.int len), .val (.int mode), .val (.long a), .second, .val (.long b), .second, .val (.int (Int32.ofNat (n))), .val (.int s7), .val (.int br), .val (.ref b122), .val (.ref b163), .unset, .unset, .unset, .unset, .unset, .unset, .unset] [(.int (Int32.ofNat (n)))])
        refine og (fun _ k => XS.iconst X.here hx rfl (hb hby at_243) k) ?_
        show OGo p e below _ T (mkF m 244 #[.val (.int len), .val (.int mode), .val (.long a), .second, .val (.long b), .second, .val (.int (Int32.ofNat (n))), .val (.int s7), .val (.int br), .val (.ref b122), .val (.ref b163), .unset, .unset, .unset, .unset, .unset, .unset, .unset] [(.int (2 : Int32)), (.int (Int32.ofNat (n)))])
        by_cases c : 2 < n
        case neg =>
          refine og (fun _ k => XS.icmpYes X.here hx rfl (pc0 := 244) (pc' := 255) rfl (hb hby at_244) rfl (flt (fun q => c ((own_lt (a := 2) (by decide) (by omega)).mp q))).2.2.2 (by decide) (by decide) k) ?_
          show OGo p e below _ T (mkF m 255 #[.val (.int len), .val (.int mode), .val (.long a), .second, .val (.long b), .second, .val (.int (Int32.ofNat (n))), .val (.int s7), .val (.int br), .val (.ref b122), .val (.ref b163), .unset, .unset, .unset, .unset, .unset, .unset, .unset] [])
          exact J3 T h locs X eT N K O1 H1 R1 hk1 Va (by rw [← own_tk1 (show ds.length ≤ 2 by omega)]; exact Vb)
        refine og (fun _ k => XS.icmpNo X.here hx rfl (hb hby at_244) rfl (tlt (show Int32.ofNat 2 < Int32.ofNat n from (own_lt (by decide) (by omega)).mpr c)).2.2.2 k) ?_
        show OGo p e below _ T (mkF m 247 #[.val (.int len), .val (.int mode), .val (.long a), .second, .val (.long b), .second, .val (.int (Int32.ofNat (n))), .val (.int s7), .val (.int br), .val (.ref b122), .val (.ref b163), .unset, .unset, .unset, .unset, .unset, .unset, .unset] [])
        refine og (fun _ k => XS.aload X.here hx rfl (hb hby at_247) rfl rfl k) ?_
        show OGo p e below _ T (mkF m 249 #[.val (.int len), .val (.int mode), .val (.long a), .second, .val (.long b), .second, .val (.int (Int32.ofNat (n))), .val (.int s7), .val (.int br), .val (.ref b122), .val (.ref b163), .unset, .unset, .unset, .unset, .unset, .unset, .unset] [(.ref b163)])
        refine og (fun _ k => XS.iconst X.here hx rfl (hb hby at_249) k) ?_
        show OGo p e below _ T (mkF m 250 #[.val (.int len), .val (.int mode), .val (.long a), .second, .val (.long b), .second, .val (.int (Int32.ofNat (n))), .val (.int s7), .val (.int br), .val (.ref b122), .val (.ref b163), .unset, .unset, .unset, .unset, .unset, .unset, .unset] [(.int (2 : Int32)), (.ref b163)])
        refine og (fun _ k => XS.aload X.here hx rfl (hb hby at_250) rfl rfl k) ?_
        show OGo p e below _ T (mkF m 252 #[.val (.int len), .val (.int mode), .val (.long a), .second, .val (.long b), .second, .val (.int (Int32.ofNat (n))), .val (.int s7), .val (.int br), .val (.ref b122), .val (.ref b163), .unset, .unset, .unset, .unset, .unset, .unset, .unset] [(.ref b122), (.int (2 : Int32)), (.ref b163)])
        refine og (fun _ k => XS.iconst X.here hx rfl (hb hby at_252) k) ?_
        show OGo p e below _ T (mkF m 253 #[.val (.int len), .val (.int mode), .val (.long a), .second, .val (.long b), .second, .val (.int (Int32.ofNat (n))), .val (.int s7), .val (.int br), .val (.ref b122), .val (.ref b163), .unset, .unset, .unset, .unset, .unset, .unset, .unset] [(.int (2 : Int32)), (.ref b122), (.int (2 : Int32)), (.ref b163)])
        refine og (fun _ k => caloadV X hx hZ143 eT Va ⟨by decide, by decide⟩ rfl (g := (mkF m 253 #[.val (.int len), .val (.int mode), .val (.long a), .second, .val (.long b), .second, .val (.int (Int32.ofNat (n))), .val (.int s7), .val (.int br), .val (.ref b122), .val (.ref b163), .unset, .unset, .unset, .unset, .unset, .unset, .unset] [(.int (2 : Int32)), (.ref b122), (.int (2 : Int32)), (.ref b163)])) rfl rfl (hb hby at_253) _ k) ?_
        show OGo p e below _ T (mkF m 254 #[.val (.int len), .val (.int mode), .val (.long a), .second, .val (.long b), .second, .val (.int (Int32.ofNat (n))), .val (.int s7), .val (.int br), .val (.ref b122), .val (.ref b163), .unset, .unset, .unset, .unset, .unset, .unset, .unset] [(.int u2), (.int (2 : Int32)), (.ref b163)])
        have hgt : ds[2]? = some u2 := by rw [hds, List.getElem?_take]; simp [c]
        have Vp : Arv Z h b163 k163 .char (Int32.ofNat n) ((ds.take 2).map Value.int ++ List.replicate 1 (.int (0 : Int32))) (.int (0 : Int32)) := Vb.pad (pad_rep _ _ 1)
        have hlp : (2 : Int32).toNatClampNeg < ((ds.take 2).map Value.int ++ List.replicate 1 (Value.int (0 : Int32))).length := by show 2 < _; simp <;> omega
        obtain ⟨T230, h230, X230, e230, W230, Vq230, st230⟩ := castoreV X hx hZ143 eT Vp (j := (2 : Int32)) ⟨by decide, (show Int32.ofNat 2 < Int32.ofNat n from (own_lt (by decide) (by omega)).mpr c)⟩ hlp (g := (mkF m 254 #[.val (.int len), .val (.int mode), .val (.long a), .second, .val (.long b), .second, .val (.int (Int32.ofNat (n))), .val (.int s7), .val (.int br), .val (.ref b122), .val (.ref b163), .unset, .unset, .unset, .unset, .unset, .unset, .unset] [(.int u2), (.int (2 : Int32)), (.ref b163)])) rfl rfl (hb hby at_254)
        have N230 := Fr.snoc X230 N (Nat.le_trans Z0 sz_b163)
        have KK230 : Keep h0 h230 [] := K.wr W230 (Or.inr sz_b163)
        have H230 := CHv.wr W230 (own_safeA hZ143.alike Vb) H1
        have R230 := CHr.trans R1 (CHr.wr W230 (own_safeA hZ143.alike Vb) H1)
        refine og st230 ?_
        show OGo p e below _ T230 (mkF m 255 #[.val (.int len), .val (.int mode), .val (.long a), .second, .val (.long b), .second, .val (.int (Int32.ofNat (n))), .val (.int s7), .val (.int br), .val (.ref b122), .val (.ref b163), .unset, .unset, .unset, .unset, .unset, .unset, .unset] [])
        rw [show (2 : Int32).toNatClampNeg = 2 from rfl, own_setc hgt (own_narc hu2)] at Vq230
        exact J3 _ _ _ X230 e230 N230 KK230 (O1.wr W230 (Nat.le_trans Z0 sz_b163)) H230 R230 (Nat.le_trans hk1 (Nat.le_of_eq W230.size.symm)) (Va.other W230 nab) Vq230
      have J1 : ∀ (T : State) (h : Heap) (locs : List Loc), Stand p l e room_1 (s.setVm T143.vm) m #[(.int len), (.int mode), (.long a), (.long b)] below meth c T locs 17 212 → T.heap = h → Fr n0 locs → Keep h0 h [] → Old Z n0 h → CHv Z own_EL T143.vm h → CHr Z own_EL s.vm h0 T143.vm h → kk143 ≤ h.size → Arv Z h b122 k122 .char (10 : Int32) (([u0, u1, u2, u3, u4, u5, u6, u7, u8, u9] : List Int32).map Value.int) (.int (0 : Int32)) → Arv Z h b163 k163 .char (Int32.ofNat n) ((ds.take 1).map Value.int) (.int (0 : Int32)) → OGo p e below (EndH Z own_EL s room_1 (own_Q n0)) T (mkF m 227 #[.val (.int len), .val (.int mode), .val (.long a), .second, .val (.long b), .second, .val (.int (Int32.ofNat (n))), .val (.int s7), .val (.int br), .val (.ref b122), .val (.ref b163), .unset, .unset, .unset, .unset, .unset, .unset, .unset] []) := by
        intro T h locs X eT N K O1 H1 R1 hk1 Va Vb
        show OGo p e below _ T (mkF m 227 #[.val (.int len), .val (.int mode), .val (.long a), .second, .val (.long b), .second, .val (.int (Int32.ofNat (n))), .val (.int s7), .val (.int br), .val (.ref b122), .val (.ref b163), .unset, .unset, .unset, .unset, .unset, .unset, .unset] [])
        refine og (fun _ k => XS.iload X.here hx rfl (hb hby at_227) rfl k) ?_
        show OGo p e below _ T (mkF m 229 #[.val (.int len), .val (.int mode), .val (.long a), .second, .val (.long b), .second, .val (.int (Int32.ofNat (n))), .val (.int s7), .val (.int br), .val (.ref b122), .val (.ref b163), .unset, .unset, .unset, .unset, .unset, .unset, .unset] [(.int (Int32.ofNat (n)))])
        refine og (fun _ k => XS.iconst X.here hx rfl (hb hby at_229) k) ?_
        show OGo p e below _ T (mkF m 230 #[.val (.int len), .val (.int mode), .val (.long a), .second, .val (.long b), .second, .val (.int (Int32.ofNat (n))), .val (.int s7), .val (.int br), .val (.ref b122), .val (.ref b163), .unset, .unset, .unset, .unset, .unset, .unset, .unset] [(.int (1 : Int32)), (.int (Int32.ofNat (n)))])
        by_cases c : 1 < n
        case neg =>
          refine og (fun _ k => XS.icmpYes X.here hx rfl (pc0 := 230) (pc' := 241) rfl (hb hby at_230) rfl (flt (fun q => c ((own_lt (a := 1) (by decide) (by omega)).mp q))).2.2.2 (by decide) (by decide) k) ?_
          show OGo p e below _ T (mkF m 241 #[.val (.int len), .val (.int mode), .val (.long a), .second, .val (.long b), .second, .val (.int (Int32.ofNat (n))), .val (.int s7), .val (.int br), .val (.ref b122), .val (.ref b163), .unset, .unset, .unset, .unset, .unset, .unset, .unset] [])
          exact J2 T h locs X eT N K O1 H1 R1 hk1 Va (by rw [← own_tk1 (show ds.length ≤ 1 by omega)]; exact Vb)
        refine og (fun _ k => XS.icmpNo X.here hx rfl (hb hby at_230) rfl (tlt (show Int32.ofNat 1 < Int32.ofNat n from (own_lt (by decide) (by omega)).mpr c)).2.2.2 k) ?_
        show OGo p e below _ T (mkF m 233 #[.val (.int len), .val (.int mode), .val (.long a), .second, .val (.long b), .second, .val (.int (Int32.ofNat (n))), .val (.int s7), .val (.int br), .val (.ref b122), .val (.ref b163), .unset, .unset, .unset, .unset, .unset, .unset, .unset] [])
        refine og (fun _ k => XS.aload X.here hx rfl (hb hby at_233) rfl rfl k) ?_
        show OGo p e below _ T (mkF m 235 #[.val (.int len), .val (.int mode), .val (.long a), .second, .val (.long b), .second, .val (.int (Int32.ofNat (n))), .val (.int s7), .val (.int br), .val (.ref b122), .val (.ref b163), .unset, .unset, .unset, .unset, .unset, .unset, .unset] [(.ref b163)])
        refine og (fun _ k => XS.iconst X.here hx rfl (hb hby at_235) k) ?_
        show OGo p e below _ T (mkF m 236 #[.val (.int len), .val (.int mode), .val (.long a), .second, .val (.long b), .second, .val (.int (Int32.ofNat (n))), .val (.int s7), .val (.int br), .val (.ref b122), .val (.ref b163), .unset, .unset, .unset, .unset, .unset, .unset, .unset] [(.int (1 : Int32)), (.ref b163)])
        refine og (fun _ k => XS.aload X.here hx rfl (hb hby at_236) rfl rfl k) ?_
        show OGo p e below _ T (mkF m 238 #[.val (.int len), .val (.int mode), .val (.long a), .second, .val (.long b), .second, .val (.int (Int32.ofNat (n))), .val (.int s7), .val (.int br), .val (.ref b122), .val (.ref b163), .unset, .unset, .unset, .unset, .unset, .unset, .unset] [(.ref b122), (.int (1 : Int32)), (.ref b163)])
        refine og (fun _ k => XS.iconst X.here hx rfl (hb hby at_238) k) ?_
        show OGo p e below _ T (mkF m 239 #[.val (.int len), .val (.int mode), .val (.long a), .second, .val (.long b), .second, .val (.int (Int32.ofNat (n))), .val (.int s7), .val (.int br), .val (.ref b122), .val (.ref b163), .unset, .unset, .unset, .unset, .unset, .unset, .unset] [(.int (1 : Int32)), (.ref b122), (.int (1 : Int32)), (.ref b163)])
        refine og (fun _ k => caloadV X hx hZ143 eT Va ⟨by decide, by decide⟩ rfl (g := (mkF m 239 #[.val (.int len), .val (.int mode), .val (.long a), .second, .val (.long b), .second, .val (.int (Int32.ofNat (n))), .val (.int s7), .val (.int br), .val (.ref b122), .val (.ref b163), .unset, .unset, .unset, .unset, .unset, .unset, .unset] [(.int (1 : Int32)), (.ref b122), (.int (1 : Int32)), (.ref b163)])) rfl rfl (hb hby at_239) _ k) ?_
        show OGo p e below _ T (mkF m 240 #[.val (.int len), .val (.int mode), .val (.long a), .second, .val (.long b), .second, .val (.int (Int32.ofNat (n))), .val (.int s7), .val (.int br), .val (.ref b122), .val (.ref b163), .unset, .unset, .unset, .unset, .unset, .unset, .unset] [(.int u1), (.int (1 : Int32)), (.ref b163)])
        have hgt : ds[1]? = some u1 := by rw [hds, List.getElem?_take]; simp [c]
        have Vp : Arv Z h b163 k163 .char (Int32.ofNat n) ((ds.take 1).map Value.int ++ List.replicate 1 (.int (0 : Int32))) (.int (0 : Int32)) := Vb.pad (pad_rep _ _ 1)
        have hlp : (1 : Int32).toNatClampNeg < ((ds.take 1).map Value.int ++ List.replicate 1 (Value.int (0 : Int32))).length := by show 1 < _; simp <;> omega
        obtain ⟨T231, h231, X231, e231, W231, Vq231, st231⟩ := castoreV X hx hZ143 eT Vp (j := (1 : Int32)) ⟨by decide, (show Int32.ofNat 1 < Int32.ofNat n from (own_lt (by decide) (by omega)).mpr c)⟩ hlp (g := (mkF m 240 #[.val (.int len), .val (.int mode), .val (.long a), .second, .val (.long b), .second, .val (.int (Int32.ofNat (n))), .val (.int s7), .val (.int br), .val (.ref b122), .val (.ref b163), .unset, .unset, .unset, .unset, .unset, .unset, .unset] [(.int u1), (.int (1 : Int32)), (.ref b163)])) rfl rfl (hb hby at_240)
        have N231 := Fr.snoc X231 N (Nat.le_trans Z0 sz_b163)
        have KK231 : Keep h0 h231 [] := K.wr W231 (Or.inr sz_b163)
        have H231 := CHv.wr W231 (own_safeA hZ143.alike Vb) H1
        have R231 := CHr.trans R1 (CHr.wr W231 (own_safeA hZ143.alike Vb) H1)
        refine og st231 ?_
        show OGo p e below _ T231 (mkF m 241 #[.val (.int len), .val (.int mode), .val (.long a), .second, .val (.long b), .second, .val (.int (Int32.ofNat (n))), .val (.int s7), .val (.int br), .val (.ref b122), .val (.ref b163), .unset, .unset, .unset, .unset, .unset, .unset, .unset] [])
        rw [show (1 : Int32).toNatClampNeg = 1 from rfl, own_setc hgt (own_narc hu1)] at Vq231
        exact J2 _ _ _ X231 e231 N231 KK231 (O1.wr W231 (Nat.le_trans Z0 sz_b163)) H231 R231 (Nat.le_trans hk1 (Nat.le_of_eq W231.size.symm)) (Va.other W231 nab) Vq231
      have J0 : ∀ (T : State) (h : Heap) (locs : List Loc), Stand p l e room_1 (s.setVm T143.vm) m #[(.int len), (.int mode), (.long a), (.long b)] below meth c T locs 17 212 → T.heap = h → Fr n0 locs → Keep h0 h [] → Old Z n0 h → CHv Z own_EL T143.vm h → CHr Z own_EL s.vm h0 T143.vm h → kk143 ≤ h.size → Arv Z h b122 k122 .char (10 : Int32) (([u0, u1, u2, u3, u4, u5, u6, u7, u8, u9] : List Int32).map Value.int) (.int (0 : Int32)) → Arv Z h b163 k163 .char (Int32.ofNat n) ((ds.take 0).map Value.int) (.int (0 : Int32)) → OGo p e below (EndH Z own_EL s room_1 (own_Q n0)) T (mkF m 214 #[.val (.int len), .val (.int mode), .val (.long a), .second, .val (.long b), .second, .val (.int (Int32.ofNat (n))), .val (.int s7), .val (.int br), .val (.ref b122), .val (.ref b163), .unset, .unset, .unset, .unset, .unset, .unset, .unset] []) := by
        intro T h locs X eT N K O1 H1 R1 hk1 Va Vb
        show OGo p e below _ T (mkF m 214 #[.val (.int len), .val (.int mode), .val (.long a), .second, .val (.long b), .second, .val (.int (Int32.ofNat (n))), .val (.int s7), .val (.int br), .val (.ref b122), .val (.ref b163), .unset, .unset, .unset, .unset, .unset, .unset, .unset] [])
        refine og (fun _ k => XS.iload X.here hx rfl (hb hby at_214) rfl k) ?_
        show OGo p e below _ T (mkF m 216 #[.val (.int len), .val (.int mode), .val (.long a), .second, .val (.long b), .second, .val (.int (Int32.ofNat (n))), .val (.int s7), .val (.int br), .val (.ref b122), .val (.ref b163), .unset, .unset, .unset, .unset, .unset, .unset, .unset] [(.int (Int32.ofNat (n)))])
        by_cases c : 0 < n
        case neg =>
          refine og (fun _ k => XS.ifYes X.here hx rfl (pc0 := 216) (pc' := 227) rfl (hb hby at_216) rfl ((if0 _ _).trans (flt (fun q => c ((own_lt (a := 0) (by decide) (by omega)).mp q))).2.2.2) (by decide) (by decide) k) ?_
          show OGo p e below _ T (mkF m 227 #[.val (.int len), .val (.int mode), .val (.long a), .second, .val (.long b), .second, .val (.int (Int32.ofNat (n))), .val (.int s7), .val (.int br), .val (.ref b122), .val (.ref b163), .unset, .unset, .unset, .unset, .unset, .unset, .unset] [])
          exact J1 T h locs X eT N K O1 H1 R1 hk1 Va (by rw [← own_tk1 (show ds.length ≤ 0 by omega)]; exact Vb)
        refine og (fun _ k => XS.ifNo X.here hx rfl (hb hby at_216) rfl ((if0 _ _).trans (tlt (show Int32.ofNat 0 < Int32.ofNat n from (own_lt (by decide) (by omega)).mpr c)).2.2.2) k) ?_
        show OGo p e below _ T (mkF m 219 #[.val (.int len), .val (.int mode), .val (.long a), .second, .val (.long b), .second, .val (.int (Int32.ofNat (n))), .val (.int s7), .val (.int br), .val (.ref b122), .val (.ref b163), .unset, .unset, .unset, .unset, .unset, .unset, .unset] [])
        refine og (fun _ k => XS.aload X.here hx rfl (hb hby at_219) rfl rfl k) ?_
        show OGo p e below _ T (mkF m 221 #[.val (.int len), .val (.int mode), .val (.long a), .second, .val (.long b), .second, .val (.int (Int32.ofNat (n))), .val (.int s7), .val (.int br), .val (.ref b122), .val (.ref b163), .unset, .unset, .unset, .unset, .unset, .unset, .unset] [(.ref b163)])
        refine og (fun _ k => XS.iconst X.here hx rfl (hb hby at_221) k) ?_
        show OGo p e below _ T (mkF m 222 #[.val (.int len), .val (.int mode), .val (.long a), .second, .val (.long b), .second, .val (.int (Int32.ofNat (n))), .val (.int s7), .val (.int br), .val (.ref b122), .val (.ref b163), .unset, .unset, .unset, .unset, .unset, .unset, .unset] [(.int (0 : Int32)), (.ref b163)])
        refine og (fun _ k => XS.aload X.here hx rfl (hb hby at_222) rfl rfl k) ?_
        show OGo p e below _ T (mkF m 224 #[.val (.int len), .val (.int mode), .val (.long a), .second, .val (.long b), .second, .val (.int (Int32.ofNat (n))), .val (.int s7), .val (.int br), .val (.ref b122), .val (.ref b163), .unset, .unset, .unset, .unset, .unset, .unset, .unset] [(.ref b122), (.int (0 : Int32)), (.ref b163)])
        refine og (fun _ k => XS.iconst X.here hx rfl (hb hby at_224) k) ?_
        show OGo p e below _ T (mkF m 225 #[.val (.int len), .val (.int mode), .val (.long a), .second, .val (.long b), .second, .val (.int (Int32.ofNat (n))), .val (.int s7), .val (.int br), .val (.ref b122), .val (.ref b163), .unset, .unset, .unset, .unset, .unset, .unset, .unset] [(.int (0 : Int32)), (.ref b122), (.int (0 : Int32)), (.ref b163)])
        refine og (fun _ k => caloadV X hx hZ143 eT Va ⟨by decide, by decide⟩ rfl (g := (mkF m 225 #[.val (.int len), .val (.int mode), .val (.long a), .second, .val (.long b), .second, .val (.int (Int32.ofNat (n))), .val (.int s7), .val (.int br), .val (.ref b122), .val (.ref b163), .unset, .unset, .unset, .unset, .unset, .unset, .unset] [(.int (0 : Int32)), (.ref b122), (.int (0 : Int32)), (.ref b163)])) rfl rfl (hb hby at_225) _ k) ?_
        show OGo p e below _ T (mkF m 226 #[.val (.int len), .val (.int mode), .val (.long a), .second, .val (.long b), .second, .val (.int (Int32.ofNat (n))), .val (.int s7), .val (.int br), .val (.ref b122), .val (.ref b163), .unset, .unset, .unset, .unset, .unset, .unset, .unset] [(.int u0), (.int (0 : Int32)), (.ref b163)])
        have hgt : ds[0]? = some u0 := by rw [hds, List.getElem?_take]; simp [c]
        have Vp : Arv Z h b163 k163 .char (Int32.ofNat n) ((ds.take 0).map Value.int ++ List.replicate 1 (.int (0 : Int32))) (.int (0 : Int32)) := Vb.pad (pad_rep _ _ 1)
        have hlp : (0 : Int32).toNatClampNeg < ((ds.take 0).map Value.int ++ List.replicate 1 (Value.int (0 : Int32))).length := by show 0 < _; simp <;> omega
        obtain ⟨T232, h232, X232, e232, W232, Vq232, st232⟩ := castoreV X hx hZ143 eT Vp (j := (0 : Int32)) ⟨by decide, (show Int32.ofNat 0 < Int32.ofNat n from (own_lt (by decide) (by omega)).mpr c)⟩ hlp (g := (mkF m 226 #[.val (.int len), .val (.int mode), .val (.long a), .second, .val (.long b), .second, .val (.int (Int32.ofNat (n))), .val (.int s7), .val (.int br), .val (.ref b122), .val (.ref b163), .unset, .unset, .unset, .unset, .unset, .unset, .unset] [(.int u0), (.int (0 : Int32)), (.ref b163)])) rfl rfl (hb hby at_226)
        have N232 := Fr.snoc X232 N (Nat.le_trans Z0 sz_b163)
        have KK232 : Keep h0 h232 [] := K.wr W232 (Or.inr sz_b163)
        have H232 := CHv.wr W232 (own_safeA hZ143.alike Vb) H1
        have R232 := CHr.trans R1 (CHr.wr W232 (own_safeA hZ143.alike Vb) H1)
        refine og st232 ?_
        show OGo p e below _ T232 (mkF m 227 #[.val (.int len), .val (.int mode), .val (.long a), .second, .val (.long b), .second, .val (.int (Int32.ofNat (n))), .val (.int s7), .val (.int br), .val (.ref b122), .val (.ref b163), .unset, .unset, .unset, .unset, .unset, .unset, .unset] [])
        rw [show (0 : Int32).toNatClampNeg = 0 from rfl, own_setc hgt (own_narc hu0)] at Vq232
        exact J1 _ _ _ X232 e232 N232 KK232 (O1.wr W232 (Nat.le_trans Z0 sz_b163)) H232 R232 (Nat.le_trans hk1 (Nat.le_of_eq W232.size.symm)) (Va.other W232 nab) Vq232
      have q233 := (((q158.keep K159 all0).wr W160 (Nat.le_trans Z0 sz_b122)).ext E163)
      exact J0 _ _ _ X163 e163 N160 KK163 q233 H163 R163 (Nat.le_trans (Nat.le_trans (Nat.le_trans (Nat.le_trans (Nat.le_trans (Nat.le_trans (Nat.le_trans (Nat.le_trans (Nat.le_trans hk143 (Nat.le_of_eq W144.size.symm)) (Nat.le_of_eq W146.size.symm)) K149.1) (Nat.le_of_eq W150.size.symm)) K154.1) (Nat.le_of_eq W155.size.symm)) K159.1) (Nat.le_of_eq W160.size.symm)) E163.1) (Vc162.ext E163) V163
    by_cases q6 : (((mode.toUInt32 >>> ((5 : Int32) &&& 31).toUInt32).toInt32) &&& (1 : Int32)) = 0
    case neg =>
      refine og (fun _ k => XS.ifNo X144.here hx rfl (hb hby at_142) rfl ((if0 _ _).trans (feq q6).1) k) ?_
      show OGo p e below _ T144 (mkF m 145 #[.val (.int len), .val (.int mode), .val (.long a), .second, .val (.long b), .second, .val (.int (Int32.ofNat (n))), .val (.int s7), .val (.int br), .val (.ref b122), .unset, .unset, .unset, .unset, .unset, .unset, .unset, .unset] [(.int (6 : Int32)), (.ref b122)])
      refine og (fun _ k => XS.bipush X144.here hx rfl (hb hby at_145) k) ?_
      show OGo p e below _ T144 (mkF m 147 #[.val (.int len), .val (.int mode), .val (.long a), .second, .val (.long b), .second, .val (.int (Int32.ofNat (n))), .val (.int s7), .val (.int br), .val (.ref b122), .unset, .unset, .unset, .unset, .unset, .unset, .unset, .unset] [(.int (32 : Int32)), (.int (6 : Int32)), (.ref b122)])
      refine og (fun _ k => XS.goto X144.here hx rfl (pc0 := 147) (pc' := 156) rfl (hb hby at_147) (by decide) (by decide) k) ?_
      show OGo p e below _ T144 (mkF m 156 #[.val (.int len), .val (.int mode), .val (.long a), .second, .val (.long b), .second, .val (.int (Int32.ofNat (n))), .val (.int s7), .val (.int br), .val (.ref b122), .unset, .unset, .unset, .unset, .unset, .unset, .unset, .unset] [(.int (32 : Int32)), (.int (6 : Int32)), (.ref b122)])
      exact K156 32 (by unfold own_c8; decide) _ _ X144 N144 e144
    refine og (fun _ k => XS.ifYes X144.here hx rfl (pc0 := 142) (pc' := 150) rfl (hb hby at_142) rfl ((if0 _ _).trans (teq q6).1) (by decide) (by decide) k) ?_
    show OGo p e below _ T144 (mkF m 150 #[.val (.int len), .val (.int mode), .val (.long a), .second, .val (.long b), .second, .val (.int (Int32.ofNat (n))), .val (.int s7), .val (.int br), .val (.ref b122), .unset, .unset, .unset, .unset, .unset, .unset, .unset, .unset] [(.int (6 : Int32)), (.ref b122)])
    refine og (fun _ k => XS.lloadN X144.here hx rfl (hb hby at_150) rfl k) ?_
    show OGo p e below _ T144 (mkF m 151 #[.val (.int len), .val (.int mode), .val (.long a), .second, .val (.long b), .second, .val (.int (Int32.ofNat (n))), .val (.int s7), .val (.int br), .val (.ref b122), .unset, .unset, .unset, .unset, .unset, .unset, .unset, .unset] [(.long a), (.int (6 : Int32)), (.ref b122)])
    refine og (fun _ k => XS.bipush X144.here hx rfl (hb hby at_151) k) ?_
    show OGo p e below _ T144 (mkF m 153 #[.val (.int len), .val (.int mode), .val (.long a), .second, .val (.long b), .second, .val (.int (Int32.ofNat (n))), .val (.int s7), .val (.int br), .val (.ref b122), .unset, .unset, .unset, .unset, .unset, .unset, .unset, .unset] [(.int (6 : Int32)), (.long a), (.int (6 : Int32)), (.ref b122)])
    obtain ⟨v234, T234, L234, X234, hQ234, st234⟩ := scall X144 hx hZ143 hown143 (own_g hw 6 rfl) (own_g hw 7 rfl) (own_g hw 4 rfl) (own_g hw 8 rfl) (by decide) (W := 2) (rm_raw l Z a0 hw [] a (6 : Int32) h144 ) e144 (by decide) (by decide) (by decide) (by decide) (g := (mkF m 153 #[.val (.int len), .val (.int mode), .val (.long a), .second, .val (.long b), .second, .val (.int (Int32.ofNat (n))), .val (.int s7), .val (.int br), .val (.ref b122), .unset, .unset, .unset, .unset, .unset, .unset, .unset, .unset] [(.int (6 : Int32)), (.long a), (.int (6 : Int32)), (.ref b122)])) rfl (by rw [hml]; rfl) (argsL := [(.long a), (.int (6 : Int32))]) (rest := [(.int (6 : Int32)), (.ref b122)]) opd_9 rfl rfl rfl (by show 2 * 0 + _ ≤ _; exact Nat.le_of_eq rfl) (hb hby at_153)
    obtain ⟨r6, rfl, hr6, rfl, e234⟩ := hQ234
    rw [List.append_nil] at X234
    refine og st234 ?_
    show OGo p e below _ T234 (mkF m 156 #[.val (.int len), .val (.int mode), .val (.long a), .second, .val (.long b), .second, .val (.int (Int32.ofNat (n))), .val (.int s7), .val (.int br), .val (.ref b122), .unset, .unset, .unset, .unset, .unset, .unset, .unset, .unset] [(.int r6), (.int (6 : Int32)), (.ref b122)])
    exact K156 r6 hr6 _ _ X234 N144 e234
  have K20 : ∀ (s7 : Int32) (T : State) (locs : List Loc), Stand p l e room_1 (s.setVm s.vm) m #[(.int len), (.int mode), (.long a), (.long b)] below meth c T locs 0 0 → Fr n0 locs → T.heap = h0 → OGo p e below (EndH Z own_EL s room_1 (own_Q n0)) T (mkF m 20 #[.val (.int len), .val (.int mode), .val (.long a), .second, .val (.long b), .second, .val (.int (Int32.ofNat (n))), .unset, .unset, .unset, .unset, .unset, .unset, .unset, .unset, .unset, .unset, .unset] [(.int s7)]) := by
    intro s7 T locs X N eT
    show OGo p e below _ T (mkF m 20 #[.val (.int len), .val (.int mode), .val (.long a), .second, .val (.long b), .second, .val (.int (Int32.ofNat (n))), .unset, .unset, .unset, .unset, .unset, .unset, .unset, .unset, .unset, .unset, .unset] [(.int s7)])
    refine og (fun _ k => XS.istore X.here hx rfl (hb hby at_20) rfl (l' := #[.val (.int len), .val (.int mode), .val (.long a), .second, .val (.long b), .second, .val (.int (Int32.ofNat (n))), .val (.int s7), .unset, .unset, .unset, .unset, .unset, .unset, .unset, .unset, .unset, .unset]) rfl k) ?_
    show OGo p e below _ T (mkF m 22 #[.val (.int len), .val (.int mode), .val (.long a), .second, .val (.long b), .second, .val (.int (Int32.ofNat (n))), .val (.int s7), .unset, .unset, .unset, .unset, .unset, .unset, .unset, .unset, .unset, .unset] [])
    refine og (fun _ k => XS.iloadN X.here hx rfl (hb hby at_22) rfl k) ?_
    show OGo p e below _ T (mkF m 23 #[.val (.int len), .val (.int mode), .val (.long a), .second, .val (.long b), .second, .val (.int (Int32.ofNat (n))), .val (.int s7), .unset, .unset, .unset, .unset, .unset, .unset, .unset, .unset, .unset, .unset] [(.int mode)])
    refine og (fun _ k => XS.iconst X.here hx rfl (hb hby at_23) k) ?_
    show OGo p e below _ T (mkF m 24 #[.val (.int len), .val (.int mode), .val (.long a), .second, .val (.long b), .second, .val (.int (Int32.ofNat (n))), .val (.int s7), .unset, .unset, .unset, .unset, .unset, .unset, .unset, .unset, .unset, .unset] [(.int (2 : Int32)), (.int mode)])
    refine og (fun _ k => XS.iand X.here hx rfl (hb hby at_24) rfl k) ?_
    show OGo p e below _ T (mkF m 25 #[.val (.int len), .val (.int mode), .val (.long a), .second, .val (.long b), .second, .val (.int (Int32.ofNat (n))), .val (.int s7), .unset, .unset, .unset, .unset, .unset, .unset, .unset, .unset, .unset, .unset] [(.int (mode &&& (2 : Int32)))])
    by_cases q : (mode &&& (2 : Int32)) = 0
    case pos =>
      refine og (fun _ k => XS.ifYes X.here hx rfl (pc0 := 25) (pc' := 40) rfl (hb hby at_25) rfl ((if0 _ _).trans (teq q).1) (by decide) (by decide) k) ?_
      show OGo p e below _ T (mkF m 40 #[.val (.int len), .val (.int mode), .val (.long a), .second, .val (.long b), .second, .val (.int (Int32.ofNat (n))), .val (.int s7), .unset, .unset, .unset, .unset, .unset, .unset, .unset, .unset, .unset, .unset] [])
      refine og (fun _ k => XS.iconst X.here hx rfl (hb hby at_40) k) ?_
      show OGo p e below _ T (mkF m 41 #[.val (.int len), .val (.int mode), .val (.long a), .second, .val (.long b), .second, .val (.int (Int32.ofNat (n))), .val (.int s7), .unset, .unset, .unset, .unset, .unset, .unset, .unset, .unset, .unset, .unset] [(.int (-1 : Int32))])
      exact K41 s7 (-1 : Int32) _ _ X N eT
    refine og (fun _ k => XS.ifNo X.here hx rfl (hb hby at_25) rfl ((if0 _ _).trans (feq q).1) k) ?_
    show OGo p e below _ T (mkF m 28 #[.val (.int len), .val (.int mode), .val (.long a), .second, .val (.long b), .second, .val (.int (Int32.ofNat (n))), .val (.int s7), .unset, .unset, .unset, .unset, .unset, .unset, .unset, .unset, .unset, .unset] [])
    refine og (fun _ k => XS.iloadN X.here hx rfl (hb hby at_28) rfl k) ?_
    show OGo p e below _ T (mkF m 29 #[.val (.int len), .val (.int mode), .val (.long a), .second, .val (.long b), .second, .val (.int (Int32.ofNat (n))), .val (.int s7), .unset, .unset, .unset, .unset, .unset, .unset, .unset, .unset, .unset, .unset] [(.int mode)])
    refine og (fun _ k => XS.iconst X.here hx rfl (hb hby at_29) k) ?_
    show OGo p e below _ T (mkF m 30 #[.val (.int len), .val (.int mode), .val (.long a), .second, .val (.long b), .second, .val (.int (Int32.ofNat (n))), .val (.int s7), .unset, .unset, .unset, .unset, .unset, .unset, .unset, .unset, .unset, .unset] [(.int (2 : Int32)), (.int mode)])
    refine og (fun _ k => XS.iushr X.here hx rfl (hb hby at_30) rfl k) ?_
    show OGo p e below _ T (mkF m 31 #[.val (.int len), .val (.int mode), .val (.long a), .second, .val (.long b), .second, .val (.int (Int32.ofNat (n))), .val (.int s7), .unset, .unset, .unset, .unset, .unset, .unset, .unset, .unset, .unset, .unset] [(.int ((mode.toUInt32 >>> ((2 : Int32) &&& 31).toUInt32).toInt32))])
    refine og (fun _ k => XS.bipush X.here hx rfl (hb hby at_31) k) ?_
    show OGo p e below _ T (mkF m 33 #[.val (.int len), .val (.int mode), .val (.long a), .second, .val (.long b), .second, .val (.int (Int32.ofNat (n))), .val (.int s7), .unset, .unset, .unset, .unset, .unset, .unset, .unset, .unset, .unset, .unset] [(.int (7 : Int32)), (.int ((mode.toUInt32 >>> ((2 : Int32) &&& 31).toUInt32).toInt32))])
    refine og (fun _ k => XS.iand X.here hx rfl (hb hby at_33) rfl k) ?_
    show OGo p e below _ T (mkF m 34 #[.val (.int len), .val (.int mode), .val (.long a), .second, .val (.long b), .second, .val (.int (Int32.ofNat (n))), .val (.int s7), .unset, .unset, .unset, .unset, .unset, .unset, .unset, .unset, .unset, .unset] [(.int (((mode.toUInt32 >>> ((2 : Int32) &&& 31).toUInt32).toInt32) &&& (7 : Int32)))])
    refine og (fun _ k => XS.bipush X.here hx rfl (hb hby at_34) k) ?_
    show OGo p e below _ T (mkF m 36 #[.val (.int len), .val (.int mode), .val (.long a), .second, .val (.long b), .second, .val (.int (Int32.ofNat (n))), .val (.int s7), .unset, .unset, .unset, .unset, .unset, .unset, .unset, .unset, .unset, .unset] [(.int (6 : Int32)), (.int (((mode.toUInt32 >>> ((2 : Int32) &&& 31).toUInt32).toInt32) &&& (7 : Int32)))])
    refine og (fun _ k => iremM X hx rfl (hb hby at_36) rfl (by decide) k) ?_
    show OGo p e below _ T (mkF m 37 #[.val (.int len), .val (.int mode), .val (.long a), .second, .val (.long b), .second, .val (.int (Int32.ofNat (n))), .val (.int s7), .unset, .unset, .unset, .unset, .unset, .unset, .unset, .unset, .unset, .unset] [(.int ((((mode.toUInt32 >>> ((2 : Int32) &&& 31).toUInt32).toInt32) &&& (7 : Int32)) % (6 : Int32)))])
    refine og (fun _ k => XS.goto X.here hx rfl (pc0 := 37) (pc' := 41) rfl (hb hby at_37) (by decide) (by decide) k) ?_
    show OGo p e below _ T (mkF m 41 #[.val (.int len), .val (.int mode), .val (.long a), .second, .val (.long b), .second, .val (.int (Int32.ofNat (n))), .val (.int s7), .unset, .unset, .unset, .unset, .unset, .unset, .unset, .unset, .unset, .unset] [(.int ((((mode.toUInt32 >>> ((2 : Int32) &&& 31).toUInt32).toInt32) &&& (7 : Int32)) % (6 : Int32)))])
    exact K41 s7 ((((mode.toUInt32 >>> ((2 : Int32) &&& 31).toUInt32).toInt32) &&& (7 : Int32)) % (6 : Int32)) _ _ X N eT
  by_cases q : (mode &&& (1 : Int32)) = 0
  case pos =>
    refine og (fun _ k => XS.ifYes X0.here hx rfl (pc0 := 12) (pc' := 19) rfl (hb hby at_12) rfl ((if0 _ _).trans (teq q).1) (by decide) (by decide) k) ?_
    show OGo p e below _ s₁ (mkF m 19 #[.val (.int len), .val (.int mode), .val (.long a), .second, .val (.long b), .second, .val (.int (Int32.ofNat (n))), .unset, .unset, .unset, .unset, .unset, .unset, .unset, .unset, .unset, .unset, .unset] [])
    refine og (fun _ k => XS.iconst X0.here hx rfl (hb hby at_19) k) ?_
    show OGo p e below _ s₁ (mkF m 20 #[.val (.int len), .val (.int mode), .val (.long a), .second, .val (.long b), .second, .val (.int (Int32.ofNat (n))), .unset, .unset, .unset, .unset, .unset, .unset, .unset, .unset, .unset, .unset, .unset] [(.int (0 : Int32))])
    exact K20 0 _ _ X0 N0 e0
  refine og (fun _ k => XS.ifNo X0.here hx rfl (hb hby at_12) rfl ((if0 _ _).trans (feq q).1) k) ?_
  show OGo p e below _ s₁ (mkF m 15 #[.val (.int len), .val (.int mode), .val (.long a), .second, .val (.long b), .second, .val (.int (Int32.ofNat (n))), .unset, .unset, .unset, .unset, .unset, .unset, .unset, .unset, .unset, .unset, .unset] [])
  refine og (fun _ k => XS.iconst X0.here hx rfl (hb hby at_15) k) ?_
  show OGo p e below _ s₁ (mkF m 16 #[.val (.int len), .val (.int mode), .val (.long a), .second, .val (.long b), .second, .val (.int (Int32.ofNat (n))), .unset, .unset, .unset, .unset, .unset, .unset, .unset, .unset, .unset, .unset, .unset] [(.int (1 : Int32))])
  refine og (fun _ k => XS.goto X0.here hx rfl (pc0 := 16) (pc' := 20) rfl (hb hby at_16) (by decide) (by decide) k) ?_
  show OGo p e below _ s₁ (mkF m 20 #[.val (.int len), .val (.int mode), .val (.long a), .second, .val (.long b), .second, .val (.int (Int32.ofNat (n))), .unset, .unset, .unset, .unset, .unset, .unset, .unset, .unset, .unset, .unset, .unset] [(.int (1 : Int32))])
  exact K20 1 _ _ X0 N0 e0
theorem own_tblA {Z : State} {args : Array Value} {C n d : String} {a : Addr} {k : Nat} {vs : List Int32} (hvs : vs.length = k) (hk : k < 2147483648) (ea : (Term.static C n d).eval args Z none [] Z = some (.ref a)) (hA : (Cond.arrayOf (.static C n d) .int).before args Z = true) (hL : (Cond.eq (.length (.static C n d)) (.int (Int32.ofNat k))).before args Z = true) (hE : ∀ i, i < k → (Cond.eq (.elem (.static C n d) (.int (Int32.ofNat i))) (.int (vs.getD i 0))).before args Z = true) : ∃ kd, Arv Z Z.heap a kd .int (Int32.ofNat k) (vs.map Value.int) (.int (0 : Int32)) := by
  obtain ⟨cell, A⟩ := Arr.start ea (Cond.before_iff.mp hA)
  have hL' := Cond.before_iff.mp hL
  obtain ⟨x, y, e1, e2, -, -⟩ := cmp_v (Or.inl hL')
  obtain ⟨b, c2, eb, hb, rfl⟩ := Term.length_spec e1
  cases ea.symm.trans eb
  cases (A.fin (Vm.Alike.refl _)).symm.trans hb
  have hlt := Jvm.Free.SBG.length_lt ea hb e1
  have hsz : cell.slots.size.toInt32 = Int32.ofNat k := gotT (Cond.eq_ints e1 (Term.int_eval (Int32.ofNat k))) hL'
  have hs : cell.slots.size = k := by
    have q := congrArg Int32.toNatClampNeg hsz
    rw [own_cl hk, show cell.slots.size.toInt32 = Int32.ofNat cell.slots.size from rfl, own_cl (by omega)] at q
    exact q
  have key : ∀ i, i < k → cell.slots[i]? = some (.int (vs.getD i 0)) := fun i hi => by
    have u := Cond.before_iff.mp (hE i hi)
    obtain ⟨x, y, e3, e4, k1, k2⟩ := cmp_v (Or.inl u)
    cases (Term.int_eval (vs.getD i 0)).symm.trans e4
    have e5 := (elem_f (j := Int32.ofNat i) ea (Term.int_eval (Int32.ofNat i)) (A.fin (Vm.Alike.refl _)) (own_nn (by omega))).symm.trans e3
    rw [own_cl (by omega)] at e5
    obtain ⟨z, rfl⟩ : ∃ z, x = .int z := k2
    have := gotT (Cond.eq_ints e3 (Term.int_eval (vs.getD i 0))) u
    rw [e5, this]
  have hg : ∀ i, i < k → (vs.map Value.int).getD i (.int (0 : Int32)) = .int (vs.getD i 0) := fun i hi => by simp [List.getD, hvs, hi]
  refine ⟨cell.cls, cell, A, rfl, by rw [hs, own_cl hk], own_nn hk, fun i hi => ?_, fun i hi => ?_⟩
  · rw [hs] at hi; rw [hg i hi]; exact key i hi
  · rw [hs] at hi; rw [hg i hi]; rfl
def own_jW (i : Nat) : Jvm.Cond := .eq (.elem (.static "java/lang/CharacterDataLatin1" "A" "[I") (.int (Int32.ofNat i))) (.int (own_A.getD i 0))
set_option maxRecDepth 65536 in
theorem own_jA : (jdkStatics_1.drop 17).take 256 = (List.range 256).map own_jW := by rfl
theorem own_jAt {i : Nat} (h : i < 256) : own_jW i ∈ jdkStatics_1 := by
  have q : own_jW i ∈ (jdkStatics_1.drop 17).take 256 := by rw [own_jA]; exact List.mem_map_of_mem (List.mem_range.mpr h)
  exact List.mem_of_mem_drop (List.mem_of_mem_take q)
theorem comes_1 {Post : Tables → Env → Array Value → State → Outcome → State → Prop} (hpost : ∀ tb e args s v u, (limb_1_1.after args s (.returned v) u = true ∧ limb_1_2.after args s (.returned v) u = true ∧ True) → ReturnedEndW s (.returned v) u (Jvm.fieldLocs frame_1_writes args s ++ Jvm.arrayLocs frame_1_arrays args s ++ Jvm.staticLocs frame_1_statics s) 40 5376 → Post tb e args s (.returned v) u) :
    ArmFor flags0 classFile x code maxLocals ret World_1 tables_1 room_1 Calls_1 rest_1 Pre_1 Post := by
  intro l hfl _ _ p e ha hc hk s m args below hf hA hF happ hP
  obtain ⟨hcalls, hrest, hpre⟩ := hP
  obtain ⟨-, -, -, hnamed, -, -, -, hat⟩ := (Spec.applies_iff hf).mp happ
  obtain ⟨hg, hn⟩ := and_e (Cond.before_iff.mp (show (Jvm.Cond.and given_1 narrow_1).before args s = true from hpre))
  obtain ⟨g1, g2⟩ := and_e hg
  obtain ⟨g3, g4⟩ := and_e g2
  obtain ⟨g5, g6⟩ := and_e g4
  obtain ⟨g7, g8⟩ := and_e g6
  obtain ⟨w0, w1, w2, w3, rfl⟩ : ∃ w0 w1 w2 w3 : Value, args = #[w0, w1, w2, w3] := by
    have hs : args.size = 4 := by simpa [Cond.value, given_1] using g1
    obtain ⟨L⟩ := args
    match L, hs with
    | [w0, w1, w2, w3], _ => exact ⟨w0, w1, w2, w3, rfl⟩
  have hw := fun d (hd : d ∈ tables_1) => atoms_spec (ws := Jvm.Cond.code x code maxLocals ret :: tables_1) hat d (List.mem_cons_of_mem _ hd)
  obtain ⟨i0, ei0⟩ := is_v g3
  obtain rfl : w0 = (.int i0) := Option.some.inj ei0
  obtain ⟨i1, ei1⟩ := is_v g5
  obtain rfl : w1 = (.int i1) := Option.some.inj ei1
  obtain ⟨i2, ei2⟩ := isL_v g7
  obtain rfl : w2 = (.long i2) := Option.some.inj ei2
  obtain ⟨i3, ei3⟩ := isL_v g8
  obtain rfl : w3 = (.long i3) := Option.some.inj ei3
  obtain ⟨hsets, hown0⟩ := atoms_of _ (rest_1_c_eq ▸ (show rest_1_c.before _ s = true from hrest))
  have n3 := not_v (Cond.before_iff.mp (hsets _ (List.mem_of_getElem? (i := 2) rfl)))
  obtain ⟨zc, e6⟩ := is_v (Cond.before_iff.mp (hsets _ (List.mem_of_getElem? (i := 1) rfl)))
  have S8 : Sta s s.heap "java/lang/String" "COMPACT_STRINGS" "Z" (.int zc) := Sta.start e6 (Or.inl (hsets _ (List.mem_of_getElem? (i := 0) rfl)))
  obtain ⟨wf, e10, r11⟩ := isR_v (Cond.before_iff.mp (hsets _ (List.mem_of_getElem? (i := 8) rfl)))
  have S12 : Sta s s.heap "jdk/internal/util/Preconditions" "SIOOBE_FORMATTER" "Ljava/util/function/BiFunction;" wf := Sta.start e10 (Or.inl (hsets _ (List.mem_of_getElem? (i := 7) rfl)))
  have c13 : ¬ (zc = (0 : Int32)) := gotF (Cond.eq_ints e6 (Term.int_eval (0))) n3
  have SS : own_SS s zc wf := ⟨c13, S8, r11, S12⟩
  have H0 : CHv s own_EL s.vm s.heap := CHv.start (own_hEL hw) (fun p hp => hcalls.1 p hp) (hsets _ (List.mem_of_getElem? (i := 2) rfl)) (own_g hw 13 rfl) (own_g hw 12 rfl)
  obtain ⟨ic, eic⟩ := exa_v (Cond.before_iff.mp (hsets _ (List.mem_of_getElem? (i := 11) rfl)))
  have Xic : Exa s s.heap ic "java/lang/CharacterDataLatin1" := exa_at eic (Cond.before_iff.mp (hsets _ (List.mem_of_getElem? (i := 11) rfl)))
  have Sic : Sta s s.heap "java/lang/CharacterDataLatin1" "instance" "Ljava/lang/CharacterDataLatin1;" (.ref ic) := Sta.start eic (Or.inl (hsets _ (List.mem_of_getElem? (i := 10) rfl)))
  obtain ⟨dA, eA⟩ := exa_v (Cond.before_iff.mp (hsets _ (List.mem_of_getElem? (i := 15) rfl)))
  obtain ⟨kA, VA⟩ := own_tblA (vs := own_A) (k := 256) rfl (by decide) eA (hsets _ (List.mem_of_getElem? (i := 14) rfl)) (hsets _ (List.mem_of_getElem? (i := 16) rfl)) (fun i hi => hsets _ (own_jAt hi))
  have SA : Sta s s.heap "java/lang/CharacterDataLatin1" "A" "[I" (.ref dA) := Sta.start eA (Or.inl (hsets _ (List.mem_of_getElem? (i := 13) rfl)))
  have SCk : own_SC s ic dA kA := ⟨Sic, Xic, SA, VA⟩
  obtain ⟨n, o, h1, h2, h3, _, L, rfl, ⟨rfl, N⟩, hC, hq⟩ := rm_law l s _ hw tables_1 i0 i1 i2 i3 zc wf s.heap.size ic dA kA s.heap SS (Old.start s) SCk p e ha hc hk s m _ below hf ((Spec.applies_iff_loose hf).mp happ).1 ⟨rfl, State.Warmed39.refl s, rfl, H0⟩ trivial
  refine ⟨n, _, h1, h2, h3, hpost _ _ _ _ _ _ ⟨Cond.after_iff.mpr rfl, Cond.after_iff.mpr (eq_i res_at (Term.int_eval (1)) rfl), trivial⟩ ⟨hq.1, hq.2.1, hq.2.2.1, (hq.2.2.2.sift fun y hy => Or.inr (N y hy)).mono (by decide) (by decide)⟩⟩
theorem main_1_1 : Claimed_1_1 := comes_1 fun _ _ _ _ _ _ h hF => ⟨h.1, hF⟩
theorem main_1_2 : Claimed_1_2 := comes_1 fun _ _ _ _ _ _ h hF => ⟨h.2.1, hF⟩
end Jvm.Pilot.@@N@@
namespace Jvm.Pilot.@@N@@
open Jvm Jvm.ClassFile Sem Op Lib Jvm.Free Jvm.Stand Jvm.Pilot.@@N@@.Jvm.D
/-! MADE BY PROGRAM (witnessworld.py) out of the Statement's table words and the real class files: 24 classes; the members and pool entries that the words name. The judged class is class 1, her method 6. -/
namespace start1
open Jvm.ClassFile
def u (s : String) : CpInfo := .utf8 (stringToUtf16 s)
/-- a pool by its gaps: so many unusable entries, then the entry; so many at the end -/
def gap : Nat → List CpInfo → List CpInfo
  | 0, r => r
  | n + 1, r => .unusable :: gap n r
def poolList (es : List (Nat × CpInfo)) (last : Nat) : List CpInfo := es.foldr (fun e r => gap e.1 (e.2 :: r)) (gap last [])
def pool (es : List (Nat × CpInfo)) (last : Nat) : Array CpInfo := ⟨poolList es last⟩
def fileOf (pool : Array CpInfo) (this : Nat) (attrs : Array Attribute := #[]) (ms : Array MethodInfo := #[]) (fl : Nat := 33) (sup : Nat := 0) (ifs : Array Nat := #[]) (fds : Array FieldInfo := #[]) : ClassFile where
  minorVersion := 0
  majorVersion := 65
  constantPool := pool
  accessFlags := fl
  thisClass := this
  superClass := sup
  interfaces := ifs
  fields := fds
  methods := ms
  attributes := attrs
def plain (name : String) (sup : Option ClassId) : Class where
  name := name
  kind := .ordinary
  loader := none
  accessFlags := 33
  super := sup
  interfaces := #[]
  cf := none
  fields := #[]
  methods := #[]
  instanceTypes := #[]
  staticTypes := #[]
  resolved := #[]
  callSites := []
  init := .initialized
  statics := none
  mirror := none

def pool0 : Array CpInfo := pool [(5, u "<init>"), (0, u "()V"), (1, .class_ 10), (1, u "java/lang/Object")] 113

def k0c0 : Code := { maxStack := 0, maxLocals := 1, code := object_method_1_code, exceptionTable := #[], attributes := #[] }
def k0m0 : Method := { name := "<init>", desc := "()V", sig := { parameters := [], returnType := none }, accessFlags := 1, code := some k0c0 }
/-- java/lang/Object -/
def k0 : Class := { plain "java/lang/Object" none with
  accessFlags := 33
  interfaces := #[]
  cf := some (fileOf pool0 8 #[] #[{ accessFlags := 1, nameIndex := 5, descriptorIndex := 6, attributes := #[] }] 33 0 #[] #[])
  fields := #[]
  methods := #[k0m0]
  instanceTypes := #[]
  staticTypes := #[]
  resolved := Array.replicate 124 none
  statics := none }

def pool1 : Array CpInfo := pool [(2, .class_ 4), (1, u "java/lang/Object"), (0, u "<init>"), (0, u "()V"), (0, .long 255), (1, .string 10), (0, u "bearer"), (0, .methodref 12 13), (0, .class_ 14), (0, .nameAndType 15 16), (0, u "java/lang/String"), (0, u "charAt"), (0, u "(I)C"), (0, .string 18), (0, u "BEARER"), (0, .methodref 20 21), (0, .class_ 22), (0, .nameAndType 23 24), (0, u "com/example/provisa/provisa/server/BearerTokensPresentedTokenPinLaw"), (0, u "raw"), (0, u "(JI)C"), (0, .integer 2147483647), (0, .methodref 20 27), (0, .nameAndType 28 29), (0, u "head"), (0, u "(IZIIJ)C"), (0, .methodref 20 31), (0, .nameAndType 32 33), (0, u "tail"), (0, u "(CII)C"), (0, .methodref 12 35), (0, .nameAndType 5 36), (0, u "([C)V"), (0, .methodref 38 39), (0, .class_ 40), (0, .nameAndType 41 42), (0, u "com/example/provisa/provisa/server/BearerTokens"), (0, u "presentedToken"), (0, u "(Ljava/lang/String;)Ljava/lang/String;"), (0, .methodref 20 44), (0, .nameAndType 45 46), (0, u "ci"), (0, u "(CI)Z"), (0, .methodref 20 48), (0, .nameAndType 49 50), (0, u "ws"), (0, u "(C)Z"), (0, .methodref 12 52), (0, .nameAndType 53 54), (0, u "length"), (0, u "()I"), (3, u "law"), (0, u "(IIJJ)Z")] 4

def k1m0 : Method := { name := "<init>", desc := "()V", sig := { parameters := [], returnType := none }, accessFlags := 1, code := none }
def k1c1 : Code := { maxStack := 4, maxLocals := 3, code := method_2_code, exceptionTable := #[], attributes := #[] }
def k1m1 : Method := { name := "raw", desc := "(JI)C", sig := { parameters := [.long, .int], returnType := some .char }, accessFlags := 10, code := some k1c1 }
def k1c2 : Code := { maxStack := 2, maxLocals := 1, code := method_3_code, exceptionTable := #[], attributes := #[] }
def k1m2 : Method := { name := "ws", desc := "(C)Z", sig := { parameters := [.char], returnType := some .boolean }, accessFlags := 10, code := some k1c2 }
def k1c3 : Code := { maxStack := 3, maxLocals := 2, code := method_4_code, exceptionTable := #[], attributes := #[] }
def k1m3 : Method := { name := "ci", desc := "(CI)Z", sig := { parameters := [.char, .int], returnType := some .boolean }, accessFlags := 10, code := some k1c3 }
def k1c4 : Code := { maxStack := 3, maxLocals := 6, code := method_5_code, exceptionTable := #[], attributes := #[] }
def k1m4 : Method := { name := "head", desc := "(IZIIJ)C", sig := { parameters := [.int, .boolean, .int, .int, .long], returnType := some .char }, accessFlags := 10, code := some k1c4 }
def k1c5 : Code := { maxStack := 4, maxLocals := 4, code := method_6_code, exceptionTable := #[], attributes := #[] }
def k1m5 : Method := { name := "tail", desc := "(CII)C", sig := { parameters := [.char, .int, .int], returnType := some .char }, accessFlags := 10, code := some k1c5 }
def k1c6 : Code := { maxStack := 8, maxLocals := 18, code := code, exceptionTable := #[], attributes := #[] }
def k1m6 : Method := { name := "law", desc := "(IIJJ)Z", sig := { parameters := [.int, .int, .long, .long], returnType := some .boolean }, accessFlags := 9, code := some k1c6 }
/-- com/example/provisa/provisa/server/BearerTokensPresentedTokenPinLaw -/
def k1 : Class := { plain "com/example/provisa/provisa/server/BearerTokensPresentedTokenPinLaw" (some 0) with
  accessFlags := 49
  interfaces := #[]
  cf := some (fileOf pool1 20 #[] #[{ accessFlags := 1, nameIndex := 5, descriptorIndex := 6, attributes := #[] }, { accessFlags := 10, nameIndex := 23, descriptorIndex := 24, attributes := #[] }, { accessFlags := 10, nameIndex := 49, descriptorIndex := 50, attributes := #[] }, { accessFlags := 10, nameIndex := 45, descriptorIndex := 46, attributes := #[] }, { accessFlags := 10, nameIndex := 28, descriptorIndex := 29, attributes := #[] }, { accessFlags := 10, nameIndex := 32, descriptorIndex := 33, attributes := #[] }, { accessFlags := 9, nameIndex := 58, descriptorIndex := 59, attributes := #[] }] 49 2 #[] #[])
  fields := #[]
  methods := #[k1m0, k1m1, k1m2, k1m3, k1m4, k1m5, k1m6]
  instanceTypes := #[]
  staticTypes := #[]
  resolved := Array.replicate 64 none
  statics := none }

def pool2 : Array CpInfo := pool [(1, .class_ 2), (0, u "java/io/Serializable"), (0, .class_ 4), (0, u "java/lang/Object")] 2

/-- java/io/Serializable -/
def k2 : Class := { plain "java/io/Serializable" (some 0) with
  accessFlags := 1537
  interfaces := #[]
  cf := some (fileOf pool2 1 #[] #[] 1537 3 #[] #[])
  fields := #[]
  methods := #[]
  instanceTypes := #[]
  staticTypes := #[]
  resolved := Array.replicate 7 none
  statics := none }

def pool3 : Array CpInfo := pool [(1, .class_ 2), (0, u "java/lang/Comparable"), (0, .class_ 4), (0, u "java/lang/Object")] 7

/-- java/lang/Comparable -/
def k3 : Class := { plain "java/lang/Comparable" (some 0) with
  accessFlags := 1537
  interfaces := #[]
  cf := some (fileOf pool3 1 #[] #[] 1537 3 #[] #[])
  fields := #[]
  methods := #[]
  instanceTypes := #[]
  staticTypes := #[]
  resolved := Array.replicate 12 none
  statics := none }

def pool4 : Array CpInfo := pool [(2, .class_ 4), (1, u "java/lang/CharSequence"), (42, .class_ 48), (0, u "java/lang/CharSequence$1CodePointIterator"), (10, .class_ 60), (0, u "java/lang/CharSequence$1CharIterator"), (5, .class_ 67), (0, u "java/lang/Object")] 63

/-- java/lang/CharSequence -/
def k4 : Class := { plain "java/lang/CharSequence" (some 0) with
  accessFlags := 1537
  interfaces := #[]
  cf := some (fileOf pool4 2 #[.nestMembers #[47, 59]] #[] 1537 66 #[] #[])
  fields := #[]
  methods := #[]
  instanceTypes := #[]
  staticTypes := #[]
  resolved := Array.replicate 131 none
  statics := none }

def pool5 : Array CpInfo := pool [(1, .class_ 2), (0, u "java/lang/constant/Constable"), (0, .class_ 4), (0, u "java/lang/Object")] 6

/-- java/lang/constant/Constable -/
def k5 : Class := { plain "java/lang/constant/Constable" (some 0) with
  accessFlags := 1537
  interfaces := #[]
  cf := some (fileOf pool5 1 #[] #[] 1537 3 #[] #[])
  fields := #[]
  methods := #[]
  instanceTypes := #[]
  staticTypes := #[]
  resolved := Array.replicate 11 none
  statics := none }

def pool6 : Array CpInfo := pool [(1, .class_ 2), (0, u "java/lang/constant/ConstantDesc"), (0, .class_ 4), (0, u "java/lang/Object")] 32

/-- java/lang/constant/ConstantDesc -/
def k6 : Class := { plain "java/lang/constant/ConstantDesc" (some 0) with
  accessFlags := 1537
  interfaces := #[]
  cf := some (fileOf pool6 1 #[] #[] 1537 3 #[] #[])
  fields := #[]
  methods := #[]
  instanceTypes := #[]
  staticTypes := #[]
  resolved := Array.replicate 37 none
  statics := none }

def pool7 : Array CpInfo := pool [(1, .methodref 2 3), (0, .class_ 4), (0, .nameAndType 5 6), (0, u "java/lang/Object"), (0, u "<init>"), (0, u "()V"), (0, .string 8), (0, u ""), (0, .fieldref 10 11), (0, .class_ 12), (0, .nameAndType 13 14), (0, u "java/lang/String"), (0, u "value"), (0, u "[B"), (0, .fieldref 10 16), (0, .nameAndType 17 18), (0, u "coder"), (0, u "B"), (2, u "hash"), (0, u "I"), (2, u "hashIsZero"), (0, u "Z"), (0, .methodref 10 28), (0, .nameAndType 5 29), (0, u "([CIILjava/lang/Void;)V"), (8, .fieldref 10 39), (0, .nameAndType 40 26), (0, u "COMPACT_STRINGS"), (1, .class_ 44), (1, u "java/lang/StringUTF16"), (0, u "compress"), (1, .methodref 42 48), (0, .nameAndType 49 50), (0, u "coderFromArrayLen"), (0, u "([BI)B"), (56, .class_ 109), (1, u "java/lang/StringLatin1"), (32, u "()Z"), (34, .methodref 42 178), (0, .nameAndType 45 179), (0, u "([CII)[B"), (31, u "([BB)V"), (122, u "()I"), (0, .methodref 10 336), (0, .nameAndType 17 337), (0, u "()B"), (25, u "([BI)C"), (27, u "(II)V"), (35, u "(I)C"), (36, u "()Ljava/lang/String;"), (27, .methodref 10 493), (0, .nameAndType 494 142), (0, u "isLatin1"), (0, .methodref 107 496), (0, .nameAndType 497 363), (0, u "charAt"), (3, u "checkIndex"), (3, .methodref 10 506), (0, .nameAndType 507 334), (0, u "length"), (5, u "checkFromToIndex"), (7, .methodref 10 522), (0, .nameAndType 523 524), (0, u "checkBoundsBeginEnd"), (0, u "(III)V"), (50, .class_ 576), (0, u "java/lang/CharSequence"), (7, u "regionMatches"), (0, u "(ZILjava/lang/String;II)Z"), (13, u "CASE_INSENSITIVE_ORDER"), (0, u "Ljava/util/Comparator;"), (12, .methodref 107 614), (0, .nameAndType 615 616), (0, u "regionMatchesCI"), (0, u "([BI[BII)Z"), (64, .methodref 10 682), (0, .nameAndType 683 684), (0, u "substring"), (0, u "(II)Ljava/lang/String;"), (0, .methodref 107 686), (0, .nameAndType 687 688), (0, u "newString"), (0, u "([BII)Ljava/lang/String;"), (173, u "([B)Ljava/lang/String;"), (1, .methodref 107 865), (0, .nameAndType 866 862), (0, u "strip"), (25, u "(I)Ljava/lang/String;"), (117, u "([C)V"), (42, .fieldref 1054 1055), (0, .class_ 1056), (0, .nameAndType 1057 1058), (0, u "jdk/internal/util/Preconditions"), (0, u "SIOOBE_FORMATTER"), (0, u "Ljava/util/function/BiFunction;"), (0, .methodref 1054 1060), (0, .nameAndType 501 1061), (0, u "(IILjava/util/function/BiFunction;)I"), (0, .methodref 1054 1063), (0, .nameAndType 513 1064), (0, u "(IIILjava/util/function/BiFunction;)I"), (36, u "serialPersistentFields"), (0, u "[Ljava/io/ObjectStreamField;"), (0, .class_ 1104), (0, u "java/lang/String$CaseInsensitiveComparator"), (1, .class_ 1107), (0, u "java/io/Serializable"), (0, .class_ 1109), (0, u "java/lang/Comparable"), (0, .class_ 1111), (0, u "java/lang/constant/Constable"), (0, .class_ 1113), (0, u "java/lang/constant/ConstantDesc"), (2, u "serialVersionUID"), (0, u "J"), (3, u "REPL"), (0, u "C"), (2, u "LATIN1"), (1, u "UTF16")] 323

def k7m0 : Method := { name := "<init>", desc := "()V", sig := { parameters := [], returnType := none }, accessFlags := 1, code := none }
def k7c1 : Code := { maxStack := 5, maxLocals := 2, code := jdk_42_method_3_code, exceptionTable := #[], attributes := #[] }
def k7m1 : Method := { name := "<init>", desc := "([C)V", sig := { parameters := [(.array .char)], returnType := none }, accessFlags := 1, code := some k7c1 }
def k7c2 : Code := { maxStack := 2, maxLocals := 1, code := jdk_42_method_54_code, exceptionTable := #[], attributes := #[] }
def k7m2 : Method := { name := "length", desc := "()I", sig := { parameters := [], returnType := some .int }, accessFlags := 1, code := some k7c2 }
def k7c3 : Code := { maxStack := 2, maxLocals := 2, code := jdk_42_method_56_code, exceptionTable := #[], attributes := #[] }
def k7m3 : Method := { name := "charAt", desc := "(I)C", sig := { parameters := [.int], returnType := some .char }, accessFlags := 1, code := some k7c3 }
def k7c4 : Code := { maxStack := 6, maxLocals := 9, code := jdk_42_method_74_code, exceptionTable := #[], attributes := #[] }
def k7m4 : Method := { name := "regionMatches", desc := "(ZILjava/lang/String;II)Z", sig := { parameters := [.boolean, .int, (.object "java/lang/String"), .int, .int], returnType := some .boolean }, accessFlags := 1, code := some k7c4 }
def k7c5 : Code := { maxStack := 3, maxLocals := 2, code := jdk_42_method_91_code, exceptionTable := #[], attributes := #[] }
def k7m5 : Method := { name := "substring", desc := "(I)Ljava/lang/String;", sig := { parameters := [.int], returnType := some (.object "java/lang/String") }, accessFlags := 1, code := some k7c5 }
def k7c6 : Code := { maxStack := 3, maxLocals := 5, code := jdk_42_method_92_code, exceptionTable := #[], attributes := #[] }
def k7m6 : Method := { name := "substring", desc := "(II)Ljava/lang/String;", sig := { parameters := [.int, .int], returnType := some (.object "java/lang/String") }, accessFlags := 1, code := some k7c6 }
def k7c7 : Code := { maxStack := 1, maxLocals := 2, code := jdk_42_method_114_code, exceptionTable := #[], attributes := #[] }
def k7m7 : Method := { name := "strip", desc := "()Ljava/lang/String;", sig := { parameters := [], returnType := some (.object "java/lang/String") }, accessFlags := 1, code := some k7c7 }
def k7c8 : Code := { maxStack := 4, maxLocals := 6, code := jdk_42_method_149_code, exceptionTable := #[], attributes := #[] }
def k7m8 : Method := { name := "<init>", desc := "([CIILjava/lang/Void;)V", sig := { parameters := [(.array .char), .int, .int, (.object "java/lang/Void")], returnType := none }, accessFlags := 2, code := some k7c8 }
def k7c9 : Code := { maxStack := 2, maxLocals := 3, code := jdk_42_method_151_code, exceptionTable := #[], attributes := #[] }
def k7m9 : Method := { name := "<init>", desc := "([BB)V", sig := { parameters := [(.array .byte), .byte], returnType := none }, accessFlags := 0, code := some k7c9 }
def k7c10 : Code := { maxStack := 1, maxLocals := 1, code := jdk_42_method_152_code, exceptionTable := #[], attributes := #[] }
def k7m10 : Method := { name := "coder", desc := "()B", sig := { parameters := [], returnType := some .byte }, accessFlags := 0, code := some k7c10 }
def k7c11 : Code := { maxStack := 1, maxLocals := 1, code := jdk_42_method_154_code, exceptionTable := #[], attributes := #[] }
def k7m11 : Method := { name := "isLatin1", desc := "()Z", sig := { parameters := [], returnType := some .boolean }, accessFlags := 0, code := some k7c11 }
def k7c12 : Code := { maxStack := 3, maxLocals := 2, code := jdk_42_method_155_code, exceptionTable := #[], attributes := #[] }
def k7m12 : Method := { name := "checkIndex", desc := "(II)V", sig := { parameters := [.int, .int], returnType := none }, accessFlags := 8, code := some k7c12 }
def k7c13 : Code := { maxStack := 4, maxLocals := 3, code := jdk_42_method_158_code, exceptionTable := #[], attributes := #[] }
def k7m13 : Method := { name := "checkBoundsBeginEnd", desc := "(III)V", sig := { parameters := [.int, .int, .int], returnType := none }, accessFlags := 8, code := some k7c13 }
/-- java/lang/String -/
def k7 : Class := { plain "java/lang/String" (some 0) with
  accessFlags := 49
  interfaces := #[2, 3, 4, 5, 6]
  cf := some (fileOf pool7 10 #[.nestMembers #[1103]] #[{ accessFlags := 1, nameIndex := 5, descriptorIndex := 6, attributes := #[] }, { accessFlags := 1, nameIndex := 5, descriptorIndex := 1010, attributes := #[] }, { accessFlags := 1, nameIndex := 507, descriptorIndex := 334, attributes := #[] }, { accessFlags := 1, nameIndex := 497, descriptorIndex := 427, attributes := #[] }, { accessFlags := 1, nameIndex := 584, descriptorIndex := 585, attributes := #[] }, { accessFlags := 1, nameIndex := 683, descriptorIndex := 892, attributes := #[] }, { accessFlags := 1, nameIndex := 683, descriptorIndex := 684, attributes := #[] }, { accessFlags := 1, nameIndex := 866, descriptorIndex := 464, attributes := #[] }, { accessFlags := 2, nameIndex := 5, descriptorIndex := 29, attributes := #[] }, { accessFlags := 0, nameIndex := 5, descriptorIndex := 211, attributes := #[] }, { accessFlags := 0, nameIndex := 17, descriptorIndex := 337, attributes := #[] }, { accessFlags := 0, nameIndex := 494, descriptorIndex := 142, attributes := #[] }, { accessFlags := 8, nameIndex := 501, descriptorIndex := 391, attributes := #[] }, { accessFlags := 8, nameIndex := 523, descriptorIndex := 524, attributes := #[] }] 49 2 #[1106, 1108, 575, 1110, 1112] #[{ accessFlags := 18, nameIndex := 13, descriptorIndex := 14, attributes := #[] }, { accessFlags := 18, nameIndex := 17, descriptorIndex := 18, attributes := #[] }, { accessFlags := 2, nameIndex := 21, descriptorIndex := 22, attributes := #[] }, { accessFlags := 2, nameIndex := 25, descriptorIndex := 26, attributes := #[] }, { accessFlags := 26, nameIndex := 1116, descriptorIndex := 1117, attributes := #[] }, { accessFlags := 24, nameIndex := 40, descriptorIndex := 26, attributes := #[] }, { accessFlags := 26, nameIndex := 1101, descriptorIndex := 1102, attributes := #[] }, { accessFlags := 26, nameIndex := 1121, descriptorIndex := 1122, attributes := #[] }, { accessFlags := 25, nameIndex := 599, descriptorIndex := 600, attributes := #[] }, { accessFlags := 24, nameIndex := 1125, descriptorIndex := 18, attributes := #[] }, { accessFlags := 24, nameIndex := 1127, descriptorIndex := 18, attributes := #[] }])
  fields := #[{ name := "value", type := (.array .byte), accessFlags := 18, slot := 0, constantValue := 0 }, { name := "coder", type := .byte, accessFlags := 18, slot := 1, constantValue := 0 }, { name := "hash", type := .int, accessFlags := 2, slot := 2, constantValue := 0 }, { name := "hashIsZero", type := .boolean, accessFlags := 2, slot := 3, constantValue := 0 }, { name := "serialVersionUID", type := .long, accessFlags := 26, slot := 0, constantValue := 0 }, { name := "COMPACT_STRINGS", type := .boolean, accessFlags := 24, slot := 1, constantValue := 0 }, { name := "serialPersistentFields", type := (.array (.object "java/io/ObjectStreamField")), accessFlags := 26, slot := 2, constantValue := 0 }, { name := "REPL", type := .char, accessFlags := 26, slot := 3, constantValue := 0 }, { name := "CASE_INSENSITIVE_ORDER", type := (.object "java/util/Comparator"), accessFlags := 25, slot := 4, constantValue := 0 }, { name := "LATIN1", type := .byte, accessFlags := 24, slot := 5, constantValue := 0 }, { name := "UTF16", type := .byte, accessFlags := 24, slot := 6, constantValue := 0 }]
  methods := #[k7m0, k7m1, k7m2, k7m3, k7m4, k7m5, k7m6, k7m7, k7m8, k7m9, k7m10, k7m11, k7m12, k7m13]
  instanceTypes := #[(.array .byte), .byte, .int, .boolean]
  staticTypes := #[.long, .boolean, (.array (.object "java/io/ObjectStreamField")), .char, (.object "java/util/Comparator"), .byte, .byte]
  resolved := Array.replicate 1451 none
  statics := some 0 }

def pool8 : Array CpInfo := pool [(1, .class_ 2), (0, u "java/lang/String"), (1, .class_ 6), (1, u "java/lang/Object"), (0, u "<init>"), (0, u "()V"), (0, .methodref 1 10), (0, .nameAndType 11 12), (0, u "checkIndex"), (0, u "(II)V"), (1, .class_ 16), (1, u "java/lang/StringLatin1"), (33, .methodref 14 51), (0, .nameAndType 52 53), (0, u "getChar"), (0, u "([BI)C"), (3, u "([B)I"), (8, .fieldref 67 68), (0, .class_ 69), (0, .nameAndType 70 71), (0, u "java/lang/CharacterDataLatin1"), (0, u "instance"), (0, u "Ljava/lang/CharacterDataLatin1;"), (19, u "(I)Z"), (20, .methodref 1 113), (0, .nameAndType 7 114), (0, u "([BB)V"), (6, u "$assertionsDisabled"), (0, u "Z"), (8, .class_ 133), (1, u "java/util/Arrays"), (17, .string 152), (0, u ""), (0, .methodref 67 154), (0, .nameAndType 155 156), (0, u "equalsIgnoreCase"), (0, u "(BB)Z"), (38, .nameAndType 196 197), (0, u "newString"), (0, u "([BII)Ljava/lang/String;"), (12, .methodref 14 195), (0, .methodref 67 212), (0, .nameAndType 213 91), (0, u "isWhitespace"), (0, .methodref 14 215), (0, .nameAndType 216 57), (0, u "indexOfNonWhitespace"), (0, .methodref 14 218), (0, .nameAndType 219 57), (0, u "lastIndexOfNonWhitespace"), (1, .class_ 223), (1, u "java/lang/StringLatin1$LinesSpliterator"), (8, .methodref 131 233), (0, .nameAndType 234 235), (0, u "copyOfRange"), (0, u "([BII)[B"), (16, u "charAt"), (87, u "regionMatchesCI"), (0, u "([BI[BII)Z"), (25, u "([B)Ljava/lang/String;"), (3, u "strip"), (18, .class_ 391), (0, u "java/lang/StringLatin1$CharsSpliterator")] 3

def k8m0 : Method := { name := "<init>", desc := "()V", sig := { parameters := [], returnType := none }, accessFlags := 0, code := none }
def k8c1 : Code := { maxStack := 2, maxLocals := 2, code := jdk_43_method_2_code, exceptionTable := #[], attributes := #[] }
def k8m1 : Method := { name := "charAt", desc := "([BI)C", sig := { parameters := [(.array .byte), .int], returnType := some .char }, accessFlags := 9, code := some k8c1 }
def k8c2 : Code := { maxStack := 2, maxLocals := 8, code := jdk_43_method_30_code, exceptionTable := #[], attributes := #[] }
def k8m2 : Method := { name := "regionMatchesCI", desc := "([BI[BII)Z", sig := { parameters := [(.array .byte), .int, (.array .byte), .int, .int], returnType := some .boolean }, accessFlags := 9, code := some k8c2 }
def k8c3 : Code := { maxStack := 2, maxLocals := 4, code := jdk_43_method_37_code, exceptionTable := #[], attributes := #[] }
def k8m3 : Method := { name := "indexOfNonWhitespace", desc := "([B)I", sig := { parameters := [(.array .byte)], returnType := some .int }, accessFlags := 9, code := some k8c3 }
def k8c4 : Code := { maxStack := 3, maxLocals := 4, code := jdk_43_method_38_code, exceptionTable := #[], attributes := #[] }
def k8m4 : Method := { name := "lastIndexOfNonWhitespace", desc := "([B)I", sig := { parameters := [(.array .byte)], returnType := some .int }, accessFlags := 9, code := some k8c4 }
def k8c5 : Code := { maxStack := 4, maxLocals := 4, code := jdk_43_method_39_code, exceptionTable := #[], attributes := #[] }
def k8m5 : Method := { name := "strip", desc := "([B)Ljava/lang/String;", sig := { parameters := [(.array .byte)], returnType := some (.object "java/lang/String") }, accessFlags := 9, code := some k8c5 }
def k8c6 : Code := { maxStack := 2, maxLocals := 2, code := jdk_43_method_44_code, exceptionTable := #[], attributes := #[] }
def k8m6 : Method := { name := "getChar", desc := "([BI)C", sig := { parameters := [(.array .byte), .int], returnType := some .char }, accessFlags := 9, code := some k8c6 }
def k8c7 : Code := { maxStack := 6, maxLocals := 3, code := jdk_43_method_47_code, exceptionTable := #[], attributes := #[] }
def k8m7 : Method := { name := "newString", desc := "([BII)Ljava/lang/String;", sig := { parameters := [(.array .byte), .int, .int], returnType := some (.object "java/lang/String") }, accessFlags := 9, code := some k8c7 }
/-- java/lang/StringLatin1 -/
def k8 : Class := { plain "java/lang/StringLatin1" (some 0) with
  accessFlags := 48
  interfaces := #[]
  cf := some (fileOf pool8 14 #[.nestMembers #[390, 221]] #[{ accessFlags := 0, nameIndex := 7, descriptorIndex := 8, attributes := #[] }, { accessFlags := 9, nameIndex := 252, descriptorIndex := 53, attributes := #[] }, { accessFlags := 9, nameIndex := 340, descriptorIndex := 341, attributes := #[] }, { accessFlags := 9, nameIndex := 216, descriptorIndex := 57, attributes := #[] }, { accessFlags := 9, nameIndex := 219, descriptorIndex := 57, attributes := #[] }, { accessFlags := 9, nameIndex := 371, descriptorIndex := 367, attributes := #[] }, { accessFlags := 9, nameIndex := 52, descriptorIndex := 53, attributes := #[] }, { accessFlags := 9, nameIndex := 196, descriptorIndex := 197, attributes := #[] }] 48 4 #[] #[{ accessFlags := 4120, nameIndex := 121, descriptorIndex := 122, attributes := #[] }])
  fields := #[{ name := "$assertionsDisabled", type := .boolean, accessFlags := 4120, slot := 0, constantValue := 0 }]
  methods := #[k8m0, k8m1, k8m2, k8m3, k8m4, k8m5, k8m6, k8m7]
  instanceTypes := #[]
  staticTypes := #[.boolean]
  resolved := Array.replicate 395 none
  statics := none }

def pool9 : Array CpInfo := pool [(2, .class_ 4), (1, u "java/lang/Object"), (0, u "<init>"), (0, u "()V"), (17, .class_ 26), (1, u "jdk/internal/util/Preconditions"), (6, u "checkIndex"), (13, u "checkFromToIndex"), (7, .class_ 56), (0, u "jdk/internal/util/Preconditions$4"), (57, .class_ 115), (0, u "jdk/internal/util/Preconditions$1"), (7, u "SIOOBE_FORMATTER"), (0, u "Ljava/util/function/BiFunction;"), (0, .class_ 126), (0, u "jdk/internal/util/Preconditions$2"), (3, u "AIOOBE_FORMATTER"), (0, .class_ 132), (0, u "jdk/internal/util/Preconditions$3"), (3, u "IOOBE_FORMATTER"), (41, u "(IILjava/util/function/BiFunction;)I"), (4, u "(IIILjava/util/function/BiFunction;)I")] 10

def k9m0 : Method := { name := "<init>", desc := "()V", sig := { parameters := [], returnType := none }, accessFlags := 1, code := none }
def k9c1 : Code := { maxStack := 3, maxLocals := 3, code := jdk_41_method_11_code, exceptionTable := #[], attributes := #[] }
def k9m1 : Method := { name := "checkIndex", desc := "(IILjava/util/function/BiFunction;)I", sig := { parameters := [.int, .int, (.object "java/util/function/BiFunction")], returnType := some .int }, accessFlags := 9, code := some k9c1 }
def k9c2 : Code := { maxStack := 4, maxLocals := 4, code := jdk_41_method_12_code, exceptionTable := #[], attributes := #[] }
def k9m2 : Method := { name := "checkFromToIndex", desc := "(IIILjava/util/function/BiFunction;)I", sig := { parameters := [.int, .int, .int, (.object "java/util/function/BiFunction")], returnType := some .int }, accessFlags := 9, code := some k9c2 }
/-- jdk/internal/util/Preconditions -/
def k9 : Class := { plain "jdk/internal/util/Preconditions" (some 0) with
  accessFlags := 33
  interfaces := #[]
  cf := some (fileOf pool9 24 #[.nestMembers #[55, 131, 125, 114]] #[{ accessFlags := 1, nameIndex := 5, descriptorIndex := 6, attributes := #[] }, { accessFlags := 9, nameIndex := 33, descriptorIndex := 178, attributes := #[] }, { accessFlags := 9, nameIndex := 47, descriptorIndex := 183, attributes := #[] }] 33 2 #[] #[{ accessFlags := 25, nameIndex := 123, descriptorIndex := 124, attributes := #[] }, { accessFlags := 25, nameIndex := 130, descriptorIndex := 124, attributes := #[] }, { accessFlags := 25, nameIndex := 136, descriptorIndex := 124, attributes := #[] }])
  fields := #[{ name := "SIOOBE_FORMATTER", type := (.object "java/util/function/BiFunction"), accessFlags := 25, slot := 0, constantValue := 0 }, { name := "AIOOBE_FORMATTER", type := (.object "java/util/function/BiFunction"), accessFlags := 25, slot := 1, constantValue := 0 }, { name := "IOOBE_FORMATTER", type := (.object "java/util/function/BiFunction"), accessFlags := 25, slot := 2, constantValue := 0 }]
  methods := #[k9m0, k9m1, k9m2]
  instanceTypes := #[]
  staticTypes := #[(.object "java/util/function/BiFunction"), (.object "java/util/function/BiFunction"), (.object "java/util/function/BiFunction")]
  resolved := Array.replicate 194 none
  statics := some 1 }

def pool10 : Array CpInfo := pool [(2, .class_ 4), (1, u "java/lang/Object"), (3, .class_ 10), (1, u "com/example/provisa/provisa/server/BearerTokens"), (0, u "tokens"), (0, u "Ljava/util/List;"), (17, .class_ 32), (1, u "java/lang/String"), (5, u "(Ljava/lang/String;)Ljava/lang/String;"), (8, u "()Ljava/lang/String;"), (11, u "()I"), (4, .methodref 30 65), (0, .nameAndType 66 47), (0, u "strip"), (6, u "TOKEN_SYNTAX"), (0, u "Ljava/util/regex/Pattern;"), (35, .string 111), (0, u "Bearer"), (0, .methodref 30 113), (0, .nameAndType 114 59), (0, u "length"), (0, .methodref 30 116), (0, .nameAndType 117 118), (0, u "regionMatches"), (0, u "(ZILjava/lang/String;II)Z"), (0, .methodref 30 120), (0, .nameAndType 121 122), (0, u "charAt"), (0, u "(I)C"), (0, .methodref 30 124), (0, .nameAndType 125 126), (0, u "substring"), (0, u "(I)Ljava/lang/String;"), (28, u "SCHEME"), (0, u "Ljava/lang/String;"), (11, u "presentedToken")] 26

def k10c0 : Code := { maxStack := 6, maxLocals := 1, code := prog_9_method_4_code, exceptionTable := #[], attributes := #[] }
def k10m0 : Method := { name := "presentedToken", desc := "(Ljava/lang/String;)Ljava/lang/String;", sig := { parameters := [(.object "java/lang/String")], returnType := some (.object "java/lang/String") }, accessFlags := 8, code := some k10c0 }
/-- com/example/provisa/provisa/server/BearerTokens -/
def k10 : Class := { plain "com/example/provisa/provisa/server/BearerTokens" (some 0) with
  accessFlags := 48
  interfaces := #[]
  cf := some (fileOf pool10 8 #[] #[{ accessFlags := 8, nameIndex := 168, descriptorIndex := 38, attributes := #[] }] 48 2 #[] #[{ accessFlags := 26, nameIndex := 73, descriptorIndex := 74, attributes := #[] }, { accessFlags := 26, nameIndex := 155, descriptorIndex := 156, attributes := #[] }, { accessFlags := 18, nameIndex := 11, descriptorIndex := 12, attributes := #[] }])
  fields := #[{ name := "TOKEN_SYNTAX", type := (.object "java/util/regex/Pattern"), accessFlags := 26, slot := 0, constantValue := 0 }, { name := "SCHEME", type := (.object "java/lang/String"), accessFlags := 26, slot := 1, constantValue := 0 }, { name := "tokens", type := (.object "java/util/List"), accessFlags := 18, slot := 0, constantValue := 0 }]
  methods := #[k10m0]
  instanceTypes := #[(.object "java/util/List")]
  staticTypes := #[(.object "java/util/regex/Pattern"), (.object "java/lang/String")]
  resolved := Array.replicate 195 none
  statics := none }

def pool11 : Array CpInfo := pool [(6, .class_ 8), (1, u "java/lang/Object"), (0, u "<init>"), (0, u "()V"), (1, .class_ 14), (1, u "java/lang/StringUTF16"), (31, u "$assertionsDisabled"), (0, u "Z"), (13, u "HI_BYTE_SHIFT"), (0, u "I"), (2, u "LO_BYTE_SHIFT"), (49, .methodref 12 116), (0, .nameAndType 117 118), (0, u "compress"), (0, u "([CI[BII)I"), (3, u "([CII)[B"), (138, u "coderFromArrayLen"), (0, u "([BI)B"), (106, .class_ 371), (1, u "java/lang/StringUTF16$LinesSpliterator"), (58, u "MAX_LENGTH"), (196, .class_ 628), (0, u "java/lang/StringUTF16$CodePointsSpliterator"), (0, .class_ 630), (0, u "java/lang/StringUTF16$CharsSpliterator")] 4

def k11m0 : Method := { name := "<init>", desc := "()V", sig := { parameters := [], returnType := none }, accessFlags := 0, code := none }
def k11c1 : Code := { maxStack := 2, maxLocals := 2, code := jdk_52_method_15_code, exceptionTable := #[], attributes := #[] }
def k11m1 : Method := { name := "coderFromArrayLen", desc := "([BI)B", sig := { parameters := [(.array .byte), .int], returnType := some .byte }, accessFlags := 8, code := some k11c1 }
def k11c2 : Code := { maxStack := 5, maxLocals := 6, code := jdk_52_method_16_code, exceptionTable := #[], attributes := #[] }
def k11m2 : Method := { name := "compress", desc := "([CII)[B", sig := { parameters := [(.array .char), .int, .int], returnType := some (.array .byte) }, accessFlags := 9, code := some k11c2 }
def k11c3 : Code := { maxStack := 3, maxLocals := 7, code := jdk_52_method_21_code, exceptionTable := #[], attributes := #[] }
def k11m3 : Method := { name := "compress", desc := "([CI[BII)I", sig := { parameters := [(.array .char), .int, (.array .byte), .int, .int], returnType := some .int }, accessFlags := 9, code := some k11c3 }
/-- java/lang/StringUTF16 -/
def k11 : Class := { plain "java/lang/StringUTF16" (some 0) with
  accessFlags := 48
  interfaces := #[]
  cf := some (fileOf pool11 12 #[.nestMembers #[627, 629, 369]] #[{ accessFlags := 0, nameIndex := 9, descriptorIndex := 10, attributes := #[] }, { accessFlags := 8, nameIndex := 261, descriptorIndex := 262, attributes := #[] }, { accessFlags := 9, nameIndex := 117, descriptorIndex := 122, attributes := #[] }, { accessFlags := 9, nameIndex := 117, descriptorIndex := 118, attributes := #[] }] 48 6 #[] #[{ accessFlags := 26, nameIndex := 61, descriptorIndex := 62, attributes := #[] }, { accessFlags := 26, nameIndex := 65, descriptorIndex := 62, attributes := #[] }, { accessFlags := 24, nameIndex := 430, descriptorIndex := 62, attributes := #[] }, { accessFlags := 4120, nameIndex := 46, descriptorIndex := 47, attributes := #[] }])
  fields := #[{ name := "HI_BYTE_SHIFT", type := .int, accessFlags := 26, slot := 0, constantValue := 0 }, { name := "LO_BYTE_SHIFT", type := .int, accessFlags := 26, slot := 1, constantValue := 0 }, { name := "MAX_LENGTH", type := .int, accessFlags := 24, slot := 2, constantValue := 0 }, { name := "$assertionsDisabled", type := .boolean, accessFlags := 4120, slot := 3, constantValue := 0 }]
  methods := #[k11m0, k11m1, k11m2, k11m3]
  instanceTypes := #[]
  staticTypes := #[.int, .int, .int, .boolean]
  resolved := Array.replicate 635 none
  statics := none }

def pool12 : Array CpInfo := pool [(2, .class_ 4), (1, u "java/lang/Object"), (0, u "<init>"), (0, u "()V"), (1, .class_ 10), (1, u "java/lang/CharacterData")] 75

def k12m0 : Method := { name := "<init>", desc := "()V", sig := { parameters := [], returnType := none }, accessFlags := 0, code := none }
/-- java/lang/CharacterData -/
def k12 : Class := { plain "java/lang/CharacterData" (some 0) with
  accessFlags := 1056
  interfaces := #[]
  cf := some (fileOf pool12 8 #[] #[{ accessFlags := 0, nameIndex := 5, descriptorIndex := 6, attributes := #[] }] 1056 2 #[] #[])
  fields := #[]
  methods := #[k12m0]
  instanceTypes := #[]
  staticTypes := #[]
  resolved := Array.replicate 86 none
  statics := none }

def pool13 : Array CpInfo := pool [(1, .fieldref 2 3), (0, .class_ 4), (0, .nameAndType 5 6), (0, u "java/lang/CharacterDataLatin1"), (0, u "A"), (0, u "[I"), (2, u "B"), (0, u "[C"), (3, u "(I)I"), (0, .methodref 2 16), (0, .nameAndType 17 14), (0, u "getProperties"), (3, u "(I)Z"), (5, u "DIGITS"), (0, u "[B"), (8, u "sharpsMap"), (1, .class_ 41), (1, u "java/lang/CharacterData"), (0, u "<init>"), (0, u "()V"), (3, u "instance"), (0, u "Ljava/lang/CharacterDataLatin1;"), (66, u "equalsIgnoreCase"), (0, u "(BB)Z"), (10, u "isWhitespace")] 13

def k13c0 : Code := { maxStack := 2, maxLocals := 4, code := jdk_116_method_1_code, exceptionTable := #[], attributes := #[] }
def k13m0 : Method := { name := "getProperties", desc := "(I)I", sig := { parameters := [.int], returnType := some .int }, accessFlags := 0, code := some k13c0 }
def k13c1 : Code := { maxStack := 3, maxLocals := 3, code := jdk_116_method_22_code, exceptionTable := #[], attributes := #[] }
def k13m1 : Method := { name := "equalsIgnoreCase", desc := "(BB)Z", sig := { parameters := [.byte, .byte], returnType := some .boolean }, accessFlags := 8, code := some k13c1 }
def k13c2 : Code := { maxStack := 2, maxLocals := 3, code := jdk_116_method_26_code, exceptionTable := #[], attributes := #[] }
def k13m2 : Method := { name := "isWhitespace", desc := "(I)Z", sig := { parameters := [.int], returnType := some .boolean }, accessFlags := 0, code := some k13c2 }
def k13m3 : Method := { name := "<init>", desc := "()V", sig := { parameters := [], returnType := none }, accessFlags := 2, code := none }
/-- java/lang/CharacterDataLatin1 -/
def k13 : Class := { plain "java/lang/CharacterDataLatin1" (some 12) with
  accessFlags := 32
  interfaces := #[]
  cf := some (fileOf pool13 2 #[] #[{ accessFlags := 0, nameIndex := 17, descriptorIndex := 14, attributes := #[] }, { accessFlags := 8, nameIndex := 115, descriptorIndex := 116, attributes := #[] }, { accessFlags := 0, nameIndex := 127, descriptorIndex := 21, attributes := #[] }, { accessFlags := 2, nameIndex := 42, descriptorIndex := 43, attributes := #[] }] 32 39 #[] #[{ accessFlags := 26, nameIndex := 27, descriptorIndex := 28, attributes := #[] }, { accessFlags := 8, nameIndex := 37, descriptorIndex := 10, attributes := #[] }, { accessFlags := 24, nameIndex := 47, descriptorIndex := 48, attributes := #[] }, { accessFlags := 24, nameIndex := 5, descriptorIndex := 6, attributes := #[] }, { accessFlags := 24, nameIndex := 9, descriptorIndex := 10, attributes := #[] }])
  fields := #[{ name := "DIGITS", type := (.array .byte), accessFlags := 26, slot := 0, constantValue := 0 }, { name := "sharpsMap", type := (.array .char), accessFlags := 8, slot := 1, constantValue := 0 }, { name := "instance", type := (.object "java/lang/CharacterDataLatin1"), accessFlags := 24, slot := 2, constantValue := 0 }, { name := "A", type := (.array .int), accessFlags := 24, slot := 3, constantValue := 0 }, { name := "B", type := (.array .char), accessFlags := 24, slot := 4, constantValue := 0 }]
  methods := #[k13m0, k13m1, k13m2, k13m3]
  instanceTypes := #[]
  staticTypes := #[(.array .byte), (.array .char), (.object "java/lang/CharacterDataLatin1"), (.array .int), (.array .char)]
  resolved := Array.replicate 141 none
  statics := some 2 }

def pool14 : Array CpInfo := pool [(2, .class_ 4), (1, u "java/lang/Object"), (0, u "<init>"), (0, u "()V"), (7, .class_ 16), (1, u "java/util/Arrays"), (57, .class_ 76), (1, u "java/util/Arrays$NaturalOrder"), (36, .class_ 115), (1, u "java/util/Arrays$LegacyMergeSort"), (1, u "Z"), (21, u "copyOfRange"), (10, .methodref 151 152), (0, .class_ 153), (0, .nameAndType 154 155), (0, u "java/lang/System"), (0, u "arraycopy"), (0, u "(Ljava/lang/Object;ILjava/lang/Object;II)V"), (148, .methodref 305 306), (0, .class_ 307), (0, .nameAndType 308 309), (0, u "java/lang/Math"), (0, u "min"), (0, u "(II)I"), (29, .methodref 14 340), (0, .nameAndType 341 342), (0, u "copyOfRangeByte"), (0, u "([BII)[B"), (0, .methodref 14 344), (0, .nameAndType 345 346), (0, u "checkLength"), (0, u "(II)V"), (28, .class_ 376), (0, u "java/util/Arrays$ArrayList"), (68, u "$assertionsDisabled"), (269, u "MIN_ARRAY_SORT_GRAN"), (0, u "I"), (2, u "INSERTIONSORT_THRESHOLD"), (255, .class_ 976), (0, u "java/util/Arrays$ArrayItr")] 52

def k14m0 : Method := { name := "<init>", desc := "()V", sig := { parameters := [], returnType := none }, accessFlags := 2, code := none }
def k14c1 : Code := { maxStack := 4, maxLocals := 2, code := jdk_65_method_131_code, exceptionTable := #[], attributes := #[] }
def k14m1 : Method := { name := "checkLength", desc := "(II)V", sig := { parameters := [.int, .int], returnType := none }, accessFlags := 10, code := some k14c1 }
def k14c2 : Code := { maxStack := 3, maxLocals := 3, code := jdk_65_method_132_code, exceptionTable := #[], attributes := #[] }
def k14m2 : Method := { name := "copyOfRange", desc := "([BII)[B", sig := { parameters := [(.array .byte), .int, .int], returnType := some (.array .byte) }, accessFlags := 9, code := some k14c2 }
def k14c3 : Code := { maxStack := 6, maxLocals := 5, code := jdk_65_method_133_code, exceptionTable := #[], attributes := #[] }
def k14m3 : Method := { name := "copyOfRangeByte", desc := "([BII)[B", sig := { parameters := [(.array .byte), .int, .int], returnType := some (.array .byte) }, accessFlags := 10, code := some k14c3 }
/-- java/util/Arrays -/
def k14 : Class := { plain "java/util/Arrays" (some 0) with
  accessFlags := 49
  interfaces := #[]
  cf := some (fileOf pool14 14 #[.nestMembers #[975, 375, 113, 74]] #[{ accessFlags := 2, nameIndex := 5, descriptorIndex := 6, attributes := #[] }, { accessFlags := 10, nameIndex := 345, descriptorIndex := 346, attributes := #[] }, { accessFlags := 9, nameIndex := 139, descriptorIndex := 342, attributes := #[] }, { accessFlags := 10, nameIndex := 341, descriptorIndex := 342, attributes := #[] }] 49 2 #[] #[{ accessFlags := 26, nameIndex := 715, descriptorIndex := 716, attributes := #[] }, { accessFlags := 26, nameIndex := 719, descriptorIndex := 716, attributes := #[] }, { accessFlags := 4120, nameIndex := 445, descriptorIndex := 117, attributes := #[] }])
  fields := #[{ name := "MIN_ARRAY_SORT_GRAN", type := .int, accessFlags := 26, slot := 0, constantValue := 0 }, { name := "INSERTIONSORT_THRESHOLD", type := .int, accessFlags := 26, slot := 1, constantValue := 0 }, { name := "$assertionsDisabled", type := .boolean, accessFlags := 4120, slot := 2, constantValue := 0 }]
  methods := #[k14m0, k14m1, k14m2, k14m3]
  instanceTypes := #[]
  staticTypes := #[.int, .int, .boolean]
  resolved := Array.replicate 1029 none
  statics := none }

def pool15 : Array CpInfo := pool [(1, .class_ 2), (0, u "java/lang/Math"), (1, .class_ 6), (1, u "java/lang/Object"), (0, u "<init>"), (0, u "()V"), (89, .class_ 100), (1, u "java/lang/Math$RandomNumberGeneratorHolder"), (71, u "negativeZeroFloatBits"), (0, u "J"), (2, u "negativeZeroDoubleBits"), (24, u "min"), (43, u "$assertionsDisabled"), (0, u "Z"), (88, u "(II)I"), (2, u "twoToTheDoubleScaleDown"), (0, u "D"), (4, u "twoToTheDoubleScaleUp"), (9, u "E"), (3, u "PI"), (2, u "TAU"), (2, u "DEGREES_TO_RADIANS"), (0, u "RADIANS_TO_DEGREES")] 94

def k15m0 : Method := { name := "<init>", desc := "()V", sig := { parameters := [], returnType := none }, accessFlags := 2, code := none }
def k15c1 : Code := { maxStack := 2, maxLocals := 2, code := jdk_29_method_69_code, exceptionTable := #[], attributes := #[] }
def k15m1 : Method := { name := "min", desc := "(II)I", sig := { parameters := [.int, .int], returnType := some .int }, accessFlags := 9, code := some k15c1 }
/-- java/lang/Math -/
def k15 : Class := { plain "java/lang/Math" (some 0) with
  accessFlags := 49
  interfaces := #[]
  cf := some (fileOf pool15 1 #[.nestMembers #[98]] #[{ accessFlags := 2, nameIndex := 7, descriptorIndex := 8, attributes := #[] }, { accessFlags := 9, nameIndex := 201, descriptorIndex := 335, attributes := #[] }] 49 4 #[] #[{ accessFlags := 25, nameIndex := 354, descriptorIndex := 339, attributes := #[] }, { accessFlags := 25, nameIndex := 358, descriptorIndex := 339, attributes := #[] }, { accessFlags := 25, nameIndex := 361, descriptorIndex := 339, attributes := #[] }, { accessFlags := 26, nameIndex := 364, descriptorIndex := 339, attributes := #[] }, { accessFlags := 26, nameIndex := 365, descriptorIndex := 339, attributes := #[] }, { accessFlags := 26, nameIndex := 172, descriptorIndex := 173, attributes := #[] }, { accessFlags := 26, nameIndex := 176, descriptorIndex := 173, attributes := #[] }, { accessFlags := 8, nameIndex := 344, descriptorIndex := 339, attributes := #[] }, { accessFlags := 8, nameIndex := 338, descriptorIndex := 339, attributes := #[] }, { accessFlags := 4120, nameIndex := 245, descriptorIndex := 246, attributes := #[] }])
  fields := #[{ name := "E", type := .double, accessFlags := 25, slot := 0, constantValue := 0 }, { name := "PI", type := .double, accessFlags := 25, slot := 1, constantValue := 0 }, { name := "TAU", type := .double, accessFlags := 25, slot := 2, constantValue := 0 }, { name := "DEGREES_TO_RADIANS", type := .double, accessFlags := 26, slot := 3, constantValue := 0 }, { name := "RADIANS_TO_DEGREES", type := .double, accessFlags := 26, slot := 4, constantValue := 0 }, { name := "negativeZeroFloatBits", type := .long, accessFlags := 26, slot := 5, constantValue := 0 }, { name := "negativeZeroDoubleBits", type := .long, accessFlags := 26, slot := 6, constantValue := 0 }, { name := "twoToTheDoubleScaleUp", type := .double, accessFlags := 8, slot := 7, constantValue := 0 }, { name := "twoToTheDoubleScaleDown", type := .double, accessFlags := 8, slot := 8, constantValue := 0 }, { name := "$assertionsDisabled", type := .boolean, accessFlags := 4120, slot := 9, constantValue := 0 }]
  methods := #[k15m0, k15m1]
  instanceTypes := #[]
  staticTypes := #[.double, .double, .double, .double, .double, .long, .long, .double, .double, .boolean]
  resolved := Array.replicate 460 none
  statics := none }

def pool16 : Array CpInfo := pool [(2, .class_ 4), (1, u "java/lang/Object"), (0, u "<init>"), (0, u "()V"), (1, .class_ 10), (1, u "java/lang/System"), (0, u "allowSecurityManager"), (0, u "I"), (16, u "cons"), (0, u "Ljava/io/Console;"), (77, .class_ 110), (1, u "java/lang/System$CallersHolder"), (43, u "initialErrStream"), (0, u "Ljava/io/PrintStream;"), (19, u "security"), (0, u "Ljava/lang/SecurityManager;"), (31, .class_ 209), (0, u "java/lang/System$1"), (7, u "props"), (0, u "Ljava/util/Properties;"), (2, u "lineSeparator"), (0, u "Ljava/lang/String;"), (96, .class_ 321), (1, u "java/lang/System$LoggerFinder"), (5, .class_ 328), (0, u "java/lang/System$Logger"), (67, u "err"), (2, u "out"), (91, u "notSupportedJnuEncoding"), (15, u "in"), (17, u "initialIn"), (0, u "Ljava/io/InputStream;"), (35, u "bootLayer"), (0, u "Ljava/lang/ModuleLayer;"), (99, .class_ 664), (0, u "java/lang/System$2"), (9, u "NEVER"), (2, u "MAYBE"), (49, u "arraycopy"), (0, u "(Ljava/lang/Object;ILjava/lang/Object;II)V"), (72, .class_ 802), (0, u "java/lang/System$Logger$Level")] 31

def k16m0 : Method := { name := "<init>", desc := "()V", sig := { parameters := [], returnType := none }, accessFlags := 2, code := none }
def k16m1 : Method := { name := "arraycopy", desc := "(Ljava/lang/Object;ILjava/lang/Object;II)V", sig := { parameters := [(.object "java/lang/Object"), .int, (.object "java/lang/Object"), .int, .int], returnType := none }, accessFlags := 265, code := none }
/-- java/lang/System -/
def k16 : Class := { plain "java/lang/System" (some 0) with
  accessFlags := 49
  interfaces := #[]
  cf := some (fileOf pool16 8 #[.nestMembers #[319, 327, 801, 108, 663, 208]] #[{ accessFlags := 2, nameIndex := 5, descriptorIndex := 6, attributes := #[] }, { accessFlags := 265, nameIndex := 727, descriptorIndex := 728, attributes := #[] }] 49 2 #[] #[{ accessFlags := 25, nameIndex := 507, descriptorIndex := 526, attributes := #[] }, { accessFlags := 25, nameIndex := 399, descriptorIndex := 155, attributes := #[] }, { accessFlags := 25, nameIndex := 396, descriptorIndex := 155, attributes := #[] }, { accessFlags := 10, nameIndex := 525, descriptorIndex := 526, attributes := #[] }, { accessFlags := 26, nameIndex := 674, descriptorIndex := 12, attributes := #[] }, { accessFlags := 26, nameIndex := 677, descriptorIndex := 12, attributes := #[] }, { accessFlags := 10, nameIndex := 11, descriptorIndex := 12, attributes := #[] }, { accessFlags := 74, nameIndex := 175, descriptorIndex := 176, attributes := #[] }, { accessFlags := 10, nameIndex := 491, descriptorIndex := 222, attributes := #[] }, { accessFlags := 74, nameIndex := 29, descriptorIndex := 30, attributes := #[] }, { accessFlags := 74, nameIndex := 154, descriptorIndex := 155, attributes := #[] }, { accessFlags := 10, nameIndex := 217, descriptorIndex := 218, attributes := #[] }, { accessFlags := 10, nameIndex := 221, descriptorIndex := 222, attributes := #[] }, { accessFlags := 8, nameIndex := 562, descriptorIndex := 563, attributes := #[] }])
  fields := #[{ name := "in", type := (.object "java/io/InputStream"), accessFlags := 25, slot := 0, constantValue := 0 }, { name := "out", type := (.object "java/io/PrintStream"), accessFlags := 25, slot := 1, constantValue := 0 }, { name := "err", type := (.object "java/io/PrintStream"), accessFlags := 25, slot := 2, constantValue := 0 }, { name := "initialIn", type := (.object "java/io/InputStream"), accessFlags := 10, slot := 3, constantValue := 0 }, { name := "NEVER", type := .int, accessFlags := 26, slot := 4, constantValue := 0 }, { name := "MAYBE", type := .int, accessFlags := 26, slot := 5, constantValue := 0 }, { name := "allowSecurityManager", type := .int, accessFlags := 10, slot := 6, constantValue := 0 }, { name := "security", type := (.object "java/lang/SecurityManager"), accessFlags := 74, slot := 7, constantValue := 0 }, { name := "notSupportedJnuEncoding", type := (.object "java/lang/String"), accessFlags := 10, slot := 8, constantValue := 0 }, { name := "cons", type := (.object "java/io/Console"), accessFlags := 74, slot := 9, constantValue := 0 }, { name := "initialErrStream", type := (.object "java/io/PrintStream"), accessFlags := 74, slot := 10, constantValue := 0 }, { name := "props", type := (.object "java/util/Properties"), accessFlags := 10, slot := 11, constantValue := 0 }, { name := "lineSeparator", type := (.object "java/lang/String"), accessFlags := 10, slot := 12, constantValue := 0 }, { name := "bootLayer", type := (.object "java/lang/ModuleLayer"), accessFlags := 8, slot := 13, constantValue := 0 }]
  methods := #[k16m0, k16m1]
  instanceTypes := #[]
  staticTypes := #[(.object "java/io/InputStream"), (.object "java/io/PrintStream"), (.object "java/io/PrintStream"), (.object "java/io/InputStream"), .int, .int, .int, (.object "java/lang/SecurityManager"), (.object "java/lang/String"), (.object "java/io/Console"), (.object "java/io/PrintStream"), (.object "java/util/Properties"), (.object "java/lang/String"), (.object "java/lang/ModuleLayer")]
  resolved := Array.replicate 834 none
  statics := none }

def pool17 : Array CpInfo := pool [(1, u "java/lang/Cloneable"), (0, .class_ 1), (0, u "java/lang/Object"), (0, .class_ 3)] 3

/-- java/lang/Cloneable -/
def k17 : Class := { plain "java/lang/Cloneable" (some 0) with
  accessFlags := 1537
  interfaces := #[]
  cf := some (fileOf pool17 2 #[] #[] 1537 4 #[] #[])
  fields := #[]
  methods := #[]
  instanceTypes := #[]
  staticTypes := #[]
  resolved := Array.replicate 8 none
  statics := none }

/-- the primitive byte -/
def k18 : Class := { plain "byte" none with kind := .primitive 'B', accessFlags := 0x411 }
/-- [B -/
def k19 : Class := { plain "[B" (some 0) with kind := .array 18 .byte, interfaces := #[17, 2], accessFlags := 1041 }

/-- the primitive char -/
def k20 : Class := { plain "char" none with kind := .primitive 'C', accessFlags := 0x411 }
/-- [C -/
def k21 : Class := { plain "[C" (some 0) with kind := .array 20 .char, interfaces := #[17, 2], accessFlags := 1041 }

/-- the primitive int -/
def k22 : Class := { plain "int" none with kind := .primitive 'I', accessFlags := 0x411 }
/-- [I -/
def k23 : Class := { plain "[I" (some 0) with kind := .array 22 .int, interfaces := #[17, 2], accessFlags := 1041 }

/-- jdk/internal/util/ArraysSupport -/
def k24 : Class := plain "jdk/internal/util/ArraysSupport" (some 0)

def heap : Heap := #[{ cls := 7, slots := #[.long 0, .int 1, .null, .int 0, .null, .int 0, .int 0], vm := .statics 7 },
  { cls := 9, slots := #[.null, .null, .null], vm := .statics 9 },
  { cls := 13, slots := #[.null, .null, .ref 3, .ref 4, .null], vm := .statics 13 },
  { cls := 13, slots := #[], vm := .none },
  { cls := 23, slots := #[.int 1207963663, .int 1207963663, .int 1207963663, .int 1207963663, .int 1207963663, .int 1207963663, .int 1207963663, .int 1207963663, .int 1207963663, .int 1476411407, .int 1342193679, .int 1476411407, .int 1610629135, .int 1342193679, .int 1207963663, .int 1207963663, .int 1207963663, .int 1207963663, .int 1207963663, .int 1207963663, .int 1207963663, .int 1207963663, .int 1207963663, .int 1207963663, .int 1207963663, .int 1207963663, .int 1207963663, .int 1207963663, .int 1342193679, .int 1342193679, .int 1342193679, .int 1476411407, .int 1610629132, .int 1744830488, .int 1744830488, .int 671088664, .int 671113242, .int 671088664, .int 1744830488, .int 1744830488, .int (-402653163), .int (-402653162), .int 1744830488, .int 536870937, .int 939524120, .int 536870932, .int 939524120, .int 939524120, .int 402667017, .int 402667017, .int 402667017, .int 402667017, .int 402667017, .int 402667017, .int 402667017, .int 402667017, .int 402667017, .int 402667017, .int 939524120, .int 1744830488, .int (-402653159), .int 1744830489, .int (-402653159), .int 1744830488, .int 1744830488, .int 8552417, .int 8552417, .int 8552417, .int 8552417, .int 8552417, .int 8552417, .int 8552417, .int 8552417, .int 8552417, .int 8552417, .int 8552417, .int 8552417, .int 8552417, .int 8552417, .int 8552417, .int 8552417, .int 8552417, .int 8552417, .int 8552417, .int 8552417, .int 8552417, .int 8552417, .int 8552417, .int 8552417, .int 8552417, .int 8552417, .int (-402653163), .int 1744830488, .int (-402653162), .int 1744830491, .int 1744850967, .int 1744830491, .int 8486882, .int 8486882, .int 8486882, .int 8486882, .int 8486882, .int 8486882, .int 8486882, .int 8486882, .int 8486882, .int 8486882, .int 8486882, .int 8486882, .int 8486882, .int 8486882, .int 8486882, .int 8486882, .int 8486882, .int 8486882, .int 8486882, .int 8486882, .int 8486882, .int 8486882, .int 8486882, .int 8486882, .int 8486882, .int 8486882, .int (-402653163), .int 1744830489, .int (-402653162), .int 1744830489, .int 1207963663, .int 1207963663, .int 1207963663, .int 1207963663, .int 1207963663, .int 1207963663, .int 1342181391, .int 1207963663, .int 1207963663, .int 1207963663, .int 1207963663, .int 1207963663, .int 1207963663, .int 1207963663, .int 1207963663, .int 1207963663, .int 1207963663, .int 1207963663, .int 1207963663, .int 1207963663, .int 1207963663, .int 1207963663, .int 1207963663, .int 1207963663, .int 1207963663, .int 1207963663, .int 1207963663, .int 1207963663, .int 1207963663, .int 1207963663, .int 1207963663, .int 1207963663, .int 1207963663, .int 939524108, .int 1744830488, .int 671113242, .int 671113242, .int 671113242, .int 671113242, .int 1744830492, .int 1744830488, .int 1744830491, .int 1744830492, .int 28677, .int (-402653155), .int 1744830489, .int 1207963664, .int 1744830492, .int 1744830491, .int 671088668, .int 671088665, .int 402654731, .int 402654731, .int 1744830491, .int 134049794, .int 1744830488, .int 1744830488, .int 1744830491, .int 402654475, .int 28677, .int (-402653154), .int 1744832523, .int 1744832523, .int 1744832523, .int 1744830488, .int 8548353, .int 8548353, .int 8548353, .int 8548353, .int 8548353, .int 8548353, .int 8548353, .int 8548353, .int 8548353, .int 8548353, .int 8548353, .int 8548353, .int 8548353, .int 8548353, .int 8548353, .int 8548353, .int 8548353, .int 8548353, .int 8548353, .int 8548353, .int 8548353, .int 8548353, .int 8548353, .int 1744830489, .int 8548353, .int 8548353, .int 8548353, .int 8548353, .int 8548353, .int 8548353, .int 8548353, .int 134049794, .int 8482818, .int 8482818, .int 8482818, .int 8482818, .int 8482818, .int 8482818, .int 8482818, .int 8482818, .int 8482818, .int 8482818, .int 8482818, .int 8482818, .int 8482818, .int 8482818, .int 8482818, .int 8482818, .int 8482818, .int 8482818, .int 8482818, .int 8482818, .int 8482818, .int 8482818, .int 8482818, .int 1744830489, .int 8482818, .int 8482818, .int 8482818, .int 8482818, .int 8482818, .int 8482818, .int 8482818, .int 102592514], vm := .none }]
def classes : Array Class := #[k0, k1, k2, k3, k4, k5, k6, k7, k8, k9, k10, k11, k12, k13, k14, k15, k16, k17, k18, k19, k20, k21, k22, k23, k24]
def interned : List (Array UInt16 × Addr) := []
def slotsUsed : Nat := 271
def theMethod : MethodId := ⟨1, 6⟩
def args0 : Array Value := #[.int 9, .int 1, .long 0, .long 0]
def aboutOver (below : List Frame) : State where
  vm := { classes := classes, interned := interned.toArray }
  heap := heap
  slotsUsed := slotsUsed
  threads := #[{ frames := .invoking theMethod args0 :: below }]
def below0 : List Frame := [.native { method := ⟨0, 0⟩, args := #[] }]
def about1 : State := aboutOver below0
def p0 : Program := .bare "" "" ""
def e0 : Env := launch0.env 0 0 0
theorem w_frames : about1.frames = Frame.invoking theMethod args0 :: below0 := rfl
set_option maxRecDepth 65536 in
theorem w_args : argsFit about1.vm theMethod args0 = true := by decide +kernel
set_option maxRecDepth 65536 in
theorem w_heap : heapFits about1 = true := by decide +kernel
set_option maxRecDepth 65536 in
theorem w_runnable : about1.curStatus? = some .runnable := by decide +kernel
set_option maxRecDepth 65536 in
theorem w_alone : about1.alone = true := by decide +kernel
set_option maxRecDepth 65536 in
theorem w_named : about1.methodNamed? x = some theMethod := by decide +kernel
set_option maxRecDepth 65536 in
theorem w_hears : about1.hears theMethod below0 = true := by decide +kernel
set_option maxRecDepth 65536 in
theorem w_ripe : about1.ripe theMethod args0 below0 = true := by decide +kernel
theorem w_running : about1.status = .running := rfl
set_option maxRecDepth 65536 in
theorem w_room : about1.hasRoom e0.platform room_1 = true :=
  launch0.hasRoom_least _ room_1 (by decide +kernel) (by decide +kernel) (by decide +kernel) (by decide +kernel) (by decide +kernel) (by decide +kernel)
theorem allAtoms_all (ts : List Jvm.Cond) (a : Array Jvm.Value) (st : Jvm.State) : (allAtoms ts).before a st = ts.all (fun c => c.before a st) := by
  induction ts with
  | nil => rfl
  | cons c t ih =>
    show (Jvm.Cond.and c (allAtoms t)).before a st = _
    rw [Jvm.Cond.before_and, ih, List.all_cons]
def words1 : List Jvm.Cond := Jvm.Cond.code x code maxLocals ret :: tables_1
/-- a 'code' word, met by the world's own term for the bytes: nothing is compared byte by byte -/
theorem code_word {y : MethodName} {bytes : ByteArray} {mx : Nat} {rt : Option FieldType} {a : Array Value} {s : State} {m : MethodId} {meth : Method} {c : Code} (h1 : s.methodNamed? y = some m) (h2 : s.vm.method? m = some meth) (h3 : meth.code = some c) (h4 : c.code = bytes)
    (h5 : (c.maxLocals == mx && c.exceptionTable.isEmpty && decide (c.maxStack ≤ mostOperands) && decide (meth.sig.returnType = rt) && !meth.locks && decide (parseMethodDescriptor y.desc = some meth.sig)) = true) : (Jvm.Cond.code y bytes mx rt).before a s = true := by
  simp only [Bool.and_eq_true, beq_iff_eq, Bool.not_eq_true', decide_eq_true_eq] at h5
  obtain ⟨⟨⟨⟨⟨g1, g2⟩, g3⟩, g4⟩, g5⟩, g6⟩ := h5
  simp [Cond.before, Cond.holds, Cond.value, h1, h2, h3, h4, g1, g2, g3, g4, g5, g6]
def isCode : Jvm.Cond → Bool
  | .code _ _ _ _ => true
  | _ => false
theorem all_split {L : List Jvm.Cond} {P : Jvm.Cond → Bool} (h1 : L.all (fun c => isCode c || P c) = true) (h2 : ∀ c ∈ L.filter isCode, P c = true) : L.all P = true := by
  refine List.all_eq_true.mpr fun c hc => ?_
  have h := List.all_eq_true.mp h1 c hc
  rcases Bool.eq_false_or_eq_true (isCode c) with hi | hi
  · exact h2 c (List.mem_filter.mpr ⟨hc, hi⟩)
  · simpa [hi] using h
set_option maxRecDepth 65536 in
theorem w_c0 : (Jvm.Cond.code x code maxLocals ret).before args0 about1 = true := code_word (m := ⟨1, 6⟩) (meth := k1m6) (c := k1c6) (by decide +kernel) rfl rfl rfl (by decide +kernel)
set_option maxRecDepth 65536 in
theorem w_c1 : (Jvm.Cond.code ({ cls := "com/example/provisa/provisa/server/BearerTokensPresentedTokenPinLaw", name := "head", desc := "(IZIIJ)C" } : Jvm.MethodName) method_5_code (6 : Nat) (Option.some Jvm.ClassFile.FieldType.char)).before args0 about1 = true := code_word (m := ⟨1, 4⟩) (meth := k1m4) (c := k1c4) (by decide +kernel) rfl rfl rfl (by decide +kernel)
set_option maxRecDepth 65536 in
theorem w_c2 : (Jvm.Cond.code ({ cls := "com/example/provisa/provisa/server/BearerTokensPresentedTokenPinLaw", name := "raw", desc := "(JI)C" } : Jvm.MethodName) method_2_code (3 : Nat) (Option.some Jvm.ClassFile.FieldType.char)).before args0 about1 = true := code_word (m := ⟨1, 1⟩) (meth := k1m1) (c := k1c1) (by decide +kernel) rfl rfl rfl (by decide +kernel)
set_option maxRecDepth 65536 in
theorem w_c3 : (Jvm.Cond.code ({ cls := "java/lang/String", name := "charAt", desc := "(I)C" } : Jvm.MethodName) jdk_42_method_56_code (2 : Nat) (Option.some Jvm.ClassFile.FieldType.char)).before args0 about1 = true := code_word (m := ⟨7, 3⟩) (meth := k7m3) (c := k7c3) (by decide +kernel) rfl rfl rfl (by decide +kernel)
set_option maxRecDepth 65536 in
theorem w_c4 : (Jvm.Cond.code ({ cls := "java/lang/String", name := "isLatin1", desc := "()Z" } : Jvm.MethodName) jdk_42_method_154_code (1 : Nat) (Option.some Jvm.ClassFile.FieldType.boolean)).before args0 about1 = true := code_word (m := ⟨7, 11⟩) (meth := k7m11) (c := k7c11) (by decide +kernel) rfl rfl rfl (by decide +kernel)
set_option maxRecDepth 65536 in
theorem w_c5 : (Jvm.Cond.code ({ cls := "java/lang/StringLatin1", name := "charAt", desc := "([BI)C" } : Jvm.MethodName) jdk_43_method_2_code (2 : Nat) (Option.some Jvm.ClassFile.FieldType.char)).before args0 about1 = true := code_word (m := ⟨8, 1⟩) (meth := k8m1) (c := k8c1) (by decide +kernel) rfl rfl rfl (by decide +kernel)
set_option maxRecDepth 65536 in
theorem w_c6 : (Jvm.Cond.code ({ cls := "java/lang/String", name := "checkIndex", desc := "(II)V" } : Jvm.MethodName) jdk_42_method_155_code (2 : Nat) (Option.none : Option Jvm.ClassFile.FieldType)).before args0 about1 = true := code_word (m := ⟨7, 12⟩) (meth := k7m12) (c := k7c12) (by decide +kernel) rfl rfl rfl (by decide +kernel)
set_option maxRecDepth 65536 in
theorem w_c7 : (Jvm.Cond.code ({ cls := "jdk/internal/util/Preconditions", name := "checkIndex", desc := "(IILjava/util/function/BiFunction;)I" } : Jvm.MethodName) jdk_41_method_11_code (3 : Nat) (Option.some Jvm.ClassFile.FieldType.int)).before args0 about1 = true := code_word (m := ⟨9, 1⟩) (meth := k9m1) (c := k9c1) (by decide +kernel) rfl rfl rfl (by decide +kernel)
set_option maxRecDepth 65536 in
theorem w_c8 : (Jvm.Cond.code ({ cls := "com/example/provisa/provisa/server/BearerTokensPresentedTokenPinLaw", name := "tail", desc := "(CII)C" } : Jvm.MethodName) method_6_code (4 : Nat) (Option.some Jvm.ClassFile.FieldType.char)).before args0 about1 = true := code_word (m := ⟨1, 5⟩) (meth := k1m5) (c := k1c5) (by decide +kernel) rfl rfl rfl (by decide +kernel)
set_option maxRecDepth 65536 in
theorem w_c9 : (Jvm.Cond.code ({ cls := "java/lang/String", name := "<init>", desc := "([C)V" } : Jvm.MethodName) jdk_42_method_3_code (2 : Nat) (Option.none : Option Jvm.ClassFile.FieldType)).before args0 about1 = true := code_word (m := ⟨7, 1⟩) (meth := k7m1) (c := k7c1) (by decide +kernel) rfl rfl rfl (by decide +kernel)
set_option maxRecDepth 65536 in
theorem w_c10 : (Jvm.Cond.code ({ cls := "java/lang/String", name := "<init>", desc := "([CIILjava/lang/Void;)V" } : Jvm.MethodName) jdk_42_method_149_code (6 : Nat) (Option.none : Option Jvm.ClassFile.FieldType)).before args0 about1 = true := code_word (m := ⟨7, 8⟩) (meth := k7m8) (c := k7c8) (by decide +kernel) rfl rfl rfl (by decide +kernel)
set_option maxRecDepth 65536 in
theorem w_c11 : (Jvm.Cond.code ({ cls := "java/lang/Object", name := "<init>", desc := "()V" } : Jvm.MethodName) object_method_1_code (1 : Nat) (Option.none : Option Jvm.ClassFile.FieldType)).before args0 about1 = true := code_word (m := ⟨0, 0⟩) (meth := k0m0) (c := k0c0) (by decide +kernel) rfl rfl rfl (by decide +kernel)
set_option maxRecDepth 65536 in
theorem w_c12 : (Jvm.Cond.code ({ cls := "com/example/provisa/provisa/server/BearerTokens", name := "presentedToken", desc := "(Ljava/lang/String;)Ljava/lang/String;" } : Jvm.MethodName) prog_9_method_4_code (1 : Nat) (Option.some (Jvm.ClassFile.FieldType.object "java/lang/String"))).before args0 about1 = true := code_word (m := ⟨10, 0⟩) (meth := k10m0) (c := k10c0) (by decide +kernel) rfl rfl rfl (by decide +kernel)
set_option maxRecDepth 65536 in
theorem w_c13 : (Jvm.Cond.code ({ cls := "java/lang/String", name := "length", desc := "()I" } : Jvm.MethodName) jdk_42_method_54_code (1 : Nat) (Option.some Jvm.ClassFile.FieldType.int)).before args0 about1 = true := code_word (m := ⟨7, 2⟩) (meth := k7m2) (c := k7c2) (by decide +kernel) rfl rfl rfl (by decide +kernel)
set_option maxRecDepth 65536 in
theorem w_c14 : (Jvm.Cond.code ({ cls := "java/lang/String", name := "coder", desc := "()B" } : Jvm.MethodName) jdk_42_method_152_code (1 : Nat) (Option.some Jvm.ClassFile.FieldType.byte)).before args0 about1 = true := code_word (m := ⟨7, 10⟩) (meth := k7m10) (c := k7c10) (by decide +kernel) rfl rfl rfl (by decide +kernel)
set_option maxRecDepth 65536 in
theorem w_c15 : (Jvm.Cond.code ({ cls := "java/lang/String", name := "regionMatches", desc := "(ZILjava/lang/String;II)Z" } : Jvm.MethodName) jdk_42_method_74_code (9 : Nat) (Option.some Jvm.ClassFile.FieldType.boolean)).before args0 about1 = true := code_word (m := ⟨7, 4⟩) (meth := k7m4) (c := k7c4) (by decide +kernel) rfl rfl rfl (by decide +kernel)
set_option maxRecDepth 65536 in
theorem w_c16 : (Jvm.Cond.code ({ cls := "java/lang/StringUTF16", name := "compress", desc := "([CII)[B" } : Jvm.MethodName) jdk_52_method_16_code (6 : Nat) (Option.some (Jvm.ClassFile.FieldType.array Jvm.ClassFile.FieldType.byte))).before args0 about1 = true := code_word (m := ⟨11, 2⟩) (meth := k11m2) (c := k11c2) (by decide +kernel) rfl rfl rfl (by decide +kernel)
set_option maxRecDepth 65536 in
theorem w_c17 : (Jvm.Cond.code ({ cls := "java/lang/StringUTF16", name := "compress", desc := "([CI[BII)I" } : Jvm.MethodName) jdk_52_method_21_code (7 : Nat) (Option.some Jvm.ClassFile.FieldType.int)).before args0 about1 = true := code_word (m := ⟨11, 3⟩) (meth := k11m3) (c := k11c3) (by decide +kernel) rfl rfl rfl (by decide +kernel)
set_option maxRecDepth 65536 in
theorem w_c18 : (Jvm.Cond.code ({ cls := "java/lang/StringUTF16", name := "coderFromArrayLen", desc := "([BI)B" } : Jvm.MethodName) jdk_52_method_15_code (2 : Nat) (Option.some Jvm.ClassFile.FieldType.byte)).before args0 about1 = true := code_word (m := ⟨11, 1⟩) (meth := k11m1) (c := k11c1) (by decide +kernel) rfl rfl rfl (by decide +kernel)
set_option maxRecDepth 65536 in
theorem w_c19 : (Jvm.Cond.code ({ cls := "java/lang/StringLatin1", name := "regionMatchesCI", desc := "([BI[BII)Z" } : Jvm.MethodName) jdk_43_method_30_code (8 : Nat) (Option.some Jvm.ClassFile.FieldType.boolean)).before args0 about1 = true := code_word (m := ⟨8, 2⟩) (meth := k8m2) (c := k8c2) (by decide +kernel) rfl rfl rfl (by decide +kernel)
set_option maxRecDepth 65536 in
theorem w_c20 : (Jvm.Cond.code ({ cls := "java/lang/CharacterDataLatin1", name := "equalsIgnoreCase", desc := "(BB)Z" } : Jvm.MethodName) jdk_116_method_22_code (3 : Nat) (Option.some Jvm.ClassFile.FieldType.boolean)).before args0 about1 = true := code_word (m := ⟨13, 1⟩) (meth := k13m1) (c := k13c1) (by decide +kernel) rfl rfl rfl (by decide +kernel)
set_option maxRecDepth 65536 in
theorem w_c21 : (Jvm.Cond.code ({ cls := "com/example/provisa/provisa/server/BearerTokensPresentedTokenPinLaw", name := "ci", desc := "(CI)Z" } : Jvm.MethodName) method_4_code (2 : Nat) (Option.some Jvm.ClassFile.FieldType.boolean)).before args0 about1 = true := code_word (m := ⟨1, 3⟩) (meth := k1m3) (c := k1c3) (by decide +kernel) rfl rfl rfl (by decide +kernel)
set_option maxRecDepth 65536 in
theorem w_c22 : (Jvm.Cond.code ({ cls := "java/lang/String", name := "substring", desc := "(I)Ljava/lang/String;" } : Jvm.MethodName) jdk_42_method_91_code (2 : Nat) (Option.some (Jvm.ClassFile.FieldType.object "java/lang/String"))).before args0 about1 = true := code_word (m := ⟨7, 5⟩) (meth := k7m5) (c := k7c5) (by decide +kernel) rfl rfl rfl (by decide +kernel)
set_option maxRecDepth 65536 in
theorem w_c23 : (Jvm.Cond.code ({ cls := "java/lang/String", name := "substring", desc := "(II)Ljava/lang/String;" } : Jvm.MethodName) jdk_42_method_92_code (5 : Nat) (Option.some (Jvm.ClassFile.FieldType.object "java/lang/String"))).before args0 about1 = true := code_word (m := ⟨7, 6⟩) (meth := k7m6) (c := k7c6) (by decide +kernel) rfl rfl rfl (by decide +kernel)
set_option maxRecDepth 65536 in
theorem w_c24 : (Jvm.Cond.code ({ cls := "java/lang/String", name := "checkBoundsBeginEnd", desc := "(III)V" } : Jvm.MethodName) jdk_42_method_158_code (3 : Nat) (Option.none : Option Jvm.ClassFile.FieldType)).before args0 about1 = true := code_word (m := ⟨7, 13⟩) (meth := k7m13) (c := k7c13) (by decide +kernel) rfl rfl rfl (by decide +kernel)
set_option maxRecDepth 65536 in
theorem w_c25 : (Jvm.Cond.code ({ cls := "jdk/internal/util/Preconditions", name := "checkFromToIndex", desc := "(IIILjava/util/function/BiFunction;)I" } : Jvm.MethodName) jdk_41_method_12_code (4 : Nat) (Option.some Jvm.ClassFile.FieldType.int)).before args0 about1 = true := code_word (m := ⟨9, 2⟩) (meth := k9m2) (c := k9c2) (by decide +kernel) rfl rfl rfl (by decide +kernel)
set_option maxRecDepth 65536 in
theorem w_c26 : (Jvm.Cond.code ({ cls := "java/lang/StringLatin1", name := "newString", desc := "([BII)Ljava/lang/String;" } : Jvm.MethodName) jdk_43_method_47_code (3 : Nat) (Option.some (Jvm.ClassFile.FieldType.object "java/lang/String"))).before args0 about1 = true := code_word (m := ⟨8, 7⟩) (meth := k8m7) (c := k8c7) (by decide +kernel) rfl rfl rfl (by decide +kernel)
set_option maxRecDepth 65536 in
theorem w_c27 : (Jvm.Cond.code ({ cls := "java/util/Arrays", name := "copyOfRange", desc := "([BII)[B" } : Jvm.MethodName) jdk_65_method_132_code (3 : Nat) (Option.some (Jvm.ClassFile.FieldType.array Jvm.ClassFile.FieldType.byte))).before args0 about1 = true := code_word (m := ⟨14, 2⟩) (meth := k14m2) (c := k14c2) (by decide +kernel) rfl rfl rfl (by decide +kernel)
set_option maxRecDepth 65536 in
theorem w_c28 : (Jvm.Cond.code ({ cls := "java/util/Arrays", name := "copyOfRangeByte", desc := "([BII)[B" } : Jvm.MethodName) jdk_65_method_133_code (5 : Nat) (Option.some (Jvm.ClassFile.FieldType.array Jvm.ClassFile.FieldType.byte))).before args0 about1 = true := code_word (m := ⟨14, 3⟩) (meth := k14m3) (c := k14c3) (by decide +kernel) rfl rfl rfl (by decide +kernel)
set_option maxRecDepth 65536 in
theorem w_c29 : (Jvm.Cond.code ({ cls := "java/util/Arrays", name := "checkLength", desc := "(II)V" } : Jvm.MethodName) jdk_65_method_131_code (2 : Nat) (Option.none : Option Jvm.ClassFile.FieldType)).before args0 about1 = true := code_word (m := ⟨14, 1⟩) (meth := k14m1) (c := k14c1) (by decide +kernel) rfl rfl rfl (by decide +kernel)
set_option maxRecDepth 65536 in
theorem w_c30 : (Jvm.Cond.code ({ cls := "java/lang/Math", name := "min", desc := "(II)I" } : Jvm.MethodName) jdk_29_method_69_code (2 : Nat) (Option.some Jvm.ClassFile.FieldType.int)).before args0 about1 = true := code_word (m := ⟨15, 1⟩) (meth := k15m1) (c := k15c1) (by decide +kernel) rfl rfl rfl (by decide +kernel)
set_option maxRecDepth 65536 in
theorem w_c31 : (Jvm.Cond.code ({ cls := "java/lang/String", name := "<init>", desc := "([BB)V" } : Jvm.MethodName) jdk_42_method_151_code (3 : Nat) (Option.none : Option Jvm.ClassFile.FieldType)).before args0 about1 = true := code_word (m := ⟨7, 9⟩) (meth := k7m9) (c := k7c9) (by decide +kernel) rfl rfl rfl (by decide +kernel)
set_option maxRecDepth 65536 in
theorem w_c32 : (Jvm.Cond.code ({ cls := "java/lang/String", name := "strip", desc := "()Ljava/lang/String;" } : Jvm.MethodName) jdk_42_method_114_code (2 : Nat) (Option.some (Jvm.ClassFile.FieldType.object "java/lang/String"))).before args0 about1 = true := code_word (m := ⟨7, 7⟩) (meth := k7m7) (c := k7c7) (by decide +kernel) rfl rfl rfl (by decide +kernel)
set_option maxRecDepth 65536 in
theorem w_c33 : (Jvm.Cond.code ({ cls := "java/lang/StringLatin1", name := "strip", desc := "([B)Ljava/lang/String;" } : Jvm.MethodName) jdk_43_method_39_code (4 : Nat) (Option.some (Jvm.ClassFile.FieldType.object "java/lang/String"))).before args0 about1 = true := code_word (m := ⟨8, 5⟩) (meth := k8m5) (c := k8c5) (by decide +kernel) rfl rfl rfl (by decide +kernel)
set_option maxRecDepth 65536 in
theorem w_c34 : (Jvm.Cond.code ({ cls := "java/lang/StringLatin1", name := "indexOfNonWhitespace", desc := "([B)I" } : Jvm.MethodName) jdk_43_method_37_code (4 : Nat) (Option.some Jvm.ClassFile.FieldType.int)).before args0 about1 = true := code_word (m := ⟨8, 3⟩) (meth := k8m3) (c := k8c3) (by decide +kernel) rfl rfl rfl (by decide +kernel)
set_option maxRecDepth 65536 in
theorem w_c35 : (Jvm.Cond.code ({ cls := "java/lang/StringLatin1", name := "getChar", desc := "([BI)C" } : Jvm.MethodName) jdk_43_method_44_code (2 : Nat) (Option.some Jvm.ClassFile.FieldType.char)).before args0 about1 = true := code_word (m := ⟨8, 6⟩) (meth := k8m6) (c := k8c6) (by decide +kernel) rfl rfl rfl (by decide +kernel)
set_option maxRecDepth 65536 in
theorem w_c36 : (Jvm.Cond.code ({ cls := "java/lang/CharacterDataLatin1", name := "isWhitespace", desc := "(I)Z" } : Jvm.MethodName) jdk_116_method_26_code (3 : Nat) (Option.some Jvm.ClassFile.FieldType.boolean)).before args0 about1 = true := code_word (m := ⟨13, 2⟩) (meth := k13m2) (c := k13c2) (by decide +kernel) rfl rfl rfl (by decide +kernel)
set_option maxRecDepth 65536 in
theorem w_c37 : (Jvm.Cond.code ({ cls := "java/lang/CharacterDataLatin1", name := "getProperties", desc := "(I)I" } : Jvm.MethodName) jdk_116_method_1_code (4 : Nat) (Option.some Jvm.ClassFile.FieldType.int)).before args0 about1 = true := code_word (m := ⟨13, 0⟩) (meth := k13m0) (c := k13c0) (by decide +kernel) rfl rfl rfl (by decide +kernel)
set_option maxRecDepth 65536 in
theorem w_c38 : (Jvm.Cond.code ({ cls := "java/lang/StringLatin1", name := "lastIndexOfNonWhitespace", desc := "([B)I" } : Jvm.MethodName) jdk_43_method_38_code (4 : Nat) (Option.some Jvm.ClassFile.FieldType.int)).before args0 about1 = true := code_word (m := ⟨8, 4⟩) (meth := k8m4) (c := k8c4) (by decide +kernel) rfl rfl rfl (by decide +kernel)
set_option maxRecDepth 65536 in
theorem w_c39 : (Jvm.Cond.code ({ cls := "com/example/provisa/provisa/server/BearerTokensPresentedTokenPinLaw", name := "ws", desc := "(C)Z" } : Jvm.MethodName) method_3_code (1 : Nat) (Option.some Jvm.ClassFile.FieldType.boolean)).before args0 about1 = true := code_word (m := ⟨1, 2⟩) (meth := k1m2) (c := k1c2) (by decide +kernel) rfl rfl rfl (by decide +kernel)
def codes1 : List Jvm.Cond := [Jvm.Cond.code x code maxLocals ret, Jvm.Cond.code ({ cls := "com/example/provisa/provisa/server/BearerTokensPresentedTokenPinLaw", name := "head", desc := "(IZIIJ)C" } : Jvm.MethodName) method_5_code (6 : Nat) (Option.some Jvm.ClassFile.FieldType.char), Jvm.Cond.code ({ cls := "com/example/provisa/provisa/server/BearerTokensPresentedTokenPinLaw", name := "raw", desc := "(JI)C" } : Jvm.MethodName) method_2_code (3 : Nat) (Option.some Jvm.ClassFile.FieldType.char), Jvm.Cond.code ({ cls := "java/lang/String", name := "charAt", desc := "(I)C" } : Jvm.MethodName) jdk_42_method_56_code (2 : Nat) (Option.some Jvm.ClassFile.FieldType.char), Jvm.Cond.code ({ cls := "java/lang/String", name := "isLatin1", desc := "()Z" } : Jvm.MethodName) jdk_42_method_154_code (1 : Nat) (Option.some Jvm.ClassFile.FieldType.boolean), Jvm.Cond.code ({ cls := "java/lang/StringLatin1", name := "charAt", desc := "([BI)C" } : Jvm.MethodName) jdk_43_method_2_code (2 : Nat) (Option.some Jvm.ClassFile.FieldType.char), Jvm.Cond.code ({ cls := "java/lang/String", name := "checkIndex", desc := "(II)V" } : Jvm.MethodName) jdk_42_method_155_code (2 : Nat) (Option.none : Option Jvm.ClassFile.FieldType), Jvm.Cond.code ({ cls := "jdk/internal/util/Preconditions", name := "checkIndex", desc := "(IILjava/util/function/BiFunction;)I" } : Jvm.MethodName) jdk_41_method_11_code (3 : Nat) (Option.some Jvm.ClassFile.FieldType.int), Jvm.Cond.code ({ cls := "com/example/provisa/provisa/server/BearerTokensPresentedTokenPinLaw", name := "tail", desc := "(CII)C" } : Jvm.MethodName) method_6_code (4 : Nat) (Option.some Jvm.ClassFile.FieldType.char), Jvm.Cond.code ({ cls := "java/lang/String", name := "<init>", desc := "([C)V" } : Jvm.MethodName) jdk_42_method_3_code (2 : Nat) (Option.none : Option Jvm.ClassFile.FieldType), Jvm.Cond.code ({ cls := "java/lang/String", name := "<init>", desc := "([CIILjava/lang/Void;)V" } : Jvm.MethodName) jdk_42_method_149_code (6 : Nat) (Option.none : Option Jvm.ClassFile.FieldType), Jvm.Cond.code ({ cls := "java/lang/Object", name := "<init>", desc := "()V" } : Jvm.MethodName) object_method_1_code (1 : Nat) (Option.none : Option Jvm.ClassFile.FieldType), Jvm.Cond.code ({ cls := "com/example/provisa/provisa/server/BearerTokens", name := "presentedToken", desc := "(Ljava/lang/String;)Ljava/lang/String;" } : Jvm.MethodName) prog_9_method_4_code (1 : Nat) (Option.some (Jvm.ClassFile.FieldType.object "java/lang/String")), Jvm.Cond.code ({ cls := "java/lang/String", name := "length", desc := "()I" } : Jvm.MethodName) jdk_42_method_54_code (1 : Nat) (Option.some Jvm.ClassFile.FieldType.int), Jvm.Cond.code ({ cls := "java/lang/String", name := "coder", desc := "()B" } : Jvm.MethodName) jdk_42_method_152_code (1 : Nat) (Option.some Jvm.ClassFile.FieldType.byte), Jvm.Cond.code ({ cls := "java/lang/String", name := "regionMatches", desc := "(ZILjava/lang/String;II)Z" } : Jvm.MethodName) jdk_42_method_74_code (9 : Nat) (Option.some Jvm.ClassFile.FieldType.boolean), Jvm.Cond.code ({ cls := "java/lang/StringUTF16", name := "compress", desc := "([CII)[B" } : Jvm.MethodName) jdk_52_method_16_code (6 : Nat) (Option.some (Jvm.ClassFile.FieldType.array Jvm.ClassFile.FieldType.byte)), Jvm.Cond.code ({ cls := "java/lang/StringUTF16", name := "compress", desc := "([CI[BII)I" } : Jvm.MethodName) jdk_52_method_21_code (7 : Nat) (Option.some Jvm.ClassFile.FieldType.int), Jvm.Cond.code ({ cls := "java/lang/StringUTF16", name := "coderFromArrayLen", desc := "([BI)B" } : Jvm.MethodName) jdk_52_method_15_code (2 : Nat) (Option.some Jvm.ClassFile.FieldType.byte), Jvm.Cond.code ({ cls := "java/lang/StringLatin1", name := "regionMatchesCI", desc := "([BI[BII)Z" } : Jvm.MethodName) jdk_43_method_30_code (8 : Nat) (Option.some Jvm.ClassFile.FieldType.boolean), Jvm.Cond.code ({ cls := "java/lang/CharacterDataLatin1", name := "equalsIgnoreCase", desc := "(BB)Z" } : Jvm.MethodName) jdk_116_method_22_code (3 : Nat) (Option.some Jvm.ClassFile.FieldType.boolean), Jvm.Cond.code ({ cls := "com/example/provisa/provisa/server/BearerTokensPresentedTokenPinLaw", name := "ci", desc := "(CI)Z" } : Jvm.MethodName) method_4_code (2 : Nat) (Option.some Jvm.ClassFile.FieldType.boolean), Jvm.Cond.code ({ cls := "java/lang/String", name := "substring", desc := "(I)Ljava/lang/String;" } : Jvm.MethodName) jdk_42_method_91_code (2 : Nat) (Option.some (Jvm.ClassFile.FieldType.object "java/lang/String")), Jvm.Cond.code ({ cls := "java/lang/String", name := "substring", desc := "(II)Ljava/lang/String;" } : Jvm.MethodName) jdk_42_method_92_code (5 : Nat) (Option.some (Jvm.ClassFile.FieldType.object "java/lang/String")), Jvm.Cond.code ({ cls := "java/lang/String", name := "checkBoundsBeginEnd", desc := "(III)V" } : Jvm.MethodName) jdk_42_method_158_code (3 : Nat) (Option.none : Option Jvm.ClassFile.FieldType), Jvm.Cond.code ({ cls := "jdk/internal/util/Preconditions", name := "checkFromToIndex", desc := "(IIILjava/util/function/BiFunction;)I" } : Jvm.MethodName) jdk_41_method_12_code (4 : Nat) (Option.some Jvm.ClassFile.FieldType.int), Jvm.Cond.code ({ cls := "java/lang/StringLatin1", name := "newString", desc := "([BII)Ljava/lang/String;" } : Jvm.MethodName) jdk_43_method_47_code (3 : Nat) (Option.some (Jvm.ClassFile.FieldType.object "java/lang/String")), Jvm.Cond.code ({ cls := "java/util/Arrays", name := "copyOfRange", desc := "([BII)[B" } : Jvm.MethodName) jdk_65_method_132_code (3 : Nat) (Option.some (Jvm.ClassFile.FieldType.array Jvm.ClassFile.FieldType.byte)), Jvm.Cond.code ({ cls := "java/util/Arrays", name := "copyOfRangeByte", desc := "([BII)[B" } : Jvm.MethodName) jdk_65_method_133_code (5 : Nat) (Option.some (Jvm.ClassFile.FieldType.array Jvm.ClassFile.FieldType.byte)), Jvm.Cond.code ({ cls := "java/util/Arrays", name := "checkLength", desc := "(II)V" } : Jvm.MethodName) jdk_65_method_131_code (2 : Nat) (Option.none : Option Jvm.ClassFile.FieldType), Jvm.Cond.code ({ cls := "java/lang/Math", name := "min", desc := "(II)I" } : Jvm.MethodName) jdk_29_method_69_code (2 : Nat) (Option.some Jvm.ClassFile.FieldType.int), Jvm.Cond.code ({ cls := "java/lang/String", name := "<init>", desc := "([BB)V" } : Jvm.MethodName) jdk_42_method_151_code (3 : Nat) (Option.none : Option Jvm.ClassFile.FieldType), Jvm.Cond.code ({ cls := "java/lang/String", name := "strip", desc := "()Ljava/lang/String;" } : Jvm.MethodName) jdk_42_method_114_code (2 : Nat) (Option.some (Jvm.ClassFile.FieldType.object "java/lang/String")), Jvm.Cond.code ({ cls := "java/lang/StringLatin1", name := "strip", desc := "([B)Ljava/lang/String;" } : Jvm.MethodName) jdk_43_method_39_code (4 : Nat) (Option.some (Jvm.ClassFile.FieldType.object "java/lang/String")), Jvm.Cond.code ({ cls := "java/lang/StringLatin1", name := "indexOfNonWhitespace", desc := "([B)I" } : Jvm.MethodName) jdk_43_method_37_code (4 : Nat) (Option.some Jvm.ClassFile.FieldType.int), Jvm.Cond.code ({ cls := "java/lang/StringLatin1", name := "getChar", desc := "([BI)C" } : Jvm.MethodName) jdk_43_method_44_code (2 : Nat) (Option.some Jvm.ClassFile.FieldType.char), Jvm.Cond.code ({ cls := "java/lang/CharacterDataLatin1", name := "isWhitespace", desc := "(I)Z" } : Jvm.MethodName) jdk_116_method_26_code (3 : Nat) (Option.some Jvm.ClassFile.FieldType.boolean), Jvm.Cond.code ({ cls := "java/lang/CharacterDataLatin1", name := "getProperties", desc := "(I)I" } : Jvm.MethodName) jdk_116_method_1_code (4 : Nat) (Option.some Jvm.ClassFile.FieldType.int), Jvm.Cond.code ({ cls := "java/lang/StringLatin1", name := "lastIndexOfNonWhitespace", desc := "([B)I" } : Jvm.MethodName) jdk_43_method_38_code (4 : Nat) (Option.some Jvm.ClassFile.FieldType.int), Jvm.Cond.code ({ cls := "com/example/provisa/provisa/server/BearerTokensPresentedTokenPinLaw", name := "ws", desc := "(C)Z" } : Jvm.MethodName) method_3_code (1 : Nat) (Option.some Jvm.ClassFile.FieldType.boolean)]
set_option maxRecDepth 65536 in
theorem codes_eq : words1.filter isCode = codes1 := rfl
theorem w_codes : ∀ c ∈ words1.filter isCode, c.before args0 about1 = true := by
  rw [codes_eq]
  intro c hc
  simp only [codes1, List.mem_cons, List.not_mem_nil, or_false] at hc
  rcases hc with rfl | rfl | rfl | rfl | rfl | rfl | rfl | rfl | rfl | rfl | rfl | rfl | rfl | rfl | rfl | rfl | rfl | rfl | rfl | rfl | rfl | rfl | rfl | rfl | rfl | rfl | rfl | rfl | rfl | rfl | rfl | rfl | rfl | rfl | rfl | rfl | rfl | rfl | rfl | rfl
  · exact w_c0
  · exact w_c1
  · exact w_c2
  · exact w_c3
  · exact w_c4
  · exact w_c5
  · exact w_c6
  · exact w_c7
  · exact w_c8
  · exact w_c9
  · exact w_c10
  · exact w_c11
  · exact w_c12
  · exact w_c13
  · exact w_c14
  · exact w_c15
  · exact w_c16
  · exact w_c17
  · exact w_c18
  · exact w_c19
  · exact w_c20
  · exact w_c21
  · exact w_c22
  · exact w_c23
  · exact w_c24
  · exact w_c25
  · exact w_c26
  · exact w_c27
  · exact w_c28
  · exact w_c29
  · exact w_c30
  · exact w_c31
  · exact w_c32
  · exact w_c33
  · exact w_c34
  · exact w_c35
  · exact w_c36
  · exact w_c37
  · exact w_c38
  · exact w_c39
set_option maxRecDepth 65536 in
theorem w_t1 : (words1.take 24).all (fun c => isCode c || c.before args0 about1) = true := by decide +kernel
set_option maxRecDepth 65536 in
theorem w_t2 : ((words1.drop 24).take 24).all (fun c => isCode c || c.before args0 about1) = true := by decide +kernel
set_option maxRecDepth 65536 in
theorem w_t3 : (((words1.drop 24).drop 24).take 24).all (fun c => isCode c || c.before args0 about1) = true := by decide +kernel
set_option maxRecDepth 65536 in
theorem w_t4 : ((((words1.drop 24).drop 24).drop 24).take 24).all (fun c => isCode c || c.before args0 about1) = true := by decide +kernel
set_option maxRecDepth 65536 in
theorem w_t5 : (((((words1.drop 24).drop 24).drop 24).drop 24).take 24).all (fun c => isCode c || c.before args0 about1) = true := by decide +kernel
set_option maxRecDepth 65536 in
theorem w_t6 : ((((((words1.drop 24).drop 24).drop 24).drop 24).drop 24).take 24).all (fun c => isCode c || c.before args0 about1) = true := by decide +kernel
set_option maxRecDepth 65536 in
theorem w_t7 : (((((((words1.drop 24).drop 24).drop 24).drop 24).drop 24).drop 24).take 24).all (fun c => isCode c || c.before args0 about1) = true := by decide +kernel
set_option maxRecDepth 65536 in
theorem w_t8 : (((((((words1.drop 24).drop 24).drop 24).drop 24).drop 24).drop 24).drop 24).all (fun c => isCode c || c.before args0 about1) = true := by decide +kernel
theorem w_tables : (allAtoms (Jvm.Cond.code x code maxLocals ret :: tables_1)).before args0 about1 = true := by
  rw [allAtoms_all]
  show words1.all (fun c => c.before args0 about1) = true
  refine all_split ?_ w_codes
  rw [← List.take_append_drop 24 words1, List.all_append, w_t1, ← List.take_append_drop 24 (words1.drop 24), List.all_append, w_t2, ← List.take_append_drop 24 ((words1.drop 24).drop 24), List.all_append, w_t3, ← List.take_append_drop 24 (((words1.drop 24).drop 24).drop 24), List.all_append, w_t4, ← List.take_append_drop 24 ((((words1.drop 24).drop 24).drop 24).drop 24), List.all_append, w_t5, ← List.take_append_drop 24 (((((words1.drop 24).drop 24).drop 24).drop 24).drop 24), List.all_append, w_t6, ← List.take_append_drop 24 ((((((words1.drop 24).drop 24).drop 24).drop 24).drop 24).drop 24), List.all_append, w_t7, w_t8]
  rfl
set_option maxRecDepth 65536 in
theorem w_rest : rest_1_c.before args0 about1 = true := by decide +kernel
set_option maxRecDepth 65536 in
theorem w_case : (Jvm.Cond.and given_1 narrow_1).before args0 about1 = true := by decide +kernel
set_option maxRecDepth 65536 in
theorem w_consts : constsHeld consts_1 about1 := Jvm.Lit.constsHeldB_iff.mp (by decide +kernel)
theorem w_applies : (headSpec (Jvm.Cond.code x code maxLocals ret :: tables_1) room_1).applies x e0.platform about1 = true :=
  (Spec.applies_iff w_frames).mpr ⟨w_running, w_runnable, w_alone, w_named, w_hears, w_ripe, w_room, w_tables⟩
theorem atStart : AtStart classFile x code maxLocals ret World_1 tables_1 room_1 Calls_1 rest_1 Pre_1 launch0 p0 e0 about1 theMethod args0 below0 :=
  ⟨lists_1, trivial, launch0.admits_env _ _ _, launch0.least_env, fairChoices_fair.cas, fairChoices_fair.clock, w_frames, w_args, w_heap, w_applies, ⟨w_consts, trivial⟩, w_rest, w_case⟩
end start1
theorem witness_1 : WitnessClaimed_1 := ⟨start1.p0, start1.e0, start1.about1, start1.theMethod, start1.args0, start1.below0, start1.atStart⟩
end Jvm.Pilot.@@N@@
