import JvmDerived
import JvmDerived.Pilot.@@N@@Statement
import JvmDerived.Pilot.@@N@@Code
set_option linter.unusedVariables false
set_option linter.unusedSimpArgs false
namespace Jvm.OwnKit
open Sem ClassFile Op Lib Jvm.Stand Jvm.Free Jvm.LawKit Jvm.RoadKit
/-- the contract of a body: from these arguments at this heap it returns, and Q says what it left -/
abbrev Con (l : Launch) (Z : State) (y : MethodName) (bytes : ByteArray) (maxL : Nat) (ret : Option FieldType) (ws : List Jvm.Cond) (rm : Room) (as' : Array Value) (h0 : Heap) (Q : Option Value → Heap → List Loc → Prop) : Prop :=
  MetFree l y (head1 (Jvm.Cond.code y bytes maxL ret :: ws) rm) (fun a U => a = as' ∧ Z.Warmed39 U.vm ∧ U.heap = h0) (fun _ _ _ _ _ => True) (fun _ U o U' => ∃ v L, o = .returned v ∧ Q v U'.heap L ∧ FrameEnd U o U' L rm.cells rm.slots)
/-- how a body ends -/
abbrev EndQ (s : State) (rm : Room) (Q : Option Value → Heap → List Loc → Prop) : Outcome → State → Prop := fun o t => ∃ v L, o = .returned v ∧ Q v t.heap L ∧ FrameEnd s o t L rm.cells rm.slots
/-- from this frame on the body comes to its end, and Qe holds there -/
def Goes (p : Program) (e : Env) (below : List Frame) (Qe : Outcome → State → Prop) (T : State) (g : JFrame) : Prop :=
  ∃ s₂ o, Steps p.tables e below (T.setTop g) s₂ ∧ s₂.status = .running ∧ Ended s₂ below o ∧ Qe o s₂
section K
variable {p : Program} {l : Launch} {e : Env} {R : Room} {s : State} {m : MethodId} {args : Array Value} {below : List Frame} {meth : Method} {c : Code} {T T' : State} {locs : List Loc} {cells slots : Nat} {Qe : Outcome → State → Prop} {g g' : JFrame} {Z : State} {a0 : Array Value} {h : Heap}
theorem Goes.step (st : ∀ t, Steps p.tables e below (T'.setTop g') t → Steps p.tables e below (T.setTop g) t) (k : Goes p e below Qe T' g') : Goes p e below Qe T g := by
  obtain ⟨s₂, o, h1, h2⟩ := k
  exact ⟨s₂, o, st _ h1, h2⟩
theorem Goes.cast (q : g' = g) (k : Goes p e below Qe T g') : Goes p e below Qe T g := q ▸ k
theorem Con.intro {y : MethodName} {bytes : ByteArray} {maxL : Nat} {ret : Option FieldType} {ws : List Jvm.Cond} {rm : Room} {as' : Array Value} {h0 : Heap} {Q : Option Value → Heap → List Loc → Prop} (hpl : plainFor y = true)
    (body : ∀ (p : Program) (e : Env) (s : State) (m : MethodId) (below : List Frame) (meth : Method) (c : Code) (s₁ : State), p.tables.exec = Jvm.exec → c.code = bytes → c.maxLocals = maxL → s.vm.findClass y.cls = some m.cls →
      meth.sig.returnType = ret → meth.locks = false → Z.Warmed39 s.vm → meth.name = y.name → Stand p l e rm s m as' below meth c s₁ [] 0 0 → s₁.heap = h0 → Goes p e below (EndQ s rm Q) s₁ (entryFrame m as' maxL)) :
    Con l Z y bytes maxL ret ws rm as' h0 Q := by
  refine MetFree.of_bodySF hpl hisR ?_
  intro p e s m args below meth c s₁ Bd hml0 hP hK
  obtain ⟨rfl, hZ, hh⟩ := hP
  exact body p e s m below meth c s₁ Bd.exec Bd.bytes hml0 (findClass_of_methodNamed Bd.named) Bd.returns Bd.notSynchronized hZ (name_of_methodNamed Bd.named Bd.method).1 (Stand.of_body Bd) (by rw [← hh, Bd.state]; rfl)
theorem Goes.ret {Q : Option Value → Heap → List Loc → Prop} {rm : Room} (X : Stand p l e R s m args below meth c T locs cells slots) (hx : p.tables.exec = Jvm.exec) {pc : Nat} {Ls : Array Slot} {w : Value} {t : FieldType} {i : Instr} {rest : List Value} (hret : meth.sig.returnType = some t) (hlk : meth.locks = false) (hn : narrow t w = w)
    (hi : (i = .ireturn ∧ (t = .int ∨ t = .boolean ∨ t = .byte ∨ t = .char ∨ t = .short) ∧ ∃ z, w = .int z) ∨ (i = .lreturn ∧ t = .long ∧ ∃ z, w = .long z) ∨ (i = .dreturn ∧ t = .double ∧ ∃ z, w = .double z) ∨ (i = .freturn ∧ t = .float ∧ ∃ z, w = .float z) ∨ (i = .areturn ∧ t.isReference = true ∧ w.isRef = true))
    (hd : decode c.code pc = .ok (i, 1)) (hc : cells ≤ rm.cells) (hs : slots ≤ rm.slots) (hQ : Q (some w) T.heap locs) : Goes p e below (EndQ s rm Q) T (mkF m pc Ls (w :: rest)) := by
  obtain ⟨fs, hr, hrun, hended, hW, hsame⟩ := X.leave (v := some w) (fun h => by rw [hret] at h; cases h) hlk
  exact ⟨_, _, retOut X hx hret hn hi hd hr, hrun, hended, _, _, rfl, hQ, ⟨_, rfl⟩, hW, hsame.mono hc hs⟩
theorem Goes.retV {Q : Option Value → Heap → List Loc → Prop} {rm : Room} (X : Stand p l e R s m args below meth c T locs cells slots) (hx : p.tables.exec = Jvm.exec) {pc : Nat} {Ls : Array Slot} (hret : meth.sig.returnType = none) (hlk : meth.locks = false)
    (hd : decode c.code pc = .ok (.return_, 1)) (hc : cells ≤ rm.cells) (hs : slots ≤ rm.slots) (hQ : Q none T.heap locs) : Goes p e below (EndQ s rm Q) T (mkF m pc Ls []) := by
  obtain ⟨fs, hr, hrun, hended, hW, hsame⟩ := X.leave (v := none) (fun _ => rfl) hlk
  exact ⟨_, _, X.returnOut hx hret hd hr, hrun, hended, _, _, rfl, hQ, ⟨_, rfl⟩, hW, hsame.mono hc hs⟩
theorem riI {z : Int32} {t : FieldType} (ht : t = .int ∨ t = .boolean ∨ t = .byte ∨ t = .char ∨ t = .short) : (Instr.ireturn = .ireturn ∧ (t = .int ∨ t = .boolean ∨ t = .byte ∨ t = .char ∨ t = .short) ∧ ∃ y, Value.int z = .int y) ∨ (Instr.ireturn = .lreturn ∧ t = .long ∧ ∃ y, Value.int z = .long y) ∨ (Instr.ireturn = .dreturn ∧ t = .double ∧ ∃ y, Value.int z = .double y) ∨ (Instr.ireturn = .freturn ∧ t = .float ∧ ∃ y, Value.int z = .float y) ∨ (Instr.ireturn = .areturn ∧ t.isReference = true ∧ (Value.int z).isRef = true) := Or.inl ⟨rfl, ht, z, rfl⟩
/-- a static call by its contract -/
theorem scall (X : Stand p l e R s m args below meth c T locs cells slots) (hx : p.tables.exec = Jvm.exec) (hZ : Z.Warmed39 s.vm) {own : String} {index : Nat} {y : MethodName} {bytes : ByteArray} {maxL : Nat} {ret : Option FieldType} (hown : s.vm.findClass own = some m.cls)
    (w1 : (Jvm.Cond.methodLink own index y).before a0 Z = true) (w2 : (Jvm.Cond.static y).before a0 Z = true) (w3 : (Jvm.Cond.initialized y.cls).before a0 Z = true) (w4 : (Jvm.Cond.code y bytes maxL ret).before a0 Z = true) (hy : y.cls ≠ "java/lang/invoke/MethodHandle" ∧ y.cls ≠ "java/lang/invoke/VarHandle")
    {W : Nat} {rm : Room} {as' : Array Value} {Q : Option Value → Heap → List Loc → Prop} (hM : Con l Z y bytes maxL ret [] rm as' h Q) (eT : T.heap = h) (hf : rm.frames + 1 ≤ R.frames) (hl : W + (maxL + 11) + rm.locals ≤ R.locals) (hc : cells + rm.cells ≤ R.cells) (hs : slots + rm.slots ≤ R.slots)
    {g : JFrame} (hg : g.method = m) (hsize : g.locals.size = c.maxLocals) {argsL rest : List Value} {ps : List FieldType} {r : Option FieldType} (hpd : parseMethodDescriptor y.desc = some ⟨ps, r⟩) (hlen : argsL.length = ps.length) (hstack : g.stack = argsL.reverse ++ rest) (has : argsL.toArray = as') (hW : 2 * g.monitorRoom + (rest.map fun v => v.category).sum ≤ W)
    (hdg : decode c.code g.pc = .ok (.invokestatic index, 3)) :
    ∃ (v : Option Value) (T' : State) (L : List Loc), Stand p l e R s m args below meth c T' (locs ++ L) (cells + rm.cells) (slots + rm.slots) ∧ Q v T'.heap L ∧
      ∀ target, Steps p.tables e below (T'.setTop { g with pc := g.pc + 3, stack := v.toList ++ rest }) target → Steps p.tables e below (T.setTop g) target := by
  obtain ⟨v, vm₁, ⟨T', L', k', n'⟩, -, X', ⟨L, hQ, e1, e2, e3⟩, st⟩ := Jvm.LawKit.callS X hx hown (mvT hZ w1) (mvT hZ w2) (mvT hZ w3) (mvT hZ w4) hy (backOf (W := W) hM hZ w4 w3 hf hl) hg hsize (lenOf hpd hlen) hstack hW hdg (fun _ _ => ⟨has, eT, hc, hs⟩)
  dsimp only [Pt.U, Pt.locs, Pt.cells, Pt.slots] at X' e1 e2 e3 st hQ
  subst e1 e2 e3
  exact ⟨v, T', L, X', hQ, st⟩
/-- a constructor by its contract -/
theorem icall (X : Stand p l e R s m args below meth c T locs cells slots) (hx : p.tables.exec = Jvm.exec) (hZ : Z.Warmed39 s.vm) {own : String} {index : Nat} {y : MethodName} {bytes : ByteArray} {maxL : Nat} (hy1 : y.name = "<init>") (hown : s.vm.findClass own = some m.cls)
    (w1 : (Jvm.Cond.methodLink own index y).before a0 Z = true) (w2 : (Jvm.Cond.instanceMethod y).before a0 Z = true) (w3 : (Jvm.Cond.initialized y.cls).before a0 Z = true) (w4 : (Jvm.Cond.code y bytes maxL none).before a0 Z = true) (hy : y.cls ≠ "java/lang/invoke/MethodHandle" ∧ y.cls ≠ "java/lang/invoke/VarHandle")
    {W : Nat} {rm : Room} {as' : Array Value} {Q : Option Value → Heap → List Loc → Prop} (hM : Con l Z y bytes maxL none [] rm as' h Q) (eT : T.heap = h) (hf : rm.frames + 1 ≤ R.frames) (hl : W + (maxL + 11) + rm.locals ≤ R.locals) (hc : cells + rm.cells ≤ R.cells) (hs : slots + rm.slots ≤ R.slots)
    {g : JFrame} (hg : g.method = m) (hsize : g.locals.size = c.maxLocals) {a : Addr} {argsL rest : List Value} {ps : List FieldType} {r : Option FieldType} (hpd : parseMethodDescriptor y.desc = some ⟨ps, r⟩) (hlen : argsL.length = ps.length) (hstack : g.stack = argsL.reverse ++ .ref a :: rest) (has : (Value.ref a :: argsL).toArray = as') (hW : 2 * g.monitorRoom + (rest.map fun v => v.category).sum ≤ W)
    (hdg : decode c.code g.pc = .ok (.invokespecial index, 3)) :
    ∃ (v : Option Value) (T' : State) (L : List Loc), Stand p l e R s m args below meth c T' (locs ++ L) (cells + rm.cells) (slots + rm.slots) ∧ Q v T'.heap L ∧
      ∀ target, Steps p.tables e below (T'.setTop { g with pc := g.pc + 3, stack := v.toList ++ rest }) target → Steps p.tables e below (T.setTop g) target := by
  obtain ⟨v, vm₁, ⟨T', L', k', n'⟩, -, X', ⟨L, hQ, e1, e2, e3⟩, st⟩ := X.specialBack hx hy1 hown (mvT hZ w1) (mvT hZ w2) (mvT hZ w4) hy (backOf (W := W) hM hZ w4 w3 hf hl) hg hsize (Steps.refl _) (lenOf hpd hlen) hstack hW hdg (fun _ _ => ⟨has, eT, hc, hs⟩)
  dsimp only [Pt.U, Pt.locs, Pt.cells, Pt.slots] at X' e1 e2 e3 st hQ
  subst e1 e2 e3
  exact ⟨v, T', L, X', hQ, fun t k => st.trans k⟩
theorem own_nf {C : String} {x' y z : MethodName} (w : (Jvm.Cond.selects C x' z).before args s = true) (hz : z.cls = y.cls) : NotFace s y := fun r0 h0 => by
  obtain ⟨c2, r2, m2, q1, q2, q3, q4, kP, hkP, hkPi⟩ := Cond.selects_spec w
  have a := findClass_of_methodNamed q3
  have b := findClass_of_methodNamed h0
  rw [hz] at a
  have e : m2.cls = r0.cls := Option.some.inj (a.symm.trans b)
  exact ⟨kP, e ▸ hkP, hkPi⟩
/-- an instance method by the contract of the body that is selected -/
theorem vcall (X : Stand p l e R s m args below meth c T locs cells slots) (hx : p.tables.exec = Jvm.exec) (hZ : Z.Warmed39 s.vm) {own C : String} {index : Nat} {y z : MethodName} {bytes : ByteArray} {maxL : Nat} {ret : Option FieldType} (hown : s.vm.findClass own = some m.cls)
    (w1 : (Jvm.Cond.methodLink own index y).before a0 Z = true) (w2 : (Jvm.Cond.declares y).before a0 Z = true) {C2 : String} {x2 z2 : MethodName} (w7 : (Jvm.Cond.selects C2 x2 z2).before a0 Z = true) (h7 : z2.cls = y.cls) (w5 : (Jvm.Cond.selects C y z).before a0 Z = true) (w6 : (Jvm.Cond.instanceMethod z).before a0 Z = true) (w3 : (Jvm.Cond.initialized z.cls).before a0 Z = true) (w4 : (Jvm.Cond.code z bytes maxL ret).before a0 Z = true) (hy : y.cls ≠ "java/lang/invoke/MethodHandle" ∧ y.cls ≠ "java/lang/invoke/VarHandle")
    {W : Nat} {rm : Room} {as' : Array Value} {Q : Option Value → Heap → List Loc → Prop} (hM : Con l Z z bytes maxL ret [] rm as' h Q) (eT : T.heap = h) (hf : rm.frames + 1 ≤ R.frames) (hl : W + (maxL + 11) + rm.locals ≤ R.locals) (hc : cells + rm.cells ≤ R.cells) (hs : slots + rm.slots ≤ R.slots)
    {g : JFrame} (hg : g.method = m) (hsize : g.locals.size = c.maxLocals) {a : Addr} (E : Exa Z h a C) {argsL rest : List Value} {ps : List FieldType} {r : Option FieldType} (hpd : parseMethodDescriptor y.desc = some ⟨ps, r⟩) (hlen : argsL.length = ps.length) (hstack : g.stack = argsL.reverse ++ .ref a :: rest) (has : (Value.ref a :: argsL).toArray = as') (hW : 2 * g.monitorRoom + (rest.map fun v => v.category).sum ≤ W)
    (hdg : decode c.code g.pc = .ok (.invokevirtual index, 3)) :
    ∃ (v : Option Value) (T' : State) (L : List Loc), Stand p l e R s m args below meth c T' (locs ++ L) (cells + rm.cells) (slots + rm.slots) ∧ Q v T'.heap L ∧
      ∀ target, Steps p.tables e below (T'.setTop { g with pc := g.pc + 3, stack := v.toList ++ rest }) target → Steps p.tables e below (T.setTop g) target := by
  obtain ⟨cq, kq, qa, qb, qc⟩ := isOf hZ eT E
  obtain ⟨v, vm₁, ⟨T', L', k', n'⟩, -, X', ⟨L, hQ, e1, e2, e3⟩, st⟩ := X.virtualBack hx hown (mvT hZ w1) (mvT hZ w2) (own_nf (args := #[]) (mvT hZ w7) h7) (mvT hZ w5) (mvT hZ w6) hy (backOf (W := W) hM hZ w4 w3 hf hl) qa qc hg hsize (Steps.refl _) (lenOf hpd hlen) hstack hW hdg (fun _ _ => ⟨has, eT, hc, hs⟩)
  dsimp only [Pt.U, Pt.locs, Pt.cells, Pt.slots] at X' e1 e2 e3 st hQ
  subst e1 e2 e3
  exact ⟨v, T', L, X', hQ, fun t k => st.trans k⟩
/-- a private instance method by its contract -/
theorem pcall (X : Stand p l e R s m args below meth c T locs cells slots) (hx : p.tables.exec = Jvm.exec) (hZ : Z.Warmed39 s.vm) {own C C' : String} {index : Nat} {y : MethodName} {bytes : ByteArray} {maxL : Nat} {ret : Option FieldType} (hown : s.vm.findClass own = some m.cls)
    (w1 : (Jvm.Cond.methodLink own index y).before a0 Z = true) (w2 : (Jvm.Cond.instanceMethod y).before a0 Z = true) (w5 : (Jvm.Cond.selects C' y y).before a0 Z = true) (w6 : (Jvm.Cond.privateMethod y).before a0 Z = true) (w3 : (Jvm.Cond.initialized y.cls).before a0 Z = true) (w4 : (Jvm.Cond.code y bytes maxL ret).before a0 Z = true) (hy : y.cls ≠ "java/lang/invoke/MethodHandle" ∧ y.cls ≠ "java/lang/invoke/VarHandle")
    {W : Nat} {rm : Room} {as' : Array Value} {Q : Option Value → Heap → List Loc → Prop} (hM : Con l Z y bytes maxL ret [] rm as' h Q) (eT : T.heap = h) (hf : rm.frames + 1 ≤ R.frames) (hl : W + (maxL + 11) + rm.locals ≤ R.locals) (hc : cells + rm.cells ≤ R.cells) (hs : slots + rm.slots ≤ R.slots)
    {g : JFrame} (hg : g.method = m) (hsize : g.locals.size = c.maxLocals) {a : Addr} (E : Exa Z h a C) {argsL rest : List Value} {ps : List FieldType} {r : Option FieldType} (hpd : parseMethodDescriptor y.desc = some ⟨ps, r⟩) (hlen : argsL.length = ps.length) (hstack : g.stack = argsL.reverse ++ .ref a :: rest) (has : (Value.ref a :: argsL).toArray = as') (hW : 2 * g.monitorRoom + (rest.map fun v => v.category).sum ≤ W)
    (hdg : decode c.code g.pc = .ok (.invokevirtual index, 3)) :
    ∃ (v : Option Value) (T' : State) (L : List Loc), Stand p l e R s m args below meth c T' (locs ++ L) (cells + rm.cells) (slots + rm.slots) ∧ Q v T'.heap L ∧
      ∀ target, Steps p.tables e below (T'.setTop { g with pc := g.pc + 3, stack := v.toList ++ rest }) target → Steps p.tables e below (T.setTop g) target := by
  obtain ⟨cq, q1, q2⟩ := E.cell
  have hp := Cond.privateMethod_at (mvP hZ w6 (args := #[]))
  have hsel : (Jvm.Cond.selects y.cls y y).before args s = true := by
    have w5' : (Jvm.Cond.selects C' y y).before args s = true := mvT hZ w5
    obtain ⟨c2, r2, m2, -, -, q3, -, kP, hkP, hkPi⟩ := Cond.selects_spec w5'
    exact selects_self_of_private (findClass_of_methodNamed q3) hkP hkPi hp (mvT hZ w2) hy
  obtain ⟨v, vm₁, ⟨T', L', k', n'⟩, -, X', ⟨L, hQ, e1, e2, e3⟩, st⟩ := X.privateBack hx hown (mvT hZ w1) (mvT hZ w2) hsel hp (mvT hZ w4) hy (backOf (W := W) hM hZ w4 w3 hf hl) hg hsize (Steps.refl _) (by rw [eT]; exact q1) q2 (lenOf hpd hlen) hstack hW hdg (fun _ _ => ⟨has, eT, hc, hs⟩)
  dsimp only [Pt.U, Pt.locs, Pt.cells, Pt.slots] at X' e1 e2 e3 st hQ
  subst e1 e2 e3
  exact ⟨v, T', L, X', hQ, fun t k => st.trans k⟩
theorem own_same {C : String} {x' y z : MethodName} (w : (Jvm.Cond.selects C x' z).before a0 Z = true) (hz : z.cls = y.cls) (wi : (Jvm.Cond.instanceMethod y).before a0 Z = true) (hy : y.cls ≠ "java/lang/invoke/MethodHandle" ∧ y.cls ≠ "java/lang/invoke/VarHandle") : (Jvm.Cond.sameMethod y.cls y.cls y.name y.desc).before a0 Z = true := by
  obtain ⟨mk, methM, hnamed, hmethM, -, -⟩ := Cond.instanceMethod_spec wi
  obtain ⟨c2, r2, m2, -, -, q3, -, kP, hkP, hkPi⟩ := Cond.selects_spec w
  have hc := findClass_of_methodNamed hnamed
  have hc2 := findClass_of_methodNamed q3
  rw [hz] at hc2
  have e : m2.cls = mk.cls := Option.some.inj (hc2.symm.trans hc)
  rw [e] at hkP
  have hfound : Z.methodFound? y.cls y.name y.desc = some mk := State.methodFound?_of_named hnamed hy
  have hn : Z.methodNamed? ⟨y.cls, y.name, y.desc⟩ = some mk := hnamed
  simp only [Cond.before, Cond.holds, Cond.value, hc, hfound, hn, hkP]
  simp [hkPi]
/-- super.m(..) by its contract -/
theorem ucall (X : Stand p l e R s m args below meth c T locs cells slots) (hx : p.tables.exec = Jvm.exec) (hZ : Z.Warmed39 s.vm) {own C : String} {index : Nat} {y : MethodName} {bytes : ByteArray} {maxL : Nat} {ret : Option FieldType} (hown : s.vm.findClass own = some m.cls)
    (w1 : (Jvm.Cond.methodLink own index y).before a0 Z = true) (w2 : (Jvm.Cond.sameMethod y.cls y.cls y.name y.desc).before a0 Z = true) (w5 : (Jvm.Cond.instanceMethod y).before a0 Z = true) (w6 : (Jvm.Cond.superclass own y.cls).before a0 Z = true) (w3 : (Jvm.Cond.initialized y.cls).before a0 Z = true) (w4 : (Jvm.Cond.code y bytes maxL ret).before a0 Z = true) (hy : y.name ≠ "<init>")
    {W : Nat} {rm : Room} {as' : Array Value} {Q : Option Value → Heap → List Loc → Prop} (hM : Con l Z y bytes maxL ret [] rm as' h Q) (eT : T.heap = h) (hf : rm.frames + 1 ≤ R.frames) (hl : W + (maxL + 11) + rm.locals ≤ R.locals) (hc : cells + rm.cells ≤ R.cells) (hs : slots + rm.slots ≤ R.slots)
    {g : JFrame} (hg : g.method = m) (hsize : g.locals.size = c.maxLocals) {a : Addr} (E : Exa Z h a C) {argsL rest : List Value} {ps : List FieldType} {r : Option FieldType} (hpd : parseMethodDescriptor y.desc = some ⟨ps, r⟩) (hlen : argsL.length = ps.length) (hstack : g.stack = argsL.reverse ++ .ref a :: rest) (has : (Value.ref a :: argsL).toArray = as') (hW : 2 * g.monitorRoom + (rest.map fun v => v.category).sum ≤ W)
    (hdg : decode c.code g.pc = .ok (.invokespecial index, 3)) :
    ∃ (v : Option Value) (T' : State) (L : List Loc), Stand p l e R s m args below meth c T' (locs ++ L) (cells + rm.cells) (slots + rm.slots) ∧ Q v T'.heap L ∧
      ∀ target, Steps p.tables e below (T'.setTop { g with pc := g.pc + 3, stack := v.toList ++ rest }) target → Steps p.tables e below (T.setTop g) target := by
  obtain ⟨v, vm₁, ⟨T', L', k', n'⟩, -, X', ⟨L, hQ, e1, e2, e3⟩, st⟩ := superBack X hx hZ hown w1 w2 w5 w6 hy (backOf (W := W) hM hZ w4 w3 hf hl) eT (Ins.self E) hg hsize w4 (lenOf hpd hlen) hstack hW hdg (fun _ _ => ⟨has, eT, hc, hs⟩)
  dsimp only [Pt.U, Pt.locs, Pt.cells, Pt.slots] at X' e1 e2 e3 st hQ
  subst e1 e2 e3
  exact ⟨v, T', L, X', hQ, fun t k => st.trans k⟩
variable {a : Addr} {k : ClassId} {ty : FieldType} {z j : Int32} {vs : List Value} {dv v : Value}
theorem alenV (X : Stand p l e R s m args below meth c T locs cells slots) (hx : p.tables.exec = Jvm.exec) (hZ : Z.Warmed39 s.vm) (eT : T.heap = h) (F : Arv Z h a k ty z vs dv) {g : JFrame} (hg : g.method = m) {rest : List Value} (hst : g.stack = .ref a :: rest) (hd : decode c.code g.pc = .ok (.arraylength, 1)) (target : State)
    (hr : Steps p.tables e below (T.setTop { g with pc := g.pc + 1, stack := .int z :: rest }) target) : Steps p.tables e below (T.setTop g) target := by
  obtain ⟨cl, Ar, -, S, N, -, -⟩ := F
  refine X.arraylength hx (by rw [eT]; exact Ar.1) (State.isArrayOf_alike hZ.alike Ar.2.1) hg hst hd _ ?_
  rw [len_of S N]
  exact hr
theorem caloadV (X : Stand p l e R s m args below meth c T locs cells slots) (hx : p.tables.exec = Jvm.exec) (hZ : Z.Warmed39 s.vm) (eT : T.heap = h) (F : Arv Z h a k .char z vs dv) (hj : ¬ j < 0 ∧ j < z) (hat : vs.getD j.toNatClampNeg dv = v) {g : JFrame} (hg : g.method = m) {rest : List Value} (hst : g.stack = .int j :: .ref a :: rest) (hd : decode c.code g.pc = .ok (.caload, 1)) (target : State)
    (hr : Steps p.tables e below (T.setTop { g with pc := g.pc + 1, stack := v :: rest }) target) : Steps p.tables e below (T.setTop g) target := by
  obtain ⟨cl, Ar, -, S, N, H, -⟩ := F
  exact X.caload hx (by rw [eT]; exact Ar.1) (State.isArrayOf_alike hZ.alike Ar.2.1) Ar.2.2 (inb_of S hj) (H.at (inb_of S hj) hat) hg hst hd _ hr
theorem baloadV (X : Stand p l e R s m args below meth c T locs cells slots) (hx : p.tables.exec = Jvm.exec) (hZ : Z.Warmed39 s.vm) (eT : T.heap = h) (F : Arv Z h a k .byte z vs dv) (hj : ¬ j < 0 ∧ j < z) (hat : vs.getD j.toNatClampNeg dv = v) {g : JFrame} (hg : g.method = m) {rest : List Value} (hst : g.stack = .int j :: .ref a :: rest) (hd : decode c.code g.pc = .ok (.baload, 1)) (target : State)
    (hr : Steps p.tables e below (T.setTop { g with pc := g.pc + 1, stack := v :: rest }) target) : Steps p.tables e below (T.setTop g) target := by
  obtain ⟨cl, Ar, -, S, N, H, -⟩ := F
  exact X.baloadBytes hx (by rw [eT]; exact Ar.1) (State.isArrayOf_alike hZ.alike Ar.2.1) Ar.2.2 (inb_of S hj) (H.at (inb_of S hj) hat) hg hst hd _ hr
theorem ialoadV (X : Stand p l e R s m args below meth c T locs cells slots) (hx : p.tables.exec = Jvm.exec) (hZ : Z.Warmed39 s.vm) (eT : T.heap = h) (F : Arv Z h a k .int z vs dv) (hj : ¬ j < 0 ∧ j < z) (hat : vs.getD j.toNatClampNeg dv = v) {g : JFrame} (hg : g.method = m) {rest : List Value} (hst : g.stack = .int j :: .ref a :: rest) (hd : decode c.code g.pc = .ok (.iaload, 1)) (target : State)
    (hr : Steps p.tables e below (T.setTop { g with pc := g.pc + 1, stack := v :: rest }) target) : Steps p.tables e below (T.setTop g) target := by
  obtain ⟨cl, Ar, -, S, N, H, -⟩ := F
  exact X.iaload hx (by rw [eT]; exact Ar.1) (State.isArrayOf_alike hZ.alike Ar.2.1) Ar.2.2 (inb_of S hj) (H.at (inb_of S hj) hat) hg hst hd _ hr
theorem laloadV (X : Stand p l e R s m args below meth c T locs cells slots) (hx : p.tables.exec = Jvm.exec) (hZ : Z.Warmed39 s.vm) (eT : T.heap = h) (F : Arv Z h a k .long z vs dv) (hj : ¬ j < 0 ∧ j < z) (hat : vs.getD j.toNatClampNeg dv = v) {g : JFrame} (hg : g.method = m) {rest : List Value} (hst : g.stack = .int j :: .ref a :: rest) (hd : decode c.code g.pc = .ok (.laload, 1)) (target : State)
    (hr : Steps p.tables e below (T.setTop { g with pc := g.pc + 1, stack := v :: rest }) target) : Steps p.tables e below (T.setTop g) target := by
  obtain ⟨cl, Ar, -, S, N, H, -⟩ := F
  exact X.laload hx (by rw [eT]; exact Ar.1) (State.isArrayOf_alike hZ.alike Ar.2.1) Ar.2.2 (inb_of S hj) (H.at (inb_of S hj) hat) hg hst hd _ hr
theorem aaloadV (X : Stand p l e R s m args below meth c T locs cells slots) (hx : p.tables.exec = Jvm.exec) (hZ : Z.Warmed39 s.vm) (eT : T.heap = h) (F : Arv Z h a k ty z vs dv) (hty : ty.isReference = true) (hj : ¬ j < 0 ∧ j < z) (hat : vs.getD j.toNatClampNeg dv = v) {g : JFrame} (hg : g.method = m) {rest : List Value} (hst : g.stack = .int j :: .ref a :: rest) (hd : decode c.code g.pc = .ok (.aaload, 1)) (target : State)
    (hr : Steps p.tables e below (T.setTop { g with pc := g.pc + 1, stack := v :: rest }) target) : Steps p.tables e below (T.setTop g) target := by
  obtain ⟨cl, Ar, -, S, N, H, -⟩ := F
  exact X.aaload hx (by rw [eT]; exact Ar.1) (State.isArrayOf_alike hZ.alike Ar.2.1) hty Ar.2.2 (inb_of S hj) (H.at (inb_of S hj) hat) hg hst hd _ hr
theorem castoreV (X : Stand p l e R s m args below meth c T locs cells slots) (hx : p.tables.exec = Jvm.exec) (hZ : Z.Warmed39 s.vm) (eT : T.heap = h) (F : Arv Z h a k .char z vs dv) {j x : Int32} (hj : ¬ j < 0 ∧ j < z) (hi : j.toNatClampNeg < vs.length) {g : JFrame} (hg : g.method = m) {rest : List Value} (hst : g.stack = .int x :: .int j :: .ref a :: rest) (hd : decode c.code g.pc = .ok (.castore, 1)) :
    ∃ T' h', Stand p l e R s m args below meth c T' (locs ++ [⟨a, j.toNatClampNeg⟩]) cells slots ∧ T'.heap = h' ∧ Wr h h' a j.toNatClampNeg (.int (nar .char x)) ∧ Arv Z h' a k .char z (vs.set j.toNatClampNeg (.int (nar .char x))) dv ∧ ∀ target, Steps p.tables e below (T'.setTop { g with pc := g.pc + 1, stack := rest }) target → Steps p.tables e below (T.setTop g) target := by
  obtain ⟨cl, Ar, q, S, N, H, G⟩ := F
  obtain ⟨T', h', X', e', W, st⟩ := stC X hx hZ eT Ar (j := j) (x := x) (inb_of S hj) hg hst hd
  exact ⟨T', h', X', e', W, Arv.set Ar q S N H G (fits_nar_char _) W _ rfl hi, st⟩
theorem bastoreV (X : Stand p l e R s m args below meth c T locs cells slots) (hx : p.tables.exec = Jvm.exec) (hZ : Z.Warmed39 s.vm) (eT : T.heap = h) (F : Arv Z h a k .byte z vs dv) {j x : Int32} (hj : ¬ j < 0 ∧ j < z) (hi : j.toNatClampNeg < vs.length) {g : JFrame} (hg : g.method = m) {rest : List Value} (hst : g.stack = .int x :: .int j :: .ref a :: rest) (hd : decode c.code g.pc = .ok (.bastore, 1)) :
    ∃ T' h', Stand p l e R s m args below meth c T' (locs ++ [⟨a, j.toNatClampNeg⟩]) cells slots ∧ T'.heap = h' ∧ Wr h h' a j.toNatClampNeg (.int (nar .byte x)) ∧ Arv Z h' a k .byte z (vs.set j.toNatClampNeg (.int (nar .byte x))) dv ∧ ∀ target, Steps p.tables e below (T'.setTop { g with pc := g.pc + 1, stack := rest }) target → Steps p.tables e below (T.setTop g) target := by
  obtain ⟨cl, Ar, q, S, N, H, G⟩ := F
  obtain ⟨T', h', X', e', W, st⟩ := stB X hx hZ eT Ar (j := j) (x := x) (inb_of S hj) hg hst hd
  exact ⟨T', h', X', e', W, Arv.set Ar q S N H G (fits_nar_byte _) W _ rfl hi, st⟩
theorem lastoreV (X : Stand p l e R s m args below meth c T locs cells slots) (hx : p.tables.exec = Jvm.exec) (hZ : Z.Warmed39 s.vm) (eT : T.heap = h) (F : Arv Z h a k .long z vs dv) {j : Int32} {x : Int64} (hj : ¬ j < 0 ∧ j < z) (hi : j.toNatClampNeg < vs.length) {g : JFrame} (hg : g.method = m) {rest : List Value} (hst : g.stack = .long x :: .int j :: .ref a :: rest) (hd : decode c.code g.pc = .ok (.lastore, 1)) :
    ∃ T' h', Stand p l e R s m args below meth c T' (locs ++ [⟨a, j.toNatClampNeg⟩]) cells slots ∧ T'.heap = h' ∧ Wr h h' a j.toNatClampNeg (.long x) ∧ Arv Z h' a k .long z (vs.set j.toNatClampNeg (.long x)) dv ∧ ∀ target, Steps p.tables e below (T'.setTop { g with pc := g.pc + 1, stack := rest }) target → Steps p.tables e below (T.setTop g) target := by
  obtain ⟨cl, Ar, q, S, N, H, G⟩ := F
  obtain ⟨T', h', X', e', W, st⟩ := stJ X hx hZ eT Ar (j := j) (inb_of S hj) hg hst hd
  exact ⟨T', h', X', e', W, Arv.set Ar q S N H G rfl W _ rfl hi, st⟩
end K
end Jvm.OwnKit
namespace Jvm.Pilot.@@N@@
open Jvm Jvm.ClassFile Sem Op Lib Jvm.Free Jvm.Stand Jvm.LawKit Jvm.RoadKit Jvm.OwnKit Bundle Jvm.Pilot.@@N@@.Jvm.D
section Plain
open Jvm.FP Jvm.Free.Fl
/-- a double that is no NaN and, if it is not +0, not below 2^-140 in size -/
def own_ok (x : UInt64) : Prop := NoNaN64 x ∧ (x = 0 ∨ 883 * 2 ^ 52 ≤ x.toNat % 2 ^ 63)
theorem own_i2d_big {a : Int32} (h : a ≠ 0) : 1023 * 2 ^ 52 ≤ (FP.i2d a).toNat % 2 ^ 63 := by
  have h1 : a.toInt64 ≠ 0 := fun q => h (by
    have := congrArg Int64.toInt q
    rw [Int32.toInt_toInt64] at this
    exact Int32.toInt_inj.mp (by simpa using this))
  have h2 := l2d_big h1
  rw [← i2d_w] at h2
  have := h2.1
  simpa using this
theorem own_i2d_ok (a : Int32) : own_ok (FP.i2d a) := by
  refine ⟨(i2d_fin a).noNaN, ?_⟩
  by_cases h : a = 0
  · left; subst h; decide +kernel
  · right; have := own_i2d_big h; omega
theorem own_whole_ge {i : Int} {s : Bool} {c : Nat} {q : Int} (h : Core.Whole i (.fin s c q)) (hi : i ≠ 0) : 2 ^ (-q).toNat ≤ c * 2 ^ q.toNat := by
  have h1 : Core.signed s (c * 2 ^ q.toNat) = i * ((2 ^ (-q).toNat : Nat) : Int) := h
  have h2 : (Core.signed s (c * 2 ^ q.toNat)).natAbs = c * 2 ^ q.toNat := by
    unfold Core.signed
    split
    · rw [Int.natAbs_neg, Int.natAbs_natCast]
    · rw [Int.natAbs_natCast]
  rw [← h2, h1, Int.natAbs_mul]
  have : 1 ≤ i.natAbs := by omega
  calc 2 ^ (-q).toNat = 1 * (((2 ^ (-q).toNat : Nat) : Int)).natAbs := by simp
    _ ≤ _ := Nat.mul_le_mul_right _ this
theorem own_mul_big {a : Int32} {k : UInt64} {r : Int} (ha : a ≠ 0) (hk : Core.val64 k = .fin false (2 ^ 52) r) (hr : -192 ≤ r) : 883 * 2 ^ 52 ≤ (FP.dmul (FP.i2d a) k).toNat % 2 ^ 63 := by
  have hW : Core.Whole a.toInt (Core.val64 (Core.i2d a)) := Core.i2d_int a
  have hfit := Core.val64_fits (Core.i2d a)
  have hi : a.toInt ≠ 0 := fun q => ha (Int32.toInt_inj.mp (by simpa using q))
  have hv := Core.val64_dmul (Core.i2d a) k
  rw [hk] at hv
  cases hd : Core.val64 (Core.i2d a) with
  | nan => rw [hd] at hW; exact hW.elim
  | inf s => rw [hd] at hW; exact hW.elim
  | fin s c q =>
    rw [hd] at hW hfit hv
    have hge := own_whole_ge hW hi
    have hv' : Core.decode Core.b64 (Core.dmul (Core.i2d a) k).toNat = Core.roundRatio Core.b64 (s != false) (c * 2 ^ 52) 1 (q + r) := hv
    have hq1 : (-1074 : Int) ≤ q := hfit.2.1
    obtain ⟨K, hK⟩ : ∃ K : Nat, K = 1108 := ⟨_, rfl⟩
    have key := Core.mag_ge Core.good_b64 (m := 883 * Core.b64.tails) (e0 := -1300) hv' (by decide) (by decide) (by omega) (by decide) (by
      rw [Core.unitsOf_start (by decide)]
      show Core.b64.tails * 2 ^ (883 - 1) * 2 ^ (Core.b64.qmin - -1300).toNat * 1 ≤ c * 2 ^ 52 * 2 ^ (q + r - -1300).toNat
      have e1 : Core.b64.tails * 2 ^ (883 - 1) * 2 ^ (Core.b64.qmin - -1300).toNat * 1 = 2 ^ K * 2 ^ 52 := by
        have t1 : Core.b64.tails = 2 ^ 52 := by decide
        have t2 : (Core.b64.qmin - -1300).toNat = 226 := by decide
        rw [t1, t2, Nat.mul_one, ← Nat.pow_add, ← Nat.pow_add, ← Nat.pow_add, hK]
      rw [e1]
      have e2 : 2 ^ K ≤ c * 2 ^ (q + r - -1300).toNat := by
        by_cases hq : 0 ≤ q
        · have z1 : (-q).toNat = 0 := by omega
          rw [z1] at hge
          calc 2 ^ K ≤ 2 ^ (r - -1300).toNat := Nat.pow_le_pow_right (by decide) (by omega)
            _ = 1 * 2 ^ (r - -1300).toNat := (Nat.one_mul _).symm
            _ ≤ (c * 2 ^ q.toNat) * 2 ^ (r - -1300).toNat := Nat.mul_le_mul_right _ hge
            _ = c * 2 ^ (q + r - -1300).toNat := by rw [Nat.mul_assoc, ← Nat.pow_add, show q.toNat + (r - -1300).toNat = (q + r - -1300).toNat by omega]
        · have z1 : q.toNat = 0 := by omega
          rw [z1, Nat.pow_zero, Nat.mul_one] at hge
          calc 2 ^ K ≤ 2 ^ ((-q).toNat + (q + r - -1300).toNat) := Nat.pow_le_pow_right (by decide) (by omega)
            _ = 2 ^ (-q).toNat * 2 ^ (q + r - -1300).toNat := Nat.pow_add ..
            _ ≤ c * 2 ^ (q + r - -1300).toNat := Nat.mul_le_mul_right _ hge
      calc 2 ^ K * 2 ^ 52 ≤ c * 2 ^ (q + r - -1300).toNat * 2 ^ 52 := Nat.mul_le_mul_right _ e2
        _ = c * 2 ^ 52 * 2 ^ (q + r - -1300).toNat := by ac_rfl)
    rw [Core.mag_toNat64] at key
    have e3 : Core.b64.tails = 2 ^ 52 := by decide
    rw [e3] at key
    exact key
theorem own_mul_ok (a : Int32) {k : UInt64} {r : Int} (hk : Core.val64 k = .fin false (2 ^ 52) r) (hr : -192 ≤ r) (hf : Fin64 k) (h0 : FP.dmul (FP.i2d 0) k = 0) : own_ok (FP.dmul (FP.i2d a) k) := by
  refine ⟨dmul_out (i2d_fin a) hf, ?_⟩
  by_cases h : a = 0
  · left; subst h; exact h0
  · right; exact own_mul_big h hk hr
theorem own_d2f_nn {x : UInt64} (h : own_ok x) : NoNaN32 (FP.d2f x) := d2f_out h.1
/-- no such double becomes -0 -/
theorem own_d2f_nz {x : UInt64} (h : own_ok x) : FP.d2f x ≠ 0x80000000 := by
  obtain ⟨hn, h0 | hb⟩ := h
  · subst h0; decide +kernel
  · intro q
    rw [d2f_core (noNaN64_no.mp hn)] at q
    have hv := Core.val32_d2f x
    rw [q] at hv
    have hz := Core.zmag_bits (val64_no.mp hn)
    have hfit := Core.val64_fits x
    have hlow : 2 ^ 934 ≤ Core.unitsOf Core.b64 (x.toNat % 2 ^ 63) := by
      have h1 := Core.unitsOf_le_iff (f := Core.b64) (m := 883 * 2 ^ 52) (k := x.toNat % 2 ^ 63) |>.mpr hb
      have h2 : Core.unitsOf Core.b64 (883 * 2 ^ 52) = 2 ^ 934 := by decide +kernel
      rw [h2] at h1; exact h1
    have hneg : Core.val32 (0x80000000 : UInt32) = .fin true 0 Core.b32.qmin := by decide +kernel
    rw [hneg] at hv
    cases hd : Core.val64 x with
    | nan => exact val64_no.mp hn hd
    | inf s => rw [hd] at hv; exact absurd hv (by simp [Core.round])
    | fin s c q' =>
      rw [hd] at hv hz hfit
      have hv' : Core.decode Core.b32 (0x80000000 : UInt32).toNat = Core.roundRatio Core.b32 s c 1 q' := by
        rw [show Core.decode Core.b32 (0x80000000 : UInt32).toNat = Core.val32 (0x80000000 : UInt32) from rfl, hneg]; exact hv
      have hq1 : (-1074 : Int) ≤ q' := hfit.2.1
      have key := Core.mag_ge Core.good_b32 (m := 1) (e0 := -1074) hv' (by decide) (by decide) (by omega) (by decide) (by
        have e1 : Core.unitsOf Core.b32 1 * 2 ^ (Core.b32.qmin - -1074).toNat * 1 = 2 ^ 925 := by
          have t1 : Core.unitsOf Core.b32 1 = 1 := by decide
          have t2 : (Core.b32.qmin - -1074).toNat = 925 := by decide
          rw [t1, t2, Nat.mul_one, Nat.one_mul]
        rw [e1]
        have e2 : Core.inUnits c q' (-1074) = Core.unitsOf Core.b64 (x.toNat % 2 ^ 63) := hz
        rw [e2]
        exact Nat.le_trans (Nat.pow_le_pow_right (by decide) (by decide)) hlow)
      exact absurd key (by decide +kernel)
theorem own_d2f_neg {x : UInt64} (h : NoNaN64 x) : FP.d2f (FP.dneg x) = FP.d2f x ^^^ 0x80000000 := by
  have h1 : dIsNaN x = false := noNaN64_no.mp h
  have h2 : dIsNaN (FP.dneg x) = false := by rw [FP.dneg_nan]; exact h1
  have h3 : NoNaN32 (FP.d2f x) := d2f_out h
  rw [d2f_core h2, d2f_core h1]
  have e : Core.val32 (Core.d2f (FP.dneg x)) = Core.val32 (FP.fneg (Core.d2f x)) := by
    rw [Core.val32_d2f, FP.val64_dneg, ← Core.negate_round, FP.val32_fneg, Core.val32_d2f]
  refine Core.val32_inj ?_ e
  rw [e, FP.val32_fneg]
  exact Core.negate_ne_nan (by rw [← d2f_core h1]; exact val32_no.mp h3)
theorem own_neg_nn {x : UInt64} (h : NoNaN64 x) : NoNaN64 (FP.dneg x) := by
  rw [noNaN64_no] at h ⊢
  exact (FP.dneg_nan x).trans h
/-- what key makes of the bits -/
def own_t (u : UInt32) : Int32 := (u ^^^ 0x80000000).toInt32 ^^^ (((u ^^^ 0x80000000).toInt32 >>> ((31 : Int32) &&& 31)) &&& 2147483647)
def own_k (u : UInt32) (i : Int32) : Int64 := ((own_t u).toInt64 <<< ((32 : Int32) &&& 0x3f).toInt64) ||| i.toInt64
theorem own_b_nat (u : UInt32) : (u.toNat < 2 ^ 31 → (u ^^^ 0x80000000).toNat = u.toNat + 2 ^ 31) ∧ (2 ^ 31 ≤ u.toNat → (u ^^^ 0x80000000).toNat = u.toNat - 2 ^ 31) := by
  have ha := u.toNat_lt
  have hx : (u ^^^ 0x80000000).toNat = u.toNat ^^^ 2 ^ 31 := by rw [UInt32.toNat_xor]; rfl
  rw [hx]
  exact FP.xor_top (a := u.toNat) (k := 31) (by omega)
theorem own_i32 (b : UInt32) : b.toInt32.toInt = if b.toNat < 2 ^ 31 then (b.toNat : Int) else (b.toNat : Int) - 2 ^ 32 := by
  have h : b.toInt32.toInt = b.toBitVec.toInt := rfl
  rw [h, BitVec.toInt_eq_toNat_cond]
  show (if 2 * b.toNat < 2 ^ 32 then (b.toNat : Int) else (b.toNat : Int) - ((2 ^ 32 : Nat) : Int)) = _
  split <;> split <;> omega
theorem own_t_val (u : UInt32) : (own_t u).toInt = if u.toNat < 2 ^ 31 then -1 - (u.toNat : Int) else (u.toNat : Int) - 2 ^ 31 := by
  have hu := u.toNat_lt
  have hb := own_b_nat u
  have hB := own_i32 (u ^^^ 0x80000000)
  have hs := c_ishr (u ^^^ 0x80000000).toInt32 31 31 (by decide)
  by_cases h : u.toNat < 2 ^ 31
  · rw [if_pos h]
    rw [hb.1 h, if_neg (by omega)] at hB
    rw [hB] at hs
    have e1 : (u ^^^ 0x80000000).toInt32 >>> ((31 : Int32) &&& 31) = -1 := Int32.toInt_inj.mp (by rw [hs]; show _ = (-1 : Int); omega)
    have e2 : own_t u = ~~~ u.toInt32 := by
      unfold own_t
      rw [e1]
      apply Int32.toBitVec_inj.mp
      show (u.toBitVec ^^^ 0x80000000#32) ^^^ (0x7fffffff#32) = ~~~ u.toBitVec
      rw [BitVec.xor_assoc, show (0x80000000#32 ^^^ 0x7fffffff#32) = BitVec.allOnes 32 from by decide, BitVec.xor_allOnes]
    have e3 := own_i32 u
    rw [if_pos h] at e3
    rw [e2, Int32.toInt_not, e3, Int.bmod_def]
    omega
  · rw [if_neg h]
    rw [hb.2 (by omega), if_pos (by omega)] at hB
    rw [hB] at hs
    have e1 : (u ^^^ 0x80000000).toInt32 >>> ((31 : Int32) &&& 31) = 0 := Int32.toInt_inj.mp (by rw [hs]; show _ = (0 : Int); omega)
    have e2 : own_t u = (u ^^^ 0x80000000).toInt32 := by
      unfold own_t
      rw [e1]
      apply Int32.toBitVec_inj.mp
      show (u.toBitVec ^^^ 0x80000000#32) ^^^ (0#32) = u.toBitVec ^^^ 0x80000000#32
      rw [BitVec.xor_zero]
    rw [e2, hB]
    omega
theorem own_k_val (u : UInt32) {i : Int32} (hi : 0 ≤ i.toInt) : (own_k u i).toInt = (own_t u).toInt * 4294967296 + i.toInt := by
  have h1 := c_lshl (own_t u).toInt64 32 32 (by decide)
  have h2 := rng32 (own_t u)
  have h3 := rng32 i
  have h4 := rng64 ((own_t u).toInt64 <<< ((32 : Int32) &&& 0x3f).toInt64)
  rw [Int32.toInt_toInt64] at h1
  have e1 : ((own_t u).toInt64 <<< ((32 : Int32) &&& 0x3f).toInt64).toInt = (own_t u).toInt * 4294967296 := by omega
  have h5 := c_orL ((own_t u).toInt64 <<< ((32 : Int32) &&& 0x3f).toInt64) i.toInt64 32 (by decide) 4294967296 (by decide) (by rw [e1]; omega) (by rw [Int32.toInt_toInt64]; exact hi) (by rw [Int32.toInt_toInt64]; omega)
  have h6 := rng64 (own_k u i)
  rw [e1, Int32.toInt_toInt64] at h5
  unfold own_k at h6 ⊢
  omega
theorem own_k_low (u : UInt32) {i : Int32} (hi : 0 ≤ i.toInt) : (own_k u i).toInt32 = i := by
  have h1 := own_k_val u hi
  have h2 := c_l2i (own_k u i)
  have h3 := rng32 (own_k u i).toInt32
  have h4 := rng32 i
  exact Int32.toInt_inj.mp (by omega)
/-- what fcmpl pushes, of two floats neither of which is a NaN or -0: the order of the two numbers t, turned round -/
theorem own_cmp {u v : UInt32} (hu : NoNaN32 u) (hv : NoNaN32 v) (nu : u ≠ 0x80000000) (nv : v ≠ 0x80000000) :
    cmpValue (FP.fcmp u v) .l = if (own_t u).toInt < (own_t v).toInt then 1 else if (own_t u).toInt = (own_t v).toInt then 0 else -1 := by
  have e : FP.fcmp u v = some (compare (Core.fkey u) (Core.fkey v)) := Core.fcmp_key (val32_no.mp hu) (val32_no.mp hv)
  rw [e]
  have hu1 := u.toNat_lt
  have hv1 := v.toNat_lt
  have nu' : u.toNat ≠ 2 ^ 31 := fun q => nu (UInt32.toNat.inj (by rw [q]; rfl))
  have nv' : v.toNat ≠ 2 ^ 31 := fun q => nv (UInt32.toNat.inj (by rw [q]; rfl))
  rw [own_t_val, own_t_val]
  have k1 : Core.fkey u = if 2 ^ 31 ≤ u.toNat then ((2 ^ 31 : Nat) : Int) - (u.toNat : Int) else (u.toNat : Int) := rfl
  have k2 : Core.fkey v = if 2 ^ 31 ≤ v.toNat then ((2 ^ 31 : Nat) : Int) - (v.toNat : Int) else (v.toNat : Int) := rfl
  rcases Int.lt_trichotomy (Core.fkey u) (Core.fkey v) with h | h | h
  · rw [show compare (Core.fkey u) (Core.fkey v) = .lt from Int.compare_eq_lt.mpr h]
    rw [k1, k2] at h
    show (-1 : Int32) = _
    rw [if_neg (by split at h <;> split at h <;> split <;> split <;> omega), if_neg (by split at h <;> split at h <;> split <;> split <;> omega)]
  · rw [show compare (Core.fkey u) (Core.fkey v) = .eq from Int.compare_eq_eq.mpr h]
    rw [k1, k2] at h
    show (0 : Int32) = _
    rw [if_neg (by split at h <;> split at h <;> split <;> split <;> omega), if_pos (by split at h <;> split at h <;> split <;> split <;> omega)]
  · rw [show compare (Core.fkey u) (Core.fkey v) = .gt from Int.compare_eq_gt.mpr h]
    rw [k1, k2] at h
    show (1 : Int32) = _
    rw [if_pos (by split at h <;> split at h <;> split <;> split <;> omega)]
end Plain
theorem own_v1 : Jvm.FP.Core.val64 (5057542381537067008 : UInt64) = .fin false (2 ^ 52) (48) := by decide +kernel
theorem own_z1 : FP.dmul (FP.i2d 0) (5057542381537067008 : UInt64) = 0 := by decide +kernel
theorem own_c1 (a : Int32) : own_ok (FP.dmul (FP.i2d a) (5057542381537067008 : UInt64)) := own_mul_ok a own_v1 (by decide) (by unfold Fl.Fin64; decide) own_z1
theorem own_v2 : Jvm.FP.Core.val64 (3976678470968147968 : UInt64) = .fin false (2 ^ 52) (-192) := by decide +kernel
theorem own_z2 : FP.dmul (FP.i2d 0) (3976678470968147968 : UInt64) = 0 := by decide +kernel
theorem own_c2 (a : Int32) : own_ok (FP.dmul (FP.i2d a) (3976678470968147968 : UInt64)) := own_mul_ok a own_v2 (by decide) (by unfold Fl.Fin64; decide) own_z2
theorem own_v3 : Jvm.FP.Core.val64 (4336966441157787648 : UInt64) = .fin false (2 ^ 52) (-112) := by decide +kernel
theorem own_z3 : FP.dmul (FP.i2d 0) (4336966441157787648 : UInt64) = 0 := by decide +kernel
theorem own_c3 (a : Int32) : own_ok (FP.dmul (FP.i2d a) (4336966441157787648 : UInt64)) := own_mul_ok a own_v3 (by decide) (by unfold Fl.Fin64; decide) own_z3
theorem own_raw {p : Program} {l : Launch} {e : Env} {R : Room} {s : State} {m : MethodId} {args : Array Value} {below : List Frame} {meth : Method} {c : Code} {T : State} {locs : List Loc} {cells slots : Nat} {Z : State} {a0 : Array Value} (X : Stand p l e R s m args below meth c T locs cells slots) (hx : p.tables.exec = Jvm.exec) (hZ : Z.Warmed39 s.vm) {own : String} {index : Nat} (hown : s.vm.findClass own = some m.cls)
    (w1 : (Jvm.Cond.methodLink own index Jvm.Free.NT.floatBitsN).before a0 Z = true) (w2 : (Jvm.Cond.static Jvm.Free.NT.floatBitsN).before a0 Z = true) (w3 : (Jvm.Cond.initialized "java/lang/Float").before a0 Z = true) (w4 : (Jvm.Cond.native Jvm.Free.NT.floatBitsN).before a0 Z = true)
    {W : Nat} (hfr : 1 ≤ R.frames) (hlo : W + 14 ≤ R.locals) {x : UInt32} {g : JFrame} (hg : g.method = m) (hsize : g.locals.size = c.maxLocals) {rest : List Value} (hstack : g.stack = .float x :: rest) (hW : 2 * g.monitorRoom + (rest.map fun v => v.category).sum ≤ W)
    (hdg : decode c.code g.pc = .ok (.invokestatic index, 3)) :
    ∃ vm₁, Stand p l e R s m args below meth c (T.setVm vm₁) locs cells slots ∧
      ∀ target, Steps p.tables e below ((T.setVm vm₁).setTop { g with pc := g.pc + 3, stack := .int x.toInt32 :: rest }) target → Steps p.tables e below (T.setTop g) target := by
  have n4 : (Jvm.Cond.native Jvm.Free.NT.floatBitsN).before args s = true := mvT hZ w4
  have n2 : (Jvm.Cond.static Jvm.Free.NT.floatBitsN).before args s = true := mvT hZ w2
  obtain ⟨mk, methM, hnamed, hmethM, -, -, -, hsig⟩ := Cond.native_spec n4
  exact X.staticQ (P := fun (b : UInt32) a _ => a = #[.float b]) (val := fun b => some (.int b.toInt32)) hx hown (mvT hZ w1) n2 (mvT hZ w3) hnamed hmethM hsig (by decide) (Jvm.Free.NT.FloatBits.pays n4 n2 hfr hlo) hg hsize (argsL := [.float x]) (rest := rest) (lenOf Jvm.Free.NT.descFI rfl) hstack hW hdg x (fun _ _ => rfl)
def own_Q (h0 : Heap) : Option Value → Heap → List Loc → Prop := fun v _ L => v = some (.int 1) ∧ Fr h0.size L
theorem opl_rm_nan : plainFor (⟨"java/lang/Float", "isNaN", "(F)Z"⟩ : MethodName) = true := by decide +kernel
theorem d_jdk_118_method_6_0 : decode jdk_118_method_6_code 0 = .ok (.fload_n 0, 1) := by decide +kernel
theorem d_jdk_118_method_6_1 : decode jdk_118_method_6_code 1 = .ok (.fload_n 0, 1) := by decide +kernel
theorem d_jdk_118_method_6_2 : decode jdk_118_method_6_code 2 = .ok (.fcmp .l, 1) := by decide +kernel
theorem d_jdk_118_method_6_3 : decode jdk_118_method_6_code 3 = .ok (.ifCond .eq 7, 3) := by decide +kernel
theorem d_jdk_118_method_6_10 : decode jdk_118_method_6_code 10 = .ok (.iconst 0, 1) := by decide +kernel
theorem d_jdk_118_method_6_11 : decode jdk_118_method_6_code 11 = .ok (.ireturn, 1) := by decide +kernel
theorem opl_rm_fti : plainFor (⟨"java/lang/Float", "floatToIntBits", "(F)I"⟩ : MethodName) = true := by decide +kernel
theorem d_jdk_118_method_24_0 : decode jdk_118_method_24_code 0 = .ok (.fload_n 0, 1) := by decide +kernel
theorem opd_0 : parseMethodDescriptor "(F)Z" = some ⟨[.float], some .boolean⟩ := by decide +kernel
theorem d_jdk_118_method_24_1 : decode jdk_118_method_24_code 1 = .ok (.invokestatic 59, 3) := by decide +kernel
theorem d_jdk_118_method_24_4 : decode jdk_118_method_24_code 4 = .ok (.ifCond .ne 8, 3) := by decide +kernel
theorem d_jdk_118_method_24_7 : decode jdk_118_method_24_code 7 = .ok (.fload_n 0, 1) := by decide +kernel
theorem d_jdk_118_method_24_8 : decode jdk_118_method_24_code 8 = .ok (.invokestatic 74, 3) := by decide +kernel
theorem d_jdk_118_method_24_11 : decode jdk_118_method_24_code 11 = .ok (.ireturn, 1) := by decide +kernel
theorem opl_rm_key : plainFor (⟨"com/example/slackline/slackline/search/LocalSearch", "key", "(DI)J"⟩ : MethodName) = true := plainFor_of_name (by first | (simp [plainName, overriddenIn]; done) | decide +kernel)
theorem d_prog_31_method_16_0 : decode prog_31_method_16_code 0 = .ok (.dload_n 0, 1) := by decide +kernel
theorem d_prog_31_method_16_1 : decode prog_31_method_16_code 1 = .ok (.dneg, 1) := by decide +kernel
theorem d_prog_31_method_16_2 : decode prog_31_method_16_code 2 = .ok (.d2f, 1) := by decide +kernel
theorem opd_1 : parseMethodDescriptor "(F)I" = some ⟨[.float], some .int⟩ := by decide +kernel
theorem d_prog_31_method_16_3 : decode prog_31_method_16_code 3 = .ok (.invokestatic 370, 3) := by decide +kernel
theorem d_prog_31_method_16_6 : decode prog_31_method_16_code 6 = .ok (.istore_n 3, 1) := by decide +kernel
theorem d_prog_31_method_16_7 : decode prog_31_method_16_code 7 = .ok (.iload_n 3, 1) := by decide +kernel
theorem d_prog_31_method_16_8 : decode prog_31_method_16_code 8 = .ok (.iload_n 3, 1) := by decide +kernel
theorem d_prog_31_method_16_9 : decode prog_31_method_16_code 9 = .ok (.bipush 31, 2) := by decide +kernel
theorem d_prog_31_method_16_11 : decode prog_31_method_16_code 11 = .ok (.ishr, 1) := by decide +kernel
theorem d_prog_31_method_16_12 : decode prog_31_method_16_code 12 = .ok (.ldc_w 376, 3) := by decide +kernel
theorem d_prog_31_method_16_15 : decode prog_31_method_16_code 15 = .ok (.iand, 1) := by decide +kernel
theorem d_prog_31_method_16_16 : decode prog_31_method_16_code 16 = .ok (.ixor, 1) := by decide +kernel
theorem d_prog_31_method_16_17 : decode prog_31_method_16_code 17 = .ok (.istore_n 3, 1) := by decide +kernel
theorem d_prog_31_method_16_18 : decode prog_31_method_16_code 18 = .ok (.iload_n 3, 1) := by decide +kernel
theorem d_prog_31_method_16_19 : decode prog_31_method_16_code 19 = .ok (.i2l, 1) := by decide +kernel
theorem d_prog_31_method_16_20 : decode prog_31_method_16_code 20 = .ok (.bipush 32, 2) := by decide +kernel
theorem d_prog_31_method_16_22 : decode prog_31_method_16_code 22 = .ok (.lshl, 1) := by decide +kernel
theorem d_prog_31_method_16_23 : decode prog_31_method_16_code 23 = .ok (.iload_n 2, 1) := by decide +kernel
theorem d_prog_31_method_16_24 : decode prog_31_method_16_code 24 = .ok (.i2l, 1) := by decide +kernel
theorem d_prog_31_method_16_25 : decode prog_31_method_16_code 25 = .ok (.lor, 1) := by decide +kernel
theorem d_prog_31_method_16_26 : decode prog_31_method_16_code 26 = .ok (.lreturn, 1) := by decide +kernel
theorem opl_rm_scale : plainFor (⟨"com/example/slackline/slackline/search/LocalSearchKeyPinLaw", "scale", "(II)D"⟩ : MethodName) = true := plainFor_of_name (by first | (simp [plainName, overriddenIn]; done) | decide +kernel)
theorem d_method_2_0 : decode method_2_code 0 = .ok (.iload_n 1, 1) := by decide +kernel
theorem d_method_2_1 : decode method_2_code 1 = .ok (.iconst 1, 1) := by decide +kernel
theorem d_method_2_2 : decode method_2_code 2 = .ok (.if_icmp .ne 10, 3) := by decide +kernel
theorem d_method_2_5 : decode method_2_code 5 = .ok (.iload_n 0, 1) := by decide +kernel
theorem d_method_2_6 : decode method_2_code 6 = .ok (.i2d, 1) := by decide +kernel
theorem d_method_2_7 : decode method_2_code 7 = .ok (.ldc2_w 7, 3) := by decide +kernel
theorem d_method_2_10 : decode method_2_code 10 = .ok (.dmul, 1) := by decide +kernel
theorem d_method_2_11 : decode method_2_code 11 = .ok (.dreturn, 1) := by decide +kernel
theorem d_method_2_12 : decode method_2_code 12 = .ok (.iload_n 1, 1) := by decide +kernel
theorem d_method_2_13 : decode method_2_code 13 = .ok (.iconst 2, 1) := by decide +kernel
theorem d_method_2_14 : decode method_2_code 14 = .ok (.if_icmp .ne 10, 3) := by decide +kernel
theorem d_method_2_17 : decode method_2_code 17 = .ok (.iload_n 0, 1) := by decide +kernel
theorem d_method_2_18 : decode method_2_code 18 = .ok (.i2d, 1) := by decide +kernel
theorem d_method_2_19 : decode method_2_code 19 = .ok (.ldc2_w 9, 3) := by decide +kernel
theorem d_method_2_22 : decode method_2_code 22 = .ok (.dmul, 1) := by decide +kernel
theorem d_method_2_23 : decode method_2_code 23 = .ok (.dreturn, 1) := by decide +kernel
theorem d_method_2_24 : decode method_2_code 24 = .ok (.iload_n 1, 1) := by decide +kernel
theorem d_method_2_25 : decode method_2_code 25 = .ok (.iconst 3, 1) := by decide +kernel
theorem d_method_2_26 : decode method_2_code 26 = .ok (.if_icmp .ne 10, 3) := by decide +kernel
theorem d_method_2_29 : decode method_2_code 29 = .ok (.iload_n 0, 1) := by decide +kernel
theorem d_method_2_30 : decode method_2_code 30 = .ok (.i2d, 1) := by decide +kernel
theorem d_method_2_31 : decode method_2_code 31 = .ok (.ldc2_w 11, 3) := by decide +kernel
theorem d_method_2_34 : decode method_2_code 34 = .ok (.dmul, 1) := by decide +kernel
theorem d_method_2_35 : decode method_2_code 35 = .ok (.dreturn, 1) := by decide +kernel
theorem d_method_2_36 : decode method_2_code 36 = .ok (.iload_n 0, 1) := by decide +kernel
theorem d_method_2_37 : decode method_2_code 37 = .ok (.i2d, 1) := by decide +kernel
theorem d_method_2_38 : decode method_2_code 38 = .ok (.dreturn, 1) := by decide +kernel
theorem opl_rm_law : plainFor x = true := plainFor_of_name (by first | (simp [plainName, overriddenIn]; done) | decide +kernel)
theorem opd_2 : parseMethodDescriptor "(II)D" = some ⟨[.int, .int], some .double⟩ := by decide +kernel
theorem opd_3 : parseMethodDescriptor "(DI)J" = some ⟨[.double, .int], some .long⟩ := by decide +kernel
set_option maxRecDepth 65536 in
set_option maxHeartbeats 40000000 in
theorem rm_nan (l : Launch) (Z : State) (a0 : Array Value) (hw : ∀ d ∈ tables_1, d.before a0 Z = true) (ws : List Jvm.Cond) (x : UInt32) (h0 : Heap) (nx : Fl.NoNaN32 x) :
    Con l Z (⟨"java/lang/Float", "isNaN", "(F)Z"⟩ : MethodName) jdk_118_method_6_code 1 (some .boolean) ws ({ frames := 0, cells := 0, slots := 0, locals := 0 } : Room) #[(.float x)] h0 (fun v h L => v = some (.int 0) ∧ L = [] ∧ h = h0) := by
  refine Con.intro opl_rm_nan ?_
  intro p e s m below meth c s₁ hx hby hml hown hret hlk hZ hnm X0 e0
  refine Goes.cast (g' := (mkF m 0 #[.val (.float x)] [])) (by first | (simp [entryFrame, mkF, argsToLocals, Value.category]; done) | rfl) ?_
  show Goes p e below _ s₁ (mkF m 0 #[.val (.float x)] [])
  refine Goes.step (fun _ k => XS.floadN X0.here hx rfl (hb hby d_jdk_118_method_6_0) rfl k) ?_
  show Goes p e below _ s₁ (mkF m 1 #[.val (.float x)] [(.float x)])
  refine Goes.step (fun _ k => XS.floadN X0.here hx rfl (hb hby d_jdk_118_method_6_1) rfl k) ?_
  show Goes p e below _ s₁ (mkF m 2 #[.val (.float x)] [(.float x), (.float x)])
  refine Goes.step (fun _ k => XS.fcmpS X0.here hx rfl (hb hby d_jdk_118_method_6_2) rfl rfl k) ?_
  show Goes p e below _ s₁ (mkF m 3 #[.val (.float x)] [(.int (cmpValue (FP.fcmp x x) .l))])
  refine Goes.step (fun _ k => XS.ifYes X0.here hx rfl (pc0 := 3) (pc' := 10) rfl (hb hby d_jdk_118_method_6_3) rfl ((if0 _ _).trans (teq (fcmpV_self nx .l)).1) (by decide) (by decide) k) ?_
  show Goes p e below _ s₁ (mkF m 10 #[.val (.float x)] [])
  refine Goes.step (fun _ k => XS.iconst X0.here hx rfl (hb hby d_jdk_118_method_6_10) k) ?_
  show Goes p e below _ s₁ (mkF m 11 #[.val (.float x)] [(.int (0 : Int32))])
  exact Goes.ret X0 hx (t := .boolean) hret hlk rfl (Or.inl ⟨rfl, by simp, _, rfl⟩) (hb hby d_jdk_118_method_6_11) (by decide) (by decide) ⟨rfl, rfl, e0⟩
set_option maxRecDepth 65536 in
set_option maxHeartbeats 40000000 in
theorem rm_fti (l : Launch) (Z : State) (a0 : Array Value) (hw : ∀ d ∈ tables_1, d.before a0 Z = true) (ws : List Jvm.Cond) (x : UInt32) (h0 : Heap) (nx : Fl.NoNaN32 x) :
    Con l Z (⟨"java/lang/Float", "floatToIntBits", "(F)I"⟩ : MethodName) jdk_118_method_24_code 1 (some .int) ws ({ frames := 1, cells := 0, slots := 0, locals := 14 } : Room) #[(.float x)] h0 (fun v h L => v = some (.int x.toInt32) ∧ L = [] ∧ h = h0) := by
  refine Con.intro opl_rm_fti ?_
  intro p e s m below meth c s₁ hx hby hml hown hret hlk hZ hnm X0 e0
  refine Goes.cast (g' := (mkF m 0 #[.val (.float x)] [])) (by first | (simp [entryFrame, mkF, argsToLocals, Value.category]; done) | rfl) ?_
  show Goes p e below _ s₁ (mkF m 0 #[.val (.float x)] [])
  refine Goes.step (fun _ k => XS.floadN X0.here hx rfl (hb hby d_jdk_118_method_24_0) rfl k) ?_
  show Goes p e below _ s₁ (mkF m 1 #[.val (.float x)] [(.float x)])
  obtain ⟨v1, T1, L1, X1, hQ1, st1⟩ := scall X0 hx hZ hown (hw _ (List.mem_of_getElem? (i := 13) rfl)) (hw _ (List.mem_of_getElem? (i := 14) rfl)) (hw _ (List.mem_of_getElem? (i := 11) rfl)) (hw _ (List.mem_of_getElem? (i := 15) rfl)) (by decide) (W := 0) (rm_nan l Z a0 hw [] x h0 nx) e0 (by decide) (by decide) (by decide) (by decide) (g := (mkF m 1 #[.val (.float x)] [(.float x)])) rfl (by rw [hml]; rfl) (argsL := [(.float x)]) (rest := []) opd_0 rfl rfl rfl (by show 2 * 0 + _ ≤ _; exact Nat.le_of_eq rfl) (hb hby d_jdk_118_method_24_1)
  obtain ⟨rfl, rfl, e1⟩ := hQ1
  refine Goes.step st1 ?_
  show Goes p e below _ T1 (mkF m 4 #[.val (.float x)] [(.int (0 : Int32))])
  refine Goes.step (fun _ k => XS.ifNo X1.here hx rfl (hb hby d_jdk_118_method_24_4) rfl ((if0 _ _).trans (teq (rfl : (0 : Int32) = 0)).2) k) ?_
  show Goes p e below _ T1 (mkF m 7 #[.val (.float x)] [])
  refine Goes.step (fun _ k => XS.floadN X1.here hx rfl (hb hby d_jdk_118_method_24_7) rfl k) ?_
  show Goes p e below _ T1 (mkF m 8 #[.val (.float x)] [(.float x)])
  obtain ⟨vm9, X9, st9⟩ := own_raw X1 hx hZ hown (hw _ (List.mem_of_getElem? (i := 16) rfl)) (hw _ (List.mem_of_getElem? (i := 17) rfl)) (hw _ (List.mem_of_getElem? (i := 11) rfl)) (hw _ (List.mem_of_getElem? (i := 18) rfl)) (W := 0) (by decide) (by decide) (g := (mkF m 8 #[.val (.float x)] [(.float x)])) rfl (by rw [hml]; rfl) (rest := []) rfl (by show 2 * 0 + _ ≤ _; exact Nat.le_of_eq rfl) (hb hby d_jdk_118_method_24_8)
  refine Goes.step st9 ?_
  show Goes p e below _ (T1.setVm vm9) (mkF m 11 #[.val (.float x)] [(.int x.toInt32)])
  exact Goes.ret X9 hx (t := .int) hret hlk rfl (Or.inl ⟨rfl, by simp, _, rfl⟩) (hb hby d_jdk_118_method_24_11) (by decide) (by decide) ⟨rfl, rfl, e1⟩
set_option maxRecDepth 65536 in
set_option maxHeartbeats 40000000 in
theorem rm_key (l : Launch) (Z : State) (a0 : Array Value) (hw : ∀ d ∈ tables_1, d.before a0 Z = true) (ws : List Jvm.Cond) (x : UInt64) (i : Int32) (u : UInt32) (h0 : Heap) (nx : Fl.NoNaN64 x) (hu : FP.d2f (FP.dneg x) = u ^^^ 0x80000000) :
    Con l Z (⟨"com/example/slackline/slackline/search/LocalSearch", "key", "(DI)J"⟩ : MethodName) prog_31_method_16_code 4 (some .long) ws ({ frames := 2, cells := 0, slots := 0, locals := 26 } : Room) #[(.double x), (.int i)] h0 (fun v h L => v = some (.long (own_k u i)) ∧ L = [] ∧ h = h0) := by
  refine Con.intro opl_rm_key ?_
  intro p e s m below meth c s₁ hx hby hml hown hret hlk hZ hnm X0 e0
  refine Goes.cast (g' := (mkF m 0 #[.val (.double x), .second, .val (.int i), .unset] [])) (by first | (simp [entryFrame, mkF, argsToLocals, Value.category]; done) | rfl) ?_
  show Goes p e below _ s₁ (mkF m 0 #[.val (.double x), .second, .val (.int i), .unset] [])
  refine Goes.step (fun _ k => XS.dloadN X0.here hx rfl (hb hby d_prog_31_method_16_0) rfl k) ?_
  show Goes p e below _ s₁ (mkF m 1 #[.val (.double x), .second, .val (.int i), .unset] [(.double x)])
  refine Goes.step (fun _ k => XS.dnegS X0.here hx rfl (hb hby d_prog_31_method_16_1) rfl rfl k) ?_
  show Goes p e below _ s₁ (mkF m 2 #[.val (.double x), .second, .val (.int i), .unset] [(.double (FP.dneg x))])
  refine Goes.step (fun _ k => XS.d2fS X0.here hx rfl (hb hby d_prog_31_method_16_2) rfl (Fl.d2f_out (own_neg_nn nx)) hu k) ?_
  show Goes p e below _ s₁ (mkF m 3 #[.val (.double x), .second, .val (.int i), .unset] [(.float (u ^^^ 0x80000000))])
  obtain ⟨v2, T2, L2, X2, hQ2, st2⟩ := scall X0 hx hZ hown (hw _ (List.mem_of_getElem? (i := 9) rfl)) (hw _ (List.mem_of_getElem? (i := 10) rfl)) (hw _ (List.mem_of_getElem? (i := 11) rfl)) (hw _ (List.mem_of_getElem? (i := 12) rfl)) (by decide) (W := 0) (rm_fti l Z a0 hw [] (u ^^^ 0x80000000) h0 (by have q := Fl.d2f_out (own_neg_nn nx); rw [hu] at q; exact q)) e0 (by decide) (by decide) (by decide) (by decide) (g := (mkF m 3 #[.val (.double x), .second, .val (.int i), .unset] [(.float (u ^^^ 0x80000000))])) rfl (by rw [hml]; rfl) (argsL := [(.float (u ^^^ 0x80000000))]) (rest := []) opd_1 rfl rfl rfl (by show 2 * 0 + _ ≤ _; exact Nat.le_of_eq rfl) (hb hby d_prog_31_method_16_3)
  obtain ⟨rfl, rfl, e2⟩ := hQ2
  refine Goes.step st2 ?_
  show Goes p e below _ T2 (mkF m 6 #[.val (.double x), .second, .val (.int i), .unset] [(.int (u ^^^ 0x80000000).toInt32)])
  refine Goes.step (fun _ k => XS.istoreN X2.here hx rfl (hb hby d_prog_31_method_16_6) rfl (l' := #[.val (.double x), .second, .val (.int i), .val (.int (u ^^^ 0x80000000).toInt32)]) rfl k) ?_
  show Goes p e below _ T2 (mkF m 7 #[.val (.double x), .second, .val (.int i), .val (.int (u ^^^ 0x80000000).toInt32)] [])
  refine Goes.step (fun _ k => XS.iloadN X2.here hx rfl (hb hby d_prog_31_method_16_7) rfl k) ?_
  show Goes p e below _ T2 (mkF m 8 #[.val (.double x), .second, .val (.int i), .val (.int (u ^^^ 0x80000000).toInt32)] [(.int (u ^^^ 0x80000000).toInt32)])
  refine Goes.step (fun _ k => XS.iloadN X2.here hx rfl (hb hby d_prog_31_method_16_8) rfl k) ?_
  show Goes p e below _ T2 (mkF m 9 #[.val (.double x), .second, .val (.int i), .val (.int (u ^^^ 0x80000000).toInt32)] [(.int (u ^^^ 0x80000000).toInt32), (.int (u ^^^ 0x80000000).toInt32)])
  refine Goes.step (fun _ k => XS.bipush X2.here hx rfl (hb hby d_prog_31_method_16_9) k) ?_
  show Goes p e below _ T2 (mkF m 11 #[.val (.double x), .second, .val (.int i), .val (.int (u ^^^ 0x80000000).toInt32)] [(.int (31 : Int32)), (.int (u ^^^ 0x80000000).toInt32), (.int (u ^^^ 0x80000000).toInt32)])
  refine Goes.step (fun _ k => XS.ishr X2.here hx rfl (hb hby d_prog_31_method_16_11) rfl k) ?_
  show Goes p e below _ T2 (mkF m 12 #[.val (.double x), .second, .val (.int i), .val (.int (u ^^^ 0x80000000).toInt32)] [(.int ((u ^^^ 0x80000000).toInt32 >>> ((31 : Int32) &&& 31))), (.int (u ^^^ 0x80000000).toInt32)])
  refine Goes.step (fun _ k => Jvm.Stand.ldcWI X2 hx hown (mvT hZ (hw _ (List.mem_of_getElem? (i := 19) rfl))) rfl (hb hby d_prog_31_method_16_12) k) ?_
  show Goes p e below _ T2 (mkF m 15 #[.val (.double x), .second, .val (.int i), .val (.int (u ^^^ 0x80000000).toInt32)] [(.int (2147483647 : Int32)), (.int ((u ^^^ 0x80000000).toInt32 >>> ((31 : Int32) &&& 31))), (.int (u ^^^ 0x80000000).toInt32)])
  refine Goes.step (fun _ k => XS.iand X2.here hx rfl (hb hby d_prog_31_method_16_15) rfl k) ?_
  show Goes p e below _ T2 (mkF m 16 #[.val (.double x), .second, .val (.int i), .val (.int (u ^^^ 0x80000000).toInt32)] [(.int (((u ^^^ 0x80000000).toInt32 >>> ((31 : Int32) &&& 31)) &&& (2147483647 : Int32))), (.int (u ^^^ 0x80000000).toInt32)])
  refine Goes.step (fun _ k => XS.ixor X2.here hx rfl (hb hby d_prog_31_method_16_16) rfl k) ?_
  show Goes p e below _ T2 (mkF m 17 #[.val (.double x), .second, .val (.int i), .val (.int (u ^^^ 0x80000000).toInt32)] [(.int ((u ^^^ 0x80000000).toInt32 ^^^ (((u ^^^ 0x80000000).toInt32 >>> ((31 : Int32) &&& 31)) &&& (2147483647 : Int32))))])
  refine Goes.step (fun _ k => XS.istoreN X2.here hx rfl (hb hby d_prog_31_method_16_17) rfl (l' := #[.val (.double x), .second, .val (.int i), .val (.int ((u ^^^ 0x80000000).toInt32 ^^^ (((u ^^^ 0x80000000).toInt32 >>> ((31 : Int32) &&& 31)) &&& (2147483647 : Int32))))]) rfl k) ?_
  show Goes p e below _ T2 (mkF m 18 #[.val (.double x), .second, .val (.int i), .val (.int ((u ^^^ 0x80000000).toInt32 ^^^ (((u ^^^ 0x80000000).toInt32 >>> ((31 : Int32) &&& 31)) &&& (2147483647 : Int32))))] [])
  refine Goes.step (fun _ k => XS.iloadN X2.here hx rfl (hb hby d_prog_31_method_16_18) rfl k) ?_
  show Goes p e below _ T2 (mkF m 19 #[.val (.double x), .second, .val (.int i), .val (.int ((u ^^^ 0x80000000).toInt32 ^^^ (((u ^^^ 0x80000000).toInt32 >>> ((31 : Int32) &&& 31)) &&& (2147483647 : Int32))))] [(.int ((u ^^^ 0x80000000).toInt32 ^^^ (((u ^^^ 0x80000000).toInt32 >>> ((31 : Int32) &&& 31)) &&& (2147483647 : Int32))))])
  refine Goes.step (fun _ k => XS.i2l X2.here hx rfl (hb hby d_prog_31_method_16_19) rfl k) ?_
  show Goes p e below _ T2 (mkF m 20 #[.val (.double x), .second, .val (.int i), .val (.int ((u ^^^ 0x80000000).toInt32 ^^^ (((u ^^^ 0x80000000).toInt32 >>> ((31 : Int32) &&& 31)) &&& (2147483647 : Int32))))] [(.long (((u ^^^ 0x80000000).toInt32 ^^^ (((u ^^^ 0x80000000).toInt32 >>> ((31 : Int32) &&& 31)) &&& (2147483647 : Int32))).toInt64))])
  refine Goes.step (fun _ k => XS.bipush X2.here hx rfl (hb hby d_prog_31_method_16_20) k) ?_
  show Goes p e below _ T2 (mkF m 22 #[.val (.double x), .second, .val (.int i), .val (.int ((u ^^^ 0x80000000).toInt32 ^^^ (((u ^^^ 0x80000000).toInt32 >>> ((31 : Int32) &&& 31)) &&& (2147483647 : Int32))))] [(.int (32 : Int32)), (.long (((u ^^^ 0x80000000).toInt32 ^^^ (((u ^^^ 0x80000000).toInt32 >>> ((31 : Int32) &&& 31)) &&& (2147483647 : Int32))).toInt64))])
  refine Goes.step (fun _ k => XS.lshl X2.here hx rfl (hb hby d_prog_31_method_16_22) rfl k) ?_
  show Goes p e below _ T2 (mkF m 23 #[.val (.double x), .second, .val (.int i), .val (.int ((u ^^^ 0x80000000).toInt32 ^^^ (((u ^^^ 0x80000000).toInt32 >>> ((31 : Int32) &&& 31)) &&& (2147483647 : Int32))))] [(.long ((((u ^^^ 0x80000000).toInt32 ^^^ (((u ^^^ 0x80000000).toInt32 >>> ((31 : Int32) &&& 31)) &&& (2147483647 : Int32))).toInt64) <<< ((32 : Int32) &&& 0x3f).toInt64))])
  refine Goes.step (fun _ k => XS.iloadN X2.here hx rfl (hb hby d_prog_31_method_16_23) rfl k) ?_
  show Goes p e below _ T2 (mkF m 24 #[.val (.double x), .second, .val (.int i), .val (.int ((u ^^^ 0x80000000).toInt32 ^^^ (((u ^^^ 0x80000000).toInt32 >>> ((31 : Int32) &&& 31)) &&& (2147483647 : Int32))))] [(.int i), (.long ((((u ^^^ 0x80000000).toInt32 ^^^ (((u ^^^ 0x80000000).toInt32 >>> ((31 : Int32) &&& 31)) &&& (2147483647 : Int32))).toInt64) <<< ((32 : Int32) &&& 0x3f).toInt64))])
  refine Goes.step (fun _ k => XS.i2l X2.here hx rfl (hb hby d_prog_31_method_16_24) rfl k) ?_
  show Goes p e below _ T2 (mkF m 25 #[.val (.double x), .second, .val (.int i), .val (.int ((u ^^^ 0x80000000).toInt32 ^^^ (((u ^^^ 0x80000000).toInt32 >>> ((31 : Int32) &&& 31)) &&& (2147483647 : Int32))))] [(.long (i.toInt64)), (.long ((((u ^^^ 0x80000000).toInt32 ^^^ (((u ^^^ 0x80000000).toInt32 >>> ((31 : Int32) &&& 31)) &&& (2147483647 : Int32))).toInt64) <<< ((32 : Int32) &&& 0x3f).toInt64))])
  refine Goes.step (fun _ k => XS.lor X2.here hx rfl (hb hby d_prog_31_method_16_25) rfl k) ?_
  show Goes p e below _ T2 (mkF m 26 #[.val (.double x), .second, .val (.int i), .val (.int ((u ^^^ 0x80000000).toInt32 ^^^ (((u ^^^ 0x80000000).toInt32 >>> ((31 : Int32) &&& 31)) &&& (2147483647 : Int32))))] [(.long (((((u ^^^ 0x80000000).toInt32 ^^^ (((u ^^^ 0x80000000).toInt32 >>> ((31 : Int32) &&& 31)) &&& (2147483647 : Int32))).toInt64) <<< ((32 : Int32) &&& 0x3f).toInt64) ||| (i.toInt64)))])
  exact Goes.ret X2 hx (t := .long) hret hlk rfl (Or.inr (Or.inl ⟨rfl, rfl, _, rfl⟩)) (hb hby d_prog_31_method_16_26) (by decide) (by decide) ⟨rfl, rfl, e2⟩
set_option maxRecDepth 65536 in
set_option maxHeartbeats 40000000 in
theorem rm_scale (l : Launch) (Z : State) (a0 : Array Value) (hw : ∀ d ∈ tables_1, d.before a0 Z = true) (ws : List Jvm.Cond) (a t : Int32) (h0 : Heap)  :
    Con l Z (⟨"com/example/slackline/slackline/search/LocalSearchKeyPinLaw", "scale", "(II)D"⟩ : MethodName) method_2_code 2 (some .double) ws ({ frames := 0, cells := 0, slots := 0, locals := 0 } : Room) #[(.int a), (.int t)] h0 (fun v h L => ∃ x : UInt64, v = some (.double x) ∧ own_ok x ∧ L = [] ∧ h = h0) := by
  refine Con.intro opl_rm_scale ?_
  intro p e s m below meth c s₁ hx hby hml hown hret hlk hZ hnm X0 e0
  refine Goes.cast (g' := (mkF m 0 #[.val (.int a), .val (.int t)] [])) (by first | (simp [entryFrame, mkF, argsToLocals, Value.category]; done) | rfl) ?_
  show Goes p e below _ s₁ (mkF m 0 #[.val (.int a), .val (.int t)] [])
  refine Goes.step (fun _ k => XS.iloadN X0.here hx rfl (hb hby d_method_2_0) rfl k) ?_
  show Goes p e below _ s₁ (mkF m 1 #[.val (.int a), .val (.int t)] [(.int t)])
  refine Goes.step (fun _ k => XS.iconst X0.here hx rfl (hb hby d_method_2_1) k) ?_
  show Goes p e below _ s₁ (mkF m 2 #[.val (.int a), .val (.int t)] [(.int (1 : Int32)), (.int t)])
  by_cases q1 : t = (1 : Int32)
  · refine Goes.step (fun _ k => XS.icmpNo X0.here hx rfl (hb hby d_method_2_2) rfl (teq q1).2 k) ?_
    show Goes p e below _ s₁ (mkF m 5 #[.val (.int a), .val (.int t)] [])
    refine Goes.step (fun _ k => XS.iloadN X0.here hx rfl (hb hby d_method_2_5) rfl k) ?_
    show Goes p e below _ s₁ (mkF m 6 #[.val (.int a), .val (.int t)] [(.int a)])
    refine Goes.step (fun _ k => XS.i2dS X0.here hx rfl (hb hby d_method_2_6) rfl rfl k) ?_
    show Goes p e below _ s₁ (mkF m 7 #[.val (.int a), .val (.int t)] [(.double (FP.i2d a))])
    refine Goes.step (Jvm.Stand.ldc2DoubleC X0 hx hown (mvT hZ (hw _ (List.mem_of_getElem? (i := 21) rfl))) (g := (mkF m 7 #[.val (.int a), .val (.int t)] [(.double (FP.i2d a))])) rfl (hb hby d_method_2_7)) ?_
    show Goes p e below _ s₁ (mkF m 10 #[.val (.int a), .val (.int t)] [(.double (5057542381537067008 : UInt64)), (.double (FP.i2d a))])
    obtain ⟨y, hy⟩ : ∃ y, FP.dmul (FP.i2d a) (5057542381537067008 : UInt64) = y := ⟨_, rfl⟩
    have ok := own_c1 a
    rw [hy] at ok
    have okn := ok.1
    rw [← hy] at okn
    refine Goes.step (fun _ k => XS.dmulS X0.here hx rfl (hb hby d_method_2_10) rfl okn hy k) ?_
    show Goes p e below _ s₁ (mkF m 11 #[.val (.int a), .val (.int t)] [(.double y)])
    exact Goes.ret X0 hx (t := .double) hret hlk rfl (Or.inr (Or.inr (Or.inl ⟨rfl, rfl, _, rfl⟩))) (hb hby d_method_2_11) (by decide) (by decide) ⟨_, rfl, ok, rfl, e0⟩
  refine Goes.step (fun _ k => XS.icmpYes X0.here hx rfl (pc0 := 2) (pc' := 12) rfl (hb hby d_method_2_2) rfl (feq q1).2 (by decide) (by decide) k) ?_
  show Goes p e below _ s₁ (mkF m 12 #[.val (.int a), .val (.int t)] [])
  refine Goes.step (fun _ k => XS.iloadN X0.here hx rfl (hb hby d_method_2_12) rfl k) ?_
  show Goes p e below _ s₁ (mkF m 13 #[.val (.int a), .val (.int t)] [(.int t)])
  refine Goes.step (fun _ k => XS.iconst X0.here hx rfl (hb hby d_method_2_13) k) ?_
  show Goes p e below _ s₁ (mkF m 14 #[.val (.int a), .val (.int t)] [(.int (2 : Int32)), (.int t)])
  by_cases q2 : t = (2 : Int32)
  · refine Goes.step (fun _ k => XS.icmpNo X0.here hx rfl (hb hby d_method_2_14) rfl (teq q2).2 k) ?_
    show Goes p e below _ s₁ (mkF m 17 #[.val (.int a), .val (.int t)] [])
    refine Goes.step (fun _ k => XS.iloadN X0.here hx rfl (hb hby d_method_2_17) rfl k) ?_
    show Goes p e below _ s₁ (mkF m 18 #[.val (.int a), .val (.int t)] [(.int a)])
    refine Goes.step (fun _ k => XS.i2dS X0.here hx rfl (hb hby d_method_2_18) rfl rfl k) ?_
    show Goes p e below _ s₁ (mkF m 19 #[.val (.int a), .val (.int t)] [(.double (FP.i2d a))])
    refine Goes.step (Jvm.Stand.ldc2DoubleC X0 hx hown (mvT hZ (hw _ (List.mem_of_getElem? (i := 22) rfl))) (g := (mkF m 19 #[.val (.int a), .val (.int t)] [(.double (FP.i2d a))])) rfl (hb hby d_method_2_19)) ?_
    show Goes p e below _ s₁ (mkF m 22 #[.val (.int a), .val (.int t)] [(.double (3976678470968147968 : UInt64)), (.double (FP.i2d a))])
    obtain ⟨y, hy⟩ : ∃ y, FP.dmul (FP.i2d a) (3976678470968147968 : UInt64) = y := ⟨_, rfl⟩
    have ok := own_c2 a
    rw [hy] at ok
    have okn := ok.1
    rw [← hy] at okn
    refine Goes.step (fun _ k => XS.dmulS X0.here hx rfl (hb hby d_method_2_22) rfl okn hy k) ?_
    show Goes p e below _ s₁ (mkF m 23 #[.val (.int a), .val (.int t)] [(.double y)])
    exact Goes.ret X0 hx (t := .double) hret hlk rfl (Or.inr (Or.inr (Or.inl ⟨rfl, rfl, _, rfl⟩))) (hb hby d_method_2_23) (by decide) (by decide) ⟨_, rfl, ok, rfl, e0⟩
  refine Goes.step (fun _ k => XS.icmpYes X0.here hx rfl (pc0 := 14) (pc' := 24) rfl (hb hby d_method_2_14) rfl (feq q2).2 (by decide) (by decide) k) ?_
  show Goes p e below _ s₁ (mkF m 24 #[.val (.int a), .val (.int t)] [])
  refine Goes.step (fun _ k => XS.iloadN X0.here hx rfl (hb hby d_method_2_24) rfl k) ?_
  show Goes p e below _ s₁ (mkF m 25 #[.val (.int a), .val (.int t)] [(.int t)])
  refine Goes.step (fun _ k => XS.iconst X0.here hx rfl (hb hby d_method_2_25) k) ?_
  show Goes p e below _ s₁ (mkF m 26 #[.val (.int a), .val (.int t)] [(.int (3 : Int32)), (.int t)])
  by_cases q3 : t = (3 : Int32)
  · refine Goes.step (fun _ k => XS.icmpNo X0.here hx rfl (hb hby d_method_2_26) rfl (teq q3).2 k) ?_
    show Goes p e below _ s₁ (mkF m 29 #[.val (.int a), .val (.int t)] [])
    refine Goes.step (fun _ k => XS.iloadN X0.here hx rfl (hb hby d_method_2_29) rfl k) ?_
    show Goes p e below _ s₁ (mkF m 30 #[.val (.int a), .val (.int t)] [(.int a)])
    refine Goes.step (fun _ k => XS.i2dS X0.here hx rfl (hb hby d_method_2_30) rfl rfl k) ?_
    show Goes p e below _ s₁ (mkF m 31 #[.val (.int a), .val (.int t)] [(.double (FP.i2d a))])
    refine Goes.step (Jvm.Stand.ldc2DoubleC X0 hx hown (mvT hZ (hw _ (List.mem_of_getElem? (i := 20) rfl))) (g := (mkF m 31 #[.val (.int a), .val (.int t)] [(.double (FP.i2d a))])) rfl (hb hby d_method_2_31)) ?_
    show Goes p e below _ s₁ (mkF m 34 #[.val (.int a), .val (.int t)] [(.double (4336966441157787648 : UInt64)), (.double (FP.i2d a))])
    obtain ⟨y, hy⟩ : ∃ y, FP.dmul (FP.i2d a) (4336966441157787648 : UInt64) = y := ⟨_, rfl⟩
    have ok := own_c3 a
    rw [hy] at ok
    have okn := ok.1
    rw [← hy] at okn
    refine Goes.step (fun _ k => XS.dmulS X0.here hx rfl (hb hby d_method_2_34) rfl okn hy k) ?_
    show Goes p e below _ s₁ (mkF m 35 #[.val (.int a), .val (.int t)] [(.double y)])
    exact Goes.ret X0 hx (t := .double) hret hlk rfl (Or.inr (Or.inr (Or.inl ⟨rfl, rfl, _, rfl⟩))) (hb hby d_method_2_35) (by decide) (by decide) ⟨_, rfl, ok, rfl, e0⟩
  refine Goes.step (fun _ k => XS.icmpYes X0.here hx rfl (pc0 := 26) (pc' := 36) rfl (hb hby d_method_2_26) rfl (feq q3).2 (by decide) (by decide) k) ?_
  show Goes p e below _ s₁ (mkF m 36 #[.val (.int a), .val (.int t)] [])
  refine Goes.step (fun _ k => XS.iloadN X0.here hx rfl (hb hby d_method_2_36) rfl k) ?_
  show Goes p e below _ s₁ (mkF m 37 #[.val (.int a), .val (.int t)] [(.int a)])
  refine Goes.step (fun _ k => XS.i2dS X0.here hx rfl (hb hby d_method_2_37) rfl rfl k) ?_
  show Goes p e below _ s₁ (mkF m 38 #[.val (.int a), .val (.int t)] [(.double (FP.i2d a))])
  exact Goes.ret X0 hx (t := .double) hret hlk rfl (Or.inr (Or.inr (Or.inl ⟨rfl, rfl, _, rfl⟩))) (hb hby d_method_2_38) (by decide) (by decide) ⟨_, rfl, own_i2d_ok a, rfl, e0⟩
set_option maxRecDepth 65536 in
set_option maxHeartbeats 40000000 in
theorem rm_law (l : Launch) (Z : State) (a0 : Array Value) (hw : ∀ d ∈ tables_1, d.before a0 Z = true) (ws : List Jvm.Cond) (a b i0 j0 fl : Int32) (h0 : Heap)  :
    Con l Z x code maxLocals ret ws room_1 #[(.int a), (.int b), (.int i0), (.int j0), (.int fl)] h0 (own_Q h0) := by
  refine Con.intro opl_rm_law ?_
  intro p e s m below meth c s₁ hx hby hml hown hret hlk hZ hnm X0 e0
  refine Goes.cast (g' := (mkF m 0 #[.val (.int a), .val (.int b), .val (.int i0), .val (.int j0), .val (.int fl), .unset, .unset, .unset, .unset, .unset, .unset, .unset, .unset, .unset, .unset, .unset, .unset, .unset, .unset] [])) (by first | (simp [entryFrame, mkF, argsToLocals, Value.category, maxLocals]; done) | rfl) ?_
  show Goes p e below _ s₁ (mkF m 0 #[.val (.int a), .val (.int b), .val (.int i0), .val (.int j0), .val (.int fl), .unset, .unset, .unset, .unset, .unset, .unset, .unset, .unset, .unset, .unset, .unset, .unset, .unset, .unset] [])
  refine Goes.step (fun _ k => XS.iloadN X0.here hx rfl (hb hby at_0) rfl k) ?_
  show Goes p e below _ s₁ (mkF m 1 #[.val (.int a), .val (.int b), .val (.int i0), .val (.int j0), .val (.int fl), .unset, .unset, .unset, .unset, .unset, .unset, .unset, .unset, .unset, .unset, .unset, .unset, .unset, .unset] [(.int a)])
  refine Goes.step (fun _ k => XS.iload X0.here hx rfl (hb hby at_1) rfl k) ?_
  show Goes p e below _ s₁ (mkF m 3 #[.val (.int a), .val (.int b), .val (.int i0), .val (.int j0), .val (.int fl), .unset, .unset, .unset, .unset, .unset, .unset, .unset, .unset, .unset, .unset, .unset, .unset, .unset, .unset] [(.int fl), (.int a)])
  refine Goes.step (fun _ k => XS.iconst X0.here hx rfl (hb hby at_3) k) ?_
  show Goes p e below _ s₁ (mkF m 4 #[.val (.int a), .val (.int b), .val (.int i0), .val (.int j0), .val (.int fl), .unset, .unset, .unset, .unset, .unset, .unset, .unset, .unset, .unset, .unset, .unset, .unset, .unset, .unset] [(.int (3 : Int32)), (.int fl), (.int a)])
  refine Goes.step (fun _ k => XS.iand X0.here hx rfl (hb hby at_4) rfl k) ?_
  show Goes p e below _ s₁ (mkF m 5 #[.val (.int a), .val (.int b), .val (.int i0), .val (.int j0), .val (.int fl), .unset, .unset, .unset, .unset, .unset, .unset, .unset, .unset, .unset, .unset, .unset, .unset, .unset, .unset] [(.int (fl &&& (3 : Int32))), (.int a)])
  obtain ⟨v3, T3, L3, X3, hQ3, st3⟩ := scall X0 hx hZ hown (hw _ (List.mem_of_getElem? (i := 0) rfl)) (hw _ (List.mem_of_getElem? (i := 1) rfl)) (hw _ (List.mem_of_getElem? (i := 2) rfl)) (hw _ (List.mem_of_getElem? (i := 3) rfl)) (by decide) (W := 0) (rm_scale l Z a0 hw [] a (fl &&& 3) h0) e0 (by decide) (by decide) (by decide) (by decide) (g := (mkF m 5 #[.val (.int a), .val (.int b), .val (.int i0), .val (.int j0), .val (.int fl), .unset, .unset, .unset, .unset, .unset, .unset, .unset, .unset, .unset, .unset, .unset, .unset, .unset, .unset] [(.int (fl &&& (3 : Int32))), (.int a)])) rfl (by rw [hml]; rfl) (argsL := [(.int a), (.int (fl &&& (3 : Int32)))]) (rest := []) opd_2 rfl rfl rfl (by show 2 * 0 + _ ≤ _; exact Nat.le_of_eq rfl) (hb hby at_5)
  obtain ⟨x3, rfl, ok3, rfl, e3⟩ := hQ3
  refine Goes.step st3 ?_
  show Goes p e below _ T3 (mkF m 8 #[.val (.int a), .val (.int b), .val (.int i0), .val (.int j0), .val (.int fl), .unset, .unset, .unset, .unset, .unset, .unset, .unset, .unset, .unset, .unset, .unset, .unset, .unset, .unset] [(.double x3)])
  refine Goes.step (fun _ k => XS.dstore X3.here hx rfl (hb hby at_8) rfl (l' := #[.val (.int a), .val (.int b), .val (.int i0), .val (.int j0), .val (.int fl), .val (.double x3), .second, .unset, .unset, .unset, .unset, .unset, .unset, .unset, .unset, .unset, .unset, .unset, .unset]) rfl k) ?_
  show Goes p e below _ T3 (mkF m 10 #[.val (.int a), .val (.int b), .val (.int i0), .val (.int j0), .val (.int fl), .val (.double x3), .second, .unset, .unset, .unset, .unset, .unset, .unset, .unset, .unset, .unset, .unset, .unset, .unset] [])
  refine Goes.step (fun _ k => XS.iloadN X3.here hx rfl (hb hby at_10) rfl k) ?_
  show Goes p e below _ T3 (mkF m 11 #[.val (.int a), .val (.int b), .val (.int i0), .val (.int j0), .val (.int fl), .val (.double x3), .second, .unset, .unset, .unset, .unset, .unset, .unset, .unset, .unset, .unset, .unset, .unset, .unset] [(.int b)])
  refine Goes.step (fun _ k => XS.iload X3.here hx rfl (hb hby at_11) rfl k) ?_
  show Goes p e below _ T3 (mkF m 13 #[.val (.int a), .val (.int b), .val (.int i0), .val (.int j0), .val (.int fl), .val (.double x3), .second, .unset, .unset, .unset, .unset, .unset, .unset, .unset, .unset, .unset, .unset, .unset, .unset] [(.int fl), (.int b)])
  refine Goes.step (fun _ k => XS.iconst X3.here hx rfl (hb hby at_13) k) ?_
  show Goes p e below _ T3 (mkF m 14 #[.val (.int a), .val (.int b), .val (.int i0), .val (.int j0), .val (.int fl), .val (.double x3), .second, .unset, .unset, .unset, .unset, .unset, .unset, .unset, .unset, .unset, .unset, .unset, .unset] [(.int (2 : Int32)), (.int fl), (.int b)])
  refine Goes.step (fun _ k => XS.iushr X3.here hx rfl (hb hby at_14) rfl k) ?_
  show Goes p e below _ T3 (mkF m 15 #[.val (.int a), .val (.int b), .val (.int i0), .val (.int j0), .val (.int fl), .val (.double x3), .second, .unset, .unset, .unset, .unset, .unset, .unset, .unset, .unset, .unset, .unset, .unset, .unset] [(.int ((fl.toUInt32 >>> ((2 : Int32) &&& 31).toUInt32).toInt32)), (.int b)])
  refine Goes.step (fun _ k => XS.iconst X3.here hx rfl (hb hby at_15) k) ?_
  show Goes p e below _ T3 (mkF m 16 #[.val (.int a), .val (.int b), .val (.int i0), .val (.int j0), .val (.int fl), .val (.double x3), .second, .unset, .unset, .unset, .unset, .unset, .unset, .unset, .unset, .unset, .unset, .unset, .unset] [(.int (3 : Int32)), (.int ((fl.toUInt32 >>> ((2 : Int32) &&& 31).toUInt32).toInt32)), (.int b)])
  refine Goes.step (fun _ k => XS.iand X3.here hx rfl (hb hby at_16) rfl k) ?_
  show Goes p e below _ T3 (mkF m 17 #[.val (.int a), .val (.int b), .val (.int i0), .val (.int j0), .val (.int fl), .val (.double x3), .second, .unset, .unset, .unset, .unset, .unset, .unset, .unset, .unset, .unset, .unset, .unset, .unset] [(.int (((fl.toUInt32 >>> ((2 : Int32) &&& 31).toUInt32).toInt32) &&& (3 : Int32))), (.int b)])
  obtain ⟨v4, T4, L4, X4, hQ4, st4⟩ := scall X3 hx hZ hown (hw _ (List.mem_of_getElem? (i := 0) rfl)) (hw _ (List.mem_of_getElem? (i := 1) rfl)) (hw _ (List.mem_of_getElem? (i := 2) rfl)) (hw _ (List.mem_of_getElem? (i := 3) rfl)) (by decide) (W := 0) (rm_scale l Z a0 hw [] b (((fl.toUInt32 >>> ((2 : Int32) &&& 31).toUInt32).toInt32) &&& (3 : Int32)) h0) e3 (by decide) (by decide) (by decide) (by decide) (g := (mkF m 17 #[.val (.int a), .val (.int b), .val (.int i0), .val (.int j0), .val (.int fl), .val (.double x3), .second, .unset, .unset, .unset, .unset, .unset, .unset, .unset, .unset, .unset, .unset, .unset, .unset] [(.int (((fl.toUInt32 >>> ((2 : Int32) &&& 31).toUInt32).toInt32) &&& (3 : Int32))), (.int b)])) rfl (by rw [hml]; rfl) (argsL := [(.int b), (.int (((fl.toUInt32 >>> ((2 : Int32) &&& 31).toUInt32).toInt32) &&& (3 : Int32)))]) (rest := []) opd_2 rfl rfl rfl (by show 2 * 0 + _ ≤ _; exact Nat.le_of_eq rfl) (hb hby at_17)
  obtain ⟨x4, rfl, ok4, rfl, e4⟩ := hQ4
  refine Goes.step st4 ?_
  show Goes p e below _ T4 (mkF m 20 #[.val (.int a), .val (.int b), .val (.int i0), .val (.int j0), .val (.int fl), .val (.double x3), .second, .unset, .unset, .unset, .unset, .unset, .unset, .unset, .unset, .unset, .unset, .unset, .unset] [(.double x4)])
  refine Goes.step (fun _ k => XS.dstore X4.here hx rfl (hb hby at_20) rfl (l' := #[.val (.int a), .val (.int b), .val (.int i0), .val (.int j0), .val (.int fl), .val (.double x3), .second, .val (.double x4), .second, .unset, .unset, .unset, .unset, .unset, .unset, .unset, .unset, .unset, .unset]) rfl k) ?_
  show Goes p e below _ T4 (mkF m 22 #[.val (.int a), .val (.int b), .val (.int i0), .val (.int j0), .val (.int fl), .val (.double x3), .second, .val (.double x4), .second, .unset, .unset, .unset, .unset, .unset, .unset, .unset, .unset, .unset, .unset] [])
  refine Goes.step (fun _ k => XS.iload X4.here hx rfl (hb hby at_22) rfl k) ?_
  show Goes p e below _ T4 (mkF m 24 #[.val (.int a), .val (.int b), .val (.int i0), .val (.int j0), .val (.int fl), .val (.double x3), .second, .val (.double x4), .second, .unset, .unset, .unset, .unset, .unset, .unset, .unset, .unset, .unset, .unset] [(.int fl)])
  refine Goes.step (fun _ k => XS.bipush X4.here hx rfl (hb hby at_24) k) ?_
  show Goes p e below _ T4 (mkF m 26 #[.val (.int a), .val (.int b), .val (.int i0), .val (.int j0), .val (.int fl), .val (.double x3), .second, .val (.double x4), .second, .unset, .unset, .unset, .unset, .unset, .unset, .unset, .unset, .unset, .unset] [(.int (16 : Int32)), (.int fl)])
  refine Goes.step (fun _ k => XS.iand X4.here hx rfl (hb hby at_26) rfl k) ?_
  show Goes p e below _ T4 (mkF m 27 #[.val (.int a), .val (.int b), .val (.int i0), .val (.int j0), .val (.int fl), .val (.double x3), .second, .val (.double x4), .second, .unset, .unset, .unset, .unset, .unset, .unset, .unset, .unset, .unset, .unset] [(.int (fl &&& (16 : Int32)))])
  have K34 : ∀ (q : UInt64) (_ : own_ok q), Goes p e below (EndQ s room_1 (own_Q h0)) T4 (mkF m 34 #[.val (.int a), .val (.int b), .val (.int i0), .val (.int j0), .val (.int fl), .val (.double x3), .second, .val (.double q), .second, .unset, .unset, .unset, .unset, .unset, .unset, .unset, .unset, .unset, .unset] []) := by
    intro q okq
    show Goes p e below _ T4 (mkF m 34 #[.val (.int a), .val (.int b), .val (.int i0), .val (.int j0), .val (.int fl), .val (.double x3), .second, .val (.double q), .second, .unset, .unset, .unset, .unset, .unset, .unset, .unset, .unset, .unset, .unset] [])
    refine Goes.step (fun _ k => XS.iloadN X4.here hx rfl (hb hby at_34) rfl k) ?_
    show Goes p e below _ T4 (mkF m 35 #[.val (.int a), .val (.int b), .val (.int i0), .val (.int j0), .val (.int fl), .val (.double x3), .second, .val (.double q), .second, .unset, .unset, .unset, .unset, .unset, .unset, .unset, .unset, .unset, .unset] [(.int i0)])
    refine Goes.step (fun _ k => Jvm.Stand.ldcI X4 hx hown (mvT hZ (hw _ (List.mem_of_getElem? (i := 4) rfl))) rfl (hb hby at_35) k) ?_
    show Goes p e below _ T4 (mkF m 37 #[.val (.int a), .val (.int b), .val (.int i0), .val (.int j0), .val (.int fl), .val (.double x3), .second, .val (.double q), .second, .unset, .unset, .unset, .unset, .unset, .unset, .unset, .unset, .unset, .unset] [(.int (2147483647 : Int32)), (.int i0)])
    refine Goes.step (fun _ k => XS.iand X4.here hx rfl (hb hby at_37) rfl k) ?_
    show Goes p e below _ T4 (mkF m 38 #[.val (.int a), .val (.int b), .val (.int i0), .val (.int j0), .val (.int fl), .val (.double x3), .second, .val (.double q), .second, .unset, .unset, .unset, .unset, .unset, .unset, .unset, .unset, .unset, .unset] [(.int (i0 &&& (2147483647 : Int32)))])
    refine Goes.step (fun _ k => XS.istore X4.here hx rfl (hb hby at_38) rfl (l' := #[.val (.int a), .val (.int b), .val (.int i0), .val (.int j0), .val (.int fl), .val (.double x3), .second, .val (.double q), .second, .val (.int (i0 &&& (2147483647 : Int32))), .unset, .unset, .unset, .unset, .unset, .unset, .unset, .unset, .unset]) rfl k) ?_
    show Goes p e below _ T4 (mkF m 40 #[.val (.int a), .val (.int b), .val (.int i0), .val (.int j0), .val (.int fl), .val (.double x3), .second, .val (.double q), .second, .val (.int (i0 &&& (2147483647 : Int32))), .unset, .unset, .unset, .unset, .unset, .unset, .unset, .unset, .unset] [])
    refine Goes.step (fun _ k => XS.iloadN X4.here hx rfl (hb hby at_40) rfl k) ?_
    show Goes p e below _ T4 (mkF m 41 #[.val (.int a), .val (.int b), .val (.int i0), .val (.int j0), .val (.int fl), .val (.double x3), .second, .val (.double q), .second, .val (.int (i0 &&& (2147483647 : Int32))), .unset, .unset, .unset, .unset, .unset, .unset, .unset, .unset, .unset] [(.int j0)])
    refine Goes.step (fun _ k => Jvm.Stand.ldcI X4 hx hown (mvT hZ (hw _ (List.mem_of_getElem? (i := 4) rfl))) rfl (hb hby at_41) k) ?_
    show Goes p e below _ T4 (mkF m 43 #[.val (.int a), .val (.int b), .val (.int i0), .val (.int j0), .val (.int fl), .val (.double x3), .second, .val (.double q), .second, .val (.int (i0 &&& (2147483647 : Int32))), .unset, .unset, .unset, .unset, .unset, .unset, .unset, .unset, .unset] [(.int (2147483647 : Int32)), (.int j0)])
    refine Goes.step (fun _ k => XS.iand X4.here hx rfl (hb hby at_43) rfl k) ?_
    show Goes p e below _ T4 (mkF m 44 #[.val (.int a), .val (.int b), .val (.int i0), .val (.int j0), .val (.int fl), .val (.double x3), .second, .val (.double q), .second, .val (.int (i0 &&& (2147483647 : Int32))), .unset, .unset, .unset, .unset, .unset, .unset, .unset, .unset, .unset] [(.int (j0 &&& (2147483647 : Int32)))])
    refine Goes.step (fun _ k => XS.istore X4.here hx rfl (hb hby at_44) rfl (l' := #[.val (.int a), .val (.int b), .val (.int i0), .val (.int j0), .val (.int fl), .val (.double x3), .second, .val (.double q), .second, .val (.int (i0 &&& (2147483647 : Int32))), .val (.int (j0 &&& (2147483647 : Int32))), .unset, .unset, .unset, .unset, .unset, .unset, .unset, .unset]) rfl k) ?_
    show Goes p e below _ T4 (mkF m 46 #[.val (.int a), .val (.int b), .val (.int i0), .val (.int j0), .val (.int fl), .val (.double x3), .second, .val (.double q), .second, .val (.int (i0 &&& (2147483647 : Int32))), .val (.int (j0 &&& (2147483647 : Int32))), .unset, .unset, .unset, .unset, .unset, .unset, .unset, .unset] [])
    refine Goes.step (fun _ k => XS.iload X4.here hx rfl (hb hby at_46) rfl k) ?_
    show Goes p e below _ T4 (mkF m 48 #[.val (.int a), .val (.int b), .val (.int i0), .val (.int j0), .val (.int fl), .val (.double x3), .second, .val (.double q), .second, .val (.int (i0 &&& (2147483647 : Int32))), .val (.int (j0 &&& (2147483647 : Int32))), .unset, .unset, .unset, .unset, .unset, .unset, .unset, .unset] [(.int fl)])
    refine Goes.step (fun _ k => XS.bipush X4.here hx rfl (hb hby at_48) k) ?_
    show Goes p e below _ T4 (mkF m 50 #[.val (.int a), .val (.int b), .val (.int i0), .val (.int j0), .val (.int fl), .val (.double x3), .second, .val (.double q), .second, .val (.int (i0 &&& (2147483647 : Int32))), .val (.int (j0 &&& (2147483647 : Int32))), .unset, .unset, .unset, .unset, .unset, .unset, .unset, .unset] [(.int (32 : Int32)), (.int fl)])
    refine Goes.step (fun _ k => XS.iand X4.here hx rfl (hb hby at_50) rfl k) ?_
    show Goes p e below _ T4 (mkF m 51 #[.val (.int a), .val (.int b), .val (.int i0), .val (.int j0), .val (.int fl), .val (.double x3), .second, .val (.double q), .second, .val (.int (i0 &&& (2147483647 : Int32))), .val (.int (j0 &&& (2147483647 : Int32))), .unset, .unset, .unset, .unset, .unset, .unset, .unset, .unset] [(.int (fl &&& (32 : Int32)))])
    have K58 : ∀ (j : Int32) (_ : 0 ≤ j.toInt), Goes p e below (EndQ s room_1 (own_Q h0)) T4 (mkF m 58 #[.val (.int a), .val (.int b), .val (.int i0), .val (.int j0), .val (.int fl), .val (.double x3), .second, .val (.double q), .second, .val (.int (i0 &&& (2147483647 : Int32))), .val (.int j), .unset, .unset, .unset, .unset, .unset, .unset, .unset, .unset] []) := by
      intro j hj
      have hi : 0 ≤ ((i0 &&& (2147483647 : Int32))).toInt := (c_and i0 2147483647 (by decide)).1
      have hn1 := own_d2f_neg ok3.1
      have hn2 := own_d2f_neg okq.1
      show Goes p e below _ T4 (mkF m 58 #[.val (.int a), .val (.int b), .val (.int i0), .val (.int j0), .val (.int fl), .val (.double x3), .second, .val (.double q), .second, .val (.int (i0 &&& (2147483647 : Int32))), .val (.int j), .unset, .unset, .unset, .unset, .unset, .unset, .unset, .unset] [])
      refine Goes.step (fun _ k => XS.dload X4.here hx rfl (hb hby at_58) rfl k) ?_
      show Goes p e below _ T4 (mkF m 60 #[.val (.int a), .val (.int b), .val (.int i0), .val (.int j0), .val (.int fl), .val (.double x3), .second, .val (.double q), .second, .val (.int (i0 &&& (2147483647 : Int32))), .val (.int j), .unset, .unset, .unset, .unset, .unset, .unset, .unset, .unset] [(.double x3)])
      refine Goes.step (fun _ k => XS.iload X4.here hx rfl (hb hby at_60) rfl k) ?_
      show Goes p e below _ T4 (mkF m 62 #[.val (.int a), .val (.int b), .val (.int i0), .val (.int j0), .val (.int fl), .val (.double x3), .second, .val (.double q), .second, .val (.int (i0 &&& (2147483647 : Int32))), .val (.int j), .unset, .unset, .unset, .unset, .unset, .unset, .unset, .unset] [(.int (i0 &&& (2147483647 : Int32))), (.double x3)])
      obtain ⟨v5, T5, L5, X5, hQ5, st5⟩ := scall X4 hx hZ hown (hw _ (List.mem_of_getElem? (i := 5) rfl)) (hw _ (List.mem_of_getElem? (i := 6) rfl)) (hw _ (List.mem_of_getElem? (i := 7) rfl)) (hw _ (List.mem_of_getElem? (i := 8) rfl)) (by decide) (W := 0) (rm_key l Z a0 hw [] x3 (i0 &&& (2147483647 : Int32)) (FP.d2f x3) h0 ok3.1 hn1) e4 (by decide) (by decide) (by decide) (by decide) (g := (mkF m 62 #[.val (.int a), .val (.int b), .val (.int i0), .val (.int j0), .val (.int fl), .val (.double x3), .second, .val (.double q), .second, .val (.int (i0 &&& (2147483647 : Int32))), .val (.int j), .unset, .unset, .unset, .unset, .unset, .unset, .unset, .unset] [(.int (i0 &&& (2147483647 : Int32))), (.double x3)])) rfl (by rw [hml]; rfl) (argsL := [(.double x3), (.int (i0 &&& (2147483647 : Int32)))]) (rest := []) opd_3 rfl rfl rfl (by show 2 * 0 + _ ≤ _; exact Nat.le_of_eq rfl) (hb hby at_62)
      obtain ⟨rfl, rfl, e5⟩ := hQ5
      refine Goes.step st5 ?_
      show Goes p e below _ T5 (mkF m 65 #[.val (.int a), .val (.int b), .val (.int i0), .val (.int j0), .val (.int fl), .val (.double x3), .second, .val (.double q), .second, .val (.int (i0 &&& (2147483647 : Int32))), .val (.int j), .unset, .unset, .unset, .unset, .unset, .unset, .unset, .unset] [(.long (own_k (FP.d2f x3) (i0 &&& (2147483647 : Int32))))])
      refine Goes.step (fun _ k => XS.lstore X5.here hx rfl (hb hby at_65) rfl (l' := #[.val (.int a), .val (.int b), .val (.int i0), .val (.int j0), .val (.int fl), .val (.double x3), .second, .val (.double q), .second, .val (.int (i0 &&& (2147483647 : Int32))), .val (.int j), .val (.long (own_k (FP.d2f x3) (i0 &&& (2147483647 : Int32)))), .second, .unset, .unset, .unset, .unset, .unset, .unset]) rfl k) ?_
      show Goes p e below _ T5 (mkF m 67 #[.val (.int a), .val (.int b), .val (.int i0), .val (.int j0), .val (.int fl), .val (.double x3), .second, .val (.double q), .second, .val (.int (i0 &&& (2147483647 : Int32))), .val (.int j), .val (.long (own_k (FP.d2f x3) (i0 &&& (2147483647 : Int32)))), .second, .unset, .unset, .unset, .unset, .unset, .unset] [])
      refine Goes.step (fun _ k => XS.dload X5.here hx rfl (hb hby at_67) rfl k) ?_
      show Goes p e below _ T5 (mkF m 69 #[.val (.int a), .val (.int b), .val (.int i0), .val (.int j0), .val (.int fl), .val (.double x3), .second, .val (.double q), .second, .val (.int (i0 &&& (2147483647 : Int32))), .val (.int j), .val (.long (own_k (FP.d2f x3) (i0 &&& (2147483647 : Int32)))), .second, .unset, .unset, .unset, .unset, .unset, .unset] [(.double q)])
      refine Goes.step (fun _ k => XS.iload X5.here hx rfl (hb hby at_69) rfl k) ?_
      show Goes p e below _ T5 (mkF m 71 #[.val (.int a), .val (.int b), .val (.int i0), .val (.int j0), .val (.int fl), .val (.double x3), .second, .val (.double q), .second, .val (.int (i0 &&& (2147483647 : Int32))), .val (.int j), .val (.long (own_k (FP.d2f x3) (i0 &&& (2147483647 : Int32)))), .second, .unset, .unset, .unset, .unset, .unset, .unset] [(.int j), (.double q)])
      obtain ⟨v6, T6, L6, X6, hQ6, st6⟩ := scall X5 hx hZ hown (hw _ (List.mem_of_getElem? (i := 5) rfl)) (hw _ (List.mem_of_getElem? (i := 6) rfl)) (hw _ (List.mem_of_getElem? (i := 7) rfl)) (hw _ (List.mem_of_getElem? (i := 8) rfl)) (by decide) (W := 0) (rm_key l Z a0 hw [] q j (FP.d2f q) h0 okq.1 hn2) e5 (by decide) (by decide) (by decide) (by decide) (g := (mkF m 71 #[.val (.int a), .val (.int b), .val (.int i0), .val (.int j0), .val (.int fl), .val (.double x3), .second, .val (.double q), .second, .val (.int (i0 &&& (2147483647 : Int32))), .val (.int j), .val (.long (own_k (FP.d2f x3) (i0 &&& (2147483647 : Int32)))), .second, .unset, .unset, .unset, .unset, .unset, .unset] [(.int j), (.double q)])) rfl (by rw [hml]; rfl) (argsL := [(.double q), (.int j)]) (rest := []) opd_3 rfl rfl rfl (by show 2 * 0 + _ ≤ _; exact Nat.le_of_eq rfl) (hb hby at_71)
      obtain ⟨rfl, rfl, e6⟩ := hQ6
      refine Goes.step st6 ?_
      show Goes p e below _ T6 (mkF m 74 #[.val (.int a), .val (.int b), .val (.int i0), .val (.int j0), .val (.int fl), .val (.double x3), .second, .val (.double q), .second, .val (.int (i0 &&& (2147483647 : Int32))), .val (.int j), .val (.long (own_k (FP.d2f x3) (i0 &&& (2147483647 : Int32)))), .second, .unset, .unset, .unset, .unset, .unset, .unset] [(.long (own_k (FP.d2f q) j))])
      refine Goes.step (fun _ k => XS.lstore X6.here hx rfl (hb hby at_74) rfl (l' := #[.val (.int a), .val (.int b), .val (.int i0), .val (.int j0), .val (.int fl), .val (.double x3), .second, .val (.double q), .second, .val (.int (i0 &&& (2147483647 : Int32))), .val (.int j), .val (.long (own_k (FP.d2f x3) (i0 &&& (2147483647 : Int32)))), .second, .val (.long (own_k (FP.d2f q) j)), .second, .unset, .unset, .unset, .unset]) rfl k) ?_
      show Goes p e below _ T6 (mkF m 76 #[.val (.int a), .val (.int b), .val (.int i0), .val (.int j0), .val (.int fl), .val (.double x3), .second, .val (.double q), .second, .val (.int (i0 &&& (2147483647 : Int32))), .val (.int j), .val (.long (own_k (FP.d2f x3) (i0 &&& (2147483647 : Int32)))), .second, .val (.long (own_k (FP.d2f q) j)), .second, .unset, .unset, .unset, .unset] [])
      refine Goes.step (fun _ k => XS.dload X6.here hx rfl (hb hby at_76) rfl k) ?_
      show Goes p e below _ T6 (mkF m 78 #[.val (.int a), .val (.int b), .val (.int i0), .val (.int j0), .val (.int fl), .val (.double x3), .second, .val (.double q), .second, .val (.int (i0 &&& (2147483647 : Int32))), .val (.int j), .val (.long (own_k (FP.d2f x3) (i0 &&& (2147483647 : Int32)))), .second, .val (.long (own_k (FP.d2f q) j)), .second, .unset, .unset, .unset, .unset] [(.double x3)])
      refine Goes.step (fun _ k => XS.d2fS X6.here hx rfl (hb hby at_78) rfl (own_d2f_nn ok3) rfl k) ?_
      show Goes p e below _ T6 (mkF m 79 #[.val (.int a), .val (.int b), .val (.int i0), .val (.int j0), .val (.int fl), .val (.double x3), .second, .val (.double q), .second, .val (.int (i0 &&& (2147483647 : Int32))), .val (.int j), .val (.long (own_k (FP.d2f x3) (i0 &&& (2147483647 : Int32)))), .second, .val (.long (own_k (FP.d2f q) j)), .second, .unset, .unset, .unset, .unset] [(.float (FP.d2f x3))])
      refine Goes.step (fun _ k => XS.fstore X6.here hx rfl (hb hby at_79) rfl (l' := #[.val (.int a), .val (.int b), .val (.int i0), .val (.int j0), .val (.int fl), .val (.double x3), .second, .val (.double q), .second, .val (.int (i0 &&& (2147483647 : Int32))), .val (.int j), .val (.long (own_k (FP.d2f x3) (i0 &&& (2147483647 : Int32)))), .second, .val (.long (own_k (FP.d2f q) j)), .second, .val (.float (FP.d2f x3)), .unset, .unset, .unset]) rfl k) ?_
      show Goes p e below _ T6 (mkF m 81 #[.val (.int a), .val (.int b), .val (.int i0), .val (.int j0), .val (.int fl), .val (.double x3), .second, .val (.double q), .second, .val (.int (i0 &&& (2147483647 : Int32))), .val (.int j), .val (.long (own_k (FP.d2f x3) (i0 &&& (2147483647 : Int32)))), .second, .val (.long (own_k (FP.d2f q) j)), .second, .val (.float (FP.d2f x3)), .unset, .unset, .unset] [])
      refine Goes.step (fun _ k => XS.dload X6.here hx rfl (hb hby at_81) rfl k) ?_
      show Goes p e below _ T6 (mkF m 83 #[.val (.int a), .val (.int b), .val (.int i0), .val (.int j0), .val (.int fl), .val (.double x3), .second, .val (.double q), .second, .val (.int (i0 &&& (2147483647 : Int32))), .val (.int j), .val (.long (own_k (FP.d2f x3) (i0 &&& (2147483647 : Int32)))), .second, .val (.long (own_k (FP.d2f q) j)), .second, .val (.float (FP.d2f x3)), .unset, .unset, .unset] [(.double q)])
      refine Goes.step (fun _ k => XS.d2fS X6.here hx rfl (hb hby at_83) rfl (own_d2f_nn okq) rfl k) ?_
      show Goes p e below _ T6 (mkF m 84 #[.val (.int a), .val (.int b), .val (.int i0), .val (.int j0), .val (.int fl), .val (.double x3), .second, .val (.double q), .second, .val (.int (i0 &&& (2147483647 : Int32))), .val (.int j), .val (.long (own_k (FP.d2f x3) (i0 &&& (2147483647 : Int32)))), .second, .val (.long (own_k (FP.d2f q) j)), .second, .val (.float (FP.d2f x3)), .unset, .unset, .unset] [(.float (FP.d2f q))])
      refine Goes.step (fun _ k => XS.fstore X6.here hx rfl (hb hby at_84) rfl (l' := #[.val (.int a), .val (.int b), .val (.int i0), .val (.int j0), .val (.int fl), .val (.double x3), .second, .val (.double q), .second, .val (.int (i0 &&& (2147483647 : Int32))), .val (.int j), .val (.long (own_k (FP.d2f x3) (i0 &&& (2147483647 : Int32)))), .second, .val (.long (own_k (FP.d2f q) j)), .second, .val (.float (FP.d2f x3)), .val (.float (FP.d2f q)), .unset, .unset]) rfl k) ?_
      show Goes p e below _ T6 (mkF m 86 #[.val (.int a), .val (.int b), .val (.int i0), .val (.int j0), .val (.int fl), .val (.double x3), .second, .val (.double q), .second, .val (.int (i0 &&& (2147483647 : Int32))), .val (.int j), .val (.long (own_k (FP.d2f x3) (i0 &&& (2147483647 : Int32)))), .second, .val (.long (own_k (FP.d2f q) j)), .second, .val (.float (FP.d2f x3)), .val (.float (FP.d2f q)), .unset, .unset] [])
      have hc := own_cmp (own_d2f_nn ok3) (own_d2f_nn okq) (own_d2f_nz ok3) (own_d2f_nz okq)
      have v1 := own_k_val (FP.d2f x3) hi
      have v2 := own_k_val (FP.d2f q) hj
      have l1 := own_k_low (FP.d2f x3) hi
      have l2 := own_k_low (FP.d2f q) hj
      generalize FP.d2f x3 = u at *
      generalize FP.d2f q = v at *
      generalize gk1 : own_k u (i0 &&& (2147483647 : Int32)) = k1 at *
      generalize gk2 : own_k v j = k2 at *
      generalize gi : (i0 &&& (2147483647 : Int32)) = i at *
      have ri := rng32 i
      have rj := rng32 j
      have hless : k1 < k2 ↔ ((own_t u).toInt < (own_t v).toInt ∨ ((own_t u).toInt = (own_t v).toInt ∧ i < j)) := by
        rw [Int64.lt_iff_toInt_lt, Int32.lt_iff_toInt_lt]; omega
      have heq : k1 = k2 ↔ ((own_t u).toInt = (own_t v).toInt ∧ i = j) := by
        rw [← Int64.toInt_inj, ← Int32.toInt_inj]; omega
      have K138 : ∀ (bx by0 : Int32) (_ : k1 < k2 → bx = 1) (_ : ¬ k1 < k2 → bx = 0) (_ : k1 = k2 → by0 = 1) (_ : ¬ k1 = k2 → by0 = 0), Goes p e below (EndQ s room_1 (own_Q h0)) T6 (mkF m 138 #[.val (.int a), .val (.int b), .val (.int i0), .val (.int j0), .val (.int fl), .val (.double x3), .second, .val (.double q), .second, .val (.int i), .val (.int j), .val (.long k1), .second, .val (.long k2), .second, .val (.float u), .val (.float v), .val (.int bx), .val (.int by0)] []) := by
        intro bx by0 x1 x0 y1 y0
        show Goes p e below _ T6 (mkF m 138 #[.val (.int a), .val (.int b), .val (.int i0), .val (.int j0), .val (.int fl), .val (.double x3), .second, .val (.double q), .second, .val (.int i), .val (.int j), .val (.long k1), .second, .val (.long k2), .second, .val (.float u), .val (.float v), .val (.int bx), .val (.int by0)] [])
        refine Goes.step (fun _ k => XS.lload X6.here hx rfl (hb hby at_138) rfl k) ?_
        show Goes p e below _ T6 (mkF m 140 #[.val (.int a), .val (.int b), .val (.int i0), .val (.int j0), .val (.int fl), .val (.double x3), .second, .val (.double q), .second, .val (.int i), .val (.int j), .val (.long k1), .second, .val (.long k2), .second, .val (.float u), .val (.float v), .val (.int bx), .val (.int by0)] [(.long k1)])
        refine Goes.step (fun _ k => XS.l2i X6.here hx rfl (hb hby at_140) rfl k) ?_
        show Goes p e below _ T6 (mkF m 141 #[.val (.int a), .val (.int b), .val (.int i0), .val (.int j0), .val (.int fl), .val (.double x3), .second, .val (.double q), .second, .val (.int i), .val (.int j), .val (.long k1), .second, .val (.long k2), .second, .val (.float u), .val (.float v), .val (.int bx), .val (.int by0)] [(.int (k1.toInt32))])
        refine Goes.step (fun _ k => XS.iload X6.here hx rfl (hb hby at_141) rfl k) ?_
        show Goes p e below _ T6 (mkF m 143 #[.val (.int a), .val (.int b), .val (.int i0), .val (.int j0), .val (.int fl), .val (.double x3), .second, .val (.double q), .second, .val (.int i), .val (.int j), .val (.long k1), .second, .val (.long k2), .second, .val (.float u), .val (.float v), .val (.int bx), .val (.int by0)] [(.int i), (.int (k1.toInt32))])
        refine Goes.step (fun _ k => XS.icmpNo X6.here hx rfl (hb hby at_143) rfl (teq l1).2 k) ?_
        show Goes p e below _ T6 (mkF m 146 #[.val (.int a), .val (.int b), .val (.int i0), .val (.int j0), .val (.int fl), .val (.double x3), .second, .val (.double q), .second, .val (.int i), .val (.int j), .val (.long k1), .second, .val (.long k2), .second, .val (.float u), .val (.float v), .val (.int bx), .val (.int by0)] [])
        refine Goes.step (fun _ k => XS.lload X6.here hx rfl (hb hby at_146) rfl k) ?_
        show Goes p e below _ T6 (mkF m 148 #[.val (.int a), .val (.int b), .val (.int i0), .val (.int j0), .val (.int fl), .val (.double x3), .second, .val (.double q), .second, .val (.int i), .val (.int j), .val (.long k1), .second, .val (.long k2), .second, .val (.float u), .val (.float v), .val (.int bx), .val (.int by0)] [(.long k2)])
        refine Goes.step (fun _ k => XS.l2i X6.here hx rfl (hb hby at_148) rfl k) ?_
        show Goes p e below _ T6 (mkF m 149 #[.val (.int a), .val (.int b), .val (.int i0), .val (.int j0), .val (.int fl), .val (.double x3), .second, .val (.double q), .second, .val (.int i), .val (.int j), .val (.long k1), .second, .val (.long k2), .second, .val (.float u), .val (.float v), .val (.int bx), .val (.int by0)] [(.int (k2.toInt32))])
        refine Goes.step (fun _ k => XS.iload X6.here hx rfl (hb hby at_149) rfl k) ?_
        show Goes p e below _ T6 (mkF m 151 #[.val (.int a), .val (.int b), .val (.int i0), .val (.int j0), .val (.int fl), .val (.double x3), .second, .val (.double q), .second, .val (.int i), .val (.int j), .val (.long k1), .second, .val (.long k2), .second, .val (.float u), .val (.float v), .val (.int bx), .val (.int by0)] [(.int j), (.int (k2.toInt32))])
        refine Goes.step (fun _ k => XS.icmpNo X6.here hx rfl (hb hby at_151) rfl (teq l2).2 k) ?_
        show Goes p e below _ T6 (mkF m 154 #[.val (.int a), .val (.int b), .val (.int i0), .val (.int j0), .val (.int fl), .val (.double x3), .second, .val (.double q), .second, .val (.int i), .val (.int j), .val (.long k1), .second, .val (.long k2), .second, .val (.float u), .val (.float v), .val (.int bx), .val (.int by0)] [])
        refine Goes.step (fun _ k => XS.lload X6.here hx rfl (hb hby at_154) rfl k) ?_
        show Goes p e below _ T6 (mkF m 156 #[.val (.int a), .val (.int b), .val (.int i0), .val (.int j0), .val (.int fl), .val (.double x3), .second, .val (.double q), .second, .val (.int i), .val (.int j), .val (.long k1), .second, .val (.long k2), .second, .val (.float u), .val (.float v), .val (.int bx), .val (.int by0)] [(.long k1)])
        refine Goes.step (fun _ k => XS.lload X6.here hx rfl (hb hby at_156) rfl k) ?_
        show Goes p e below _ T6 (mkF m 158 #[.val (.int a), .val (.int b), .val (.int i0), .val (.int j0), .val (.int fl), .val (.double x3), .second, .val (.double q), .second, .val (.int i), .val (.int j), .val (.long k1), .second, .val (.long k2), .second, .val (.float u), .val (.float v), .val (.int bx), .val (.int by0)] [(.long k2), (.long k1)])
        refine Goes.step (fun _ k => XS.lcmp X6.here hx rfl (hb hby at_158) rfl k) ?_
        show Goes p e below _ T6 (mkF m 159 #[.val (.int a), .val (.int b), .val (.int i0), .val (.int j0), .val (.int fl), .val (.double x3), .second, .val (.double q), .second, .val (.int i), .val (.int j), .val (.long k1), .second, .val (.long k2), .second, .val (.float u), .val (.float v), .val (.int bx), .val (.int by0)] [(.int (lcmpW k1 k2))])
        have K172 : ∀ _ : True, Goes p e below (EndQ s room_1 (own_Q h0)) T6 (mkF m 172 #[.val (.int a), .val (.int b), .val (.int i0), .val (.int j0), .val (.int fl), .val (.double x3), .second, .val (.double q), .second, .val (.int i), .val (.int j), .val (.long k1), .second, .val (.long k2), .second, .val (.float u), .val (.float v), .val (.int bx), .val (.int by0)] []) := by
          intro _
          show Goes p e below _ T6 (mkF m 172 #[.val (.int a), .val (.int b), .val (.int i0), .val (.int j0), .val (.int fl), .val (.double x3), .second, .val (.double q), .second, .val (.int i), .val (.int j), .val (.long k1), .second, .val (.long k2), .second, .val (.float u), .val (.float v), .val (.int bx), .val (.int by0)] [])
          refine Goes.step (fun _ k => XS.lload X6.here hx rfl (hb hby at_172) rfl k) ?_
          show Goes p e below _ T6 (mkF m 174 #[.val (.int a), .val (.int b), .val (.int i0), .val (.int j0), .val (.int fl), .val (.double x3), .second, .val (.double q), .second, .val (.int i), .val (.int j), .val (.long k1), .second, .val (.long k2), .second, .val (.float u), .val (.float v), .val (.int bx), .val (.int by0)] [(.long k1)])
          refine Goes.step (fun _ k => XS.lload X6.here hx rfl (hb hby at_174) rfl k) ?_
          show Goes p e below _ T6 (mkF m 176 #[.val (.int a), .val (.int b), .val (.int i0), .val (.int j0), .val (.int fl), .val (.double x3), .second, .val (.double q), .second, .val (.int i), .val (.int j), .val (.long k1), .second, .val (.long k2), .second, .val (.float u), .val (.float v), .val (.int bx), .val (.int by0)] [(.long k2), (.long k1)])
          refine Goes.step (fun _ k => XS.lcmp X6.here hx rfl (hb hby at_176) rfl k) ?_
          show Goes p e below _ T6 (mkF m 177 #[.val (.int a), .val (.int b), .val (.int i0), .val (.int j0), .val (.int fl), .val (.double x3), .second, .val (.double q), .second, .val (.int i), .val (.int j), .val (.long k1), .second, .val (.long k2), .second, .val (.float u), .val (.float v), .val (.int bx), .val (.int by0)] [(.int (lcmpW k1 k2))])
          have K190 : ∀ _ : True, Goes p e below (EndQ s room_1 (own_Q h0)) T6 (mkF m 190 #[.val (.int a), .val (.int b), .val (.int i0), .val (.int j0), .val (.int fl), .val (.double x3), .second, .val (.double q), .second, .val (.int i), .val (.int j), .val (.long k1), .second, .val (.long k2), .second, .val (.float u), .val (.float v), .val (.int bx), .val (.int by0)] []) := by
            intro _
            show Goes p e below _ T6 (mkF m 190 #[.val (.int a), .val (.int b), .val (.int i0), .val (.int j0), .val (.int fl), .val (.double x3), .second, .val (.double q), .second, .val (.int i), .val (.int j), .val (.long k1), .second, .val (.long k2), .second, .val (.float u), .val (.float v), .val (.int bx), .val (.int by0)] [])
            refine Goes.step (fun _ k => XS.iconst X6.here hx rfl (hb hby at_190) k) ?_
            show Goes p e below _ T6 (mkF m 191 #[.val (.int a), .val (.int b), .val (.int i0), .val (.int j0), .val (.int fl), .val (.double x3), .second, .val (.double q), .second, .val (.int i), .val (.int j), .val (.long k1), .second, .val (.long k2), .second, .val (.float u), .val (.float v), .val (.int bx), .val (.int by0)] [(.int (1 : Int32))])
            refine Goes.step (fun _ k => XS.goto X6.here hx rfl (pc0 := 191) (pc' := 195) rfl (hb hby at_191) (by decide) (by decide) k) ?_
            show Goes p e below _ T6 (mkF m 195 #[.val (.int a), .val (.int b), .val (.int i0), .val (.int j0), .val (.int fl), .val (.double x3), .second, .val (.double q), .second, .val (.int i), .val (.int j), .val (.long k1), .second, .val (.long k2), .second, .val (.float u), .val (.float v), .val (.int bx), .val (.int by0)] [(.int (1 : Int32))])
            exact Goes.ret X6 hx (t := .boolean) hret hlk rfl (Or.inl ⟨rfl, by simp, _, rfl⟩) (hb hby at_195) (by decide) (by decide) ⟨rfl, Fr.nil _⟩
          by_cases hq : k1 = k2
          · refine Goes.step (fun _ k => XS.ifNo X6.here hx rfl (hb hby at_177) rfl ((if0 _ _).trans (teq ((lw_eq _ _).mpr hq)).2) k) ?_
            show Goes p e below _ T6 (mkF m 180 #[.val (.int a), .val (.int b), .val (.int i0), .val (.int j0), .val (.int fl), .val (.double x3), .second, .val (.double q), .second, .val (.int i), .val (.int j), .val (.long k1), .second, .val (.long k2), .second, .val (.float u), .val (.float v), .val (.int bx), .val (.int by0)] [])
            refine Goes.step (fun _ k => XS.iconst X6.here hx rfl (hb hby at_180) k) ?_
            show Goes p e below _ T6 (mkF m 181 #[.val (.int a), .val (.int b), .val (.int i0), .val (.int j0), .val (.int fl), .val (.double x3), .second, .val (.double q), .second, .val (.int i), .val (.int j), .val (.long k1), .second, .val (.long k2), .second, .val (.float u), .val (.float v), .val (.int bx), .val (.int by0)] [(.int (1 : Int32))])
            refine Goes.step (fun _ k => XS.goto X6.here hx rfl (pc0 := 181) (pc' := 185) rfl (hb hby at_181) (by decide) (by decide) k) ?_
            show Goes p e below _ T6 (mkF m 185 #[.val (.int a), .val (.int b), .val (.int i0), .val (.int j0), .val (.int fl), .val (.double x3), .second, .val (.double q), .second, .val (.int i), .val (.int j), .val (.long k1), .second, .val (.long k2), .second, .val (.float u), .val (.float v), .val (.int bx), .val (.int by0)] [(.int (1 : Int32))])
            refine Goes.step (fun _ k => XS.iload X6.here hx rfl (hb hby at_185) rfl k) ?_
            show Goes p e below _ T6 (mkF m 187 #[.val (.int a), .val (.int b), .val (.int i0), .val (.int j0), .val (.int fl), .val (.double x3), .second, .val (.double q), .second, .val (.int i), .val (.int j), .val (.long k1), .second, .val (.long k2), .second, .val (.float u), .val (.float v), .val (.int bx), .val (.int by0)] [(.int by0), (.int (1 : Int32))])
            refine Goes.step (fun _ k => XS.icmpNo X6.here hx rfl (hb hby at_187) rfl (teq (y1 hq).symm).2 k) ?_
            show Goes p e below _ T6 (mkF m 190 #[.val (.int a), .val (.int b), .val (.int i0), .val (.int j0), .val (.int fl), .val (.double x3), .second, .val (.double q), .second, .val (.int i), .val (.int j), .val (.long k1), .second, .val (.long k2), .second, .val (.float u), .val (.float v), .val (.int bx), .val (.int by0)] [])
            exact K190 trivial
          · refine Goes.step (fun _ k => XS.ifYes X6.here hx rfl (pc0 := 177) (pc' := 184) rfl (hb hby at_177) rfl ((if0 _ _).trans (feq (fun z => hq ((lw_eq _ _).mp z))).2) (by decide) (by decide) k) ?_
            show Goes p e below _ T6 (mkF m 184 #[.val (.int a), .val (.int b), .val (.int i0), .val (.int j0), .val (.int fl), .val (.double x3), .second, .val (.double q), .second, .val (.int i), .val (.int j), .val (.long k1), .second, .val (.long k2), .second, .val (.float u), .val (.float v), .val (.int bx), .val (.int by0)] [])
            refine Goes.step (fun _ k => XS.iconst X6.here hx rfl (hb hby at_184) k) ?_
            show Goes p e below _ T6 (mkF m 185 #[.val (.int a), .val (.int b), .val (.int i0), .val (.int j0), .val (.int fl), .val (.double x3), .second, .val (.double q), .second, .val (.int i), .val (.int j), .val (.long k1), .second, .val (.long k2), .second, .val (.float u), .val (.float v), .val (.int bx), .val (.int by0)] [(.int (0 : Int32))])
            refine Goes.step (fun _ k => XS.iload X6.here hx rfl (hb hby at_185) rfl k) ?_
            show Goes p e below _ T6 (mkF m 187 #[.val (.int a), .val (.int b), .val (.int i0), .val (.int j0), .val (.int fl), .val (.double x3), .second, .val (.double q), .second, .val (.int i), .val (.int j), .val (.long k1), .second, .val (.long k2), .second, .val (.float u), .val (.float v), .val (.int bx), .val (.int by0)] [(.int by0), (.int (0 : Int32))])
            refine Goes.step (fun _ k => XS.icmpNo X6.here hx rfl (hb hby at_187) rfl (teq (y0 hq).symm).2 k) ?_
            show Goes p e below _ T6 (mkF m 190 #[.val (.int a), .val (.int b), .val (.int i0), .val (.int j0), .val (.int fl), .val (.double x3), .second, .val (.double q), .second, .val (.int i), .val (.int j), .val (.long k1), .second, .val (.long k2), .second, .val (.float u), .val (.float v), .val (.int bx), .val (.int by0)] [])
            exact K190 trivial
        by_cases hq : k1 < k2
        · refine Goes.step (fun _ k => XS.ifNo X6.here hx rfl (hb hby at_159) rfl ((if0 _ _).trans (tlt ((lw_lt _ _).mpr hq)).2.1) k) ?_
          show Goes p e below _ T6 (mkF m 162 #[.val (.int a), .val (.int b), .val (.int i0), .val (.int j0), .val (.int fl), .val (.double x3), .second, .val (.double q), .second, .val (.int i), .val (.int j), .val (.long k1), .second, .val (.long k2), .second, .val (.float u), .val (.float v), .val (.int bx), .val (.int by0)] [])
          refine Goes.step (fun _ k => XS.iconst X6.here hx rfl (hb hby at_162) k) ?_
          show Goes p e below _ T6 (mkF m 163 #[.val (.int a), .val (.int b), .val (.int i0), .val (.int j0), .val (.int fl), .val (.double x3), .second, .val (.double q), .second, .val (.int i), .val (.int j), .val (.long k1), .second, .val (.long k2), .second, .val (.float u), .val (.float v), .val (.int bx), .val (.int by0)] [(.int (1 : Int32))])
          refine Goes.step (fun _ k => XS.goto X6.here hx rfl (pc0 := 163) (pc' := 167) rfl (hb hby at_163) (by decide) (by decide) k) ?_
          show Goes p e below _ T6 (mkF m 167 #[.val (.int a), .val (.int b), .val (.int i0), .val (.int j0), .val (.int fl), .val (.double x3), .second, .val (.double q), .second, .val (.int i), .val (.int j), .val (.long k1), .second, .val (.long k2), .second, .val (.float u), .val (.float v), .val (.int bx), .val (.int by0)] [(.int (1 : Int32))])
          refine Goes.step (fun _ k => XS.iload X6.here hx rfl (hb hby at_167) rfl k) ?_
          show Goes p e below _ T6 (mkF m 169 #[.val (.int a), .val (.int b), .val (.int i0), .val (.int j0), .val (.int fl), .val (.double x3), .second, .val (.double q), .second, .val (.int i), .val (.int j), .val (.long k1), .second, .val (.long k2), .second, .val (.float u), .val (.float v), .val (.int bx), .val (.int by0)] [(.int bx), (.int (1 : Int32))])
          refine Goes.step (fun _ k => XS.icmpNo X6.here hx rfl (hb hby at_169) rfl (teq (x1 hq).symm).2 k) ?_
          show Goes p e below _ T6 (mkF m 172 #[.val (.int a), .val (.int b), .val (.int i0), .val (.int j0), .val (.int fl), .val (.double x3), .second, .val (.double q), .second, .val (.int i), .val (.int j), .val (.long k1), .second, .val (.long k2), .second, .val (.float u), .val (.float v), .val (.int bx), .val (.int by0)] [])
          exact K172 trivial
        · refine Goes.step (fun _ k => XS.ifYes X6.here hx rfl (pc0 := 159) (pc' := 166) rfl (hb hby at_159) rfl ((if0 _ _).trans (flt (fun z => hq ((lw_lt _ _).mp z))).2.1) (by decide) (by decide) k) ?_
          show Goes p e below _ T6 (mkF m 166 #[.val (.int a), .val (.int b), .val (.int i0), .val (.int j0), .val (.int fl), .val (.double x3), .second, .val (.double q), .second, .val (.int i), .val (.int j), .val (.long k1), .second, .val (.long k2), .second, .val (.float u), .val (.float v), .val (.int bx), .val (.int by0)] [])
          refine Goes.step (fun _ k => XS.iconst X6.here hx rfl (hb hby at_166) k) ?_
          show Goes p e below _ T6 (mkF m 167 #[.val (.int a), .val (.int b), .val (.int i0), .val (.int j0), .val (.int fl), .val (.double x3), .second, .val (.double q), .second, .val (.int i), .val (.int j), .val (.long k1), .second, .val (.long k2), .second, .val (.float u), .val (.float v), .val (.int bx), .val (.int by0)] [(.int (0 : Int32))])
          refine Goes.step (fun _ k => XS.iload X6.here hx rfl (hb hby at_167) rfl k) ?_
          show Goes p e below _ T6 (mkF m 169 #[.val (.int a), .val (.int b), .val (.int i0), .val (.int j0), .val (.int fl), .val (.double x3), .second, .val (.double q), .second, .val (.int i), .val (.int j), .val (.long k1), .second, .val (.long k2), .second, .val (.float u), .val (.float v), .val (.int bx), .val (.int by0)] [(.int bx), (.int (0 : Int32))])
          refine Goes.step (fun _ k => XS.icmpNo X6.here hx rfl (hb hby at_169) rfl (teq (x0 hq).symm).2 k) ?_
          show Goes p e below _ T6 (mkF m 172 #[.val (.int a), .val (.int b), .val (.int i0), .val (.int j0), .val (.int fl), .val (.double x3), .second, .val (.double q), .second, .val (.int i), .val (.int j), .val (.long k1), .second, .val (.long k2), .second, .val (.float u), .val (.float v), .val (.int bx), .val (.int by0)] [])
          exact K172 trivial
      have K114 : ∀ (bx : Int32) (_ : k1 < k2 → bx = 1) (_ : ¬ k1 < k2 → bx = 0), Goes p e below (EndQ s room_1 (own_Q h0)) T6 (mkF m 114 #[.val (.int a), .val (.int b), .val (.int i0), .val (.int j0), .val (.int fl), .val (.double x3), .second, .val (.double q), .second, .val (.int i), .val (.int j), .val (.long k1), .second, .val (.long k2), .second, .val (.float u), .val (.float v), .unset, .unset] [(.int bx)]) := by
        intro bx x1 x0
        show Goes p e below _ T6 (mkF m 114 #[.val (.int a), .val (.int b), .val (.int i0), .val (.int j0), .val (.int fl), .val (.double x3), .second, .val (.double q), .second, .val (.int i), .val (.int j), .val (.long k1), .second, .val (.long k2), .second, .val (.float u), .val (.float v), .unset, .unset] [(.int bx)])
        refine Goes.step (fun _ k => XS.istore X6.here hx rfl (hb hby at_114) rfl (l' := #[.val (.int a), .val (.int b), .val (.int i0), .val (.int j0), .val (.int fl), .val (.double x3), .second, .val (.double q), .second, .val (.int i), .val (.int j), .val (.long k1), .second, .val (.long k2), .second, .val (.float u), .val (.float v), .val (.int bx), .unset]) rfl k) ?_
        show Goes p e below _ T6 (mkF m 116 #[.val (.int a), .val (.int b), .val (.int i0), .val (.int j0), .val (.int fl), .val (.double x3), .second, .val (.double q), .second, .val (.int i), .val (.int j), .val (.long k1), .second, .val (.long k2), .second, .val (.float u), .val (.float v), .val (.int bx), .unset] [])
        refine Goes.step (fun _ k => XS.fload X6.here hx rfl (hb hby at_116) rfl k) ?_
        show Goes p e below _ T6 (mkF m 118 #[.val (.int a), .val (.int b), .val (.int i0), .val (.int j0), .val (.int fl), .val (.double x3), .second, .val (.double q), .second, .val (.int i), .val (.int j), .val (.long k1), .second, .val (.long k2), .second, .val (.float u), .val (.float v), .val (.int bx), .unset] [(.float u)])
        refine Goes.step (fun _ k => XS.fload X6.here hx rfl (hb hby at_118) rfl k) ?_
        show Goes p e below _ T6 (mkF m 120 #[.val (.int a), .val (.int b), .val (.int i0), .val (.int j0), .val (.int fl), .val (.double x3), .second, .val (.double q), .second, .val (.int i), .val (.int j), .val (.long k1), .second, .val (.long k2), .second, .val (.float u), .val (.float v), .val (.int bx), .unset] [(.float v), (.float u)])
        refine Goes.step (fun _ k => XS.fcmpS X6.here hx rfl (hb hby at_120) rfl rfl k) ?_
        show Goes p e below _ T6 (mkF m 121 #[.val (.int a), .val (.int b), .val (.int i0), .val (.int j0), .val (.int fl), .val (.double x3), .second, .val (.double q), .second, .val (.int i), .val (.int j), .val (.long k1), .second, .val (.long k2), .second, .val (.float u), .val (.float v), .val (.int bx), .unset] [(.int (cmpValue (FP.fcmp u v) .l))])
        by_cases hz : (own_t u).toInt = (own_t v).toInt
        · have n1 : (cmpValue (FP.fcmp u v) .l) = 0 := by rw [hc, if_neg (by omega), if_pos hz]
          refine Goes.step (fun _ k => XS.ifNo X6.here hx rfl (hb hby at_121) rfl ((if0 _ _).trans (teq n1).2) k) ?_
          show Goes p e below _ T6 (mkF m 124 #[.val (.int a), .val (.int b), .val (.int i0), .val (.int j0), .val (.int fl), .val (.double x3), .second, .val (.double q), .second, .val (.int i), .val (.int j), .val (.long k1), .second, .val (.long k2), .second, .val (.float u), .val (.float v), .val (.int bx), .unset] [])
          refine Goes.step (fun _ k => XS.iload X6.here hx rfl (hb hby at_124) rfl k) ?_
          show Goes p e below _ T6 (mkF m 126 #[.val (.int a), .val (.int b), .val (.int i0), .val (.int j0), .val (.int fl), .val (.double x3), .second, .val (.double q), .second, .val (.int i), .val (.int j), .val (.long k1), .second, .val (.long k2), .second, .val (.float u), .val (.float v), .val (.int bx), .unset] [(.int i)])
          refine Goes.step (fun _ k => XS.iload X6.here hx rfl (hb hby at_126) rfl k) ?_
          show Goes p e below _ T6 (mkF m 128 #[.val (.int a), .val (.int b), .val (.int i0), .val (.int j0), .val (.int fl), .val (.double x3), .second, .val (.double q), .second, .val (.int i), .val (.int j), .val (.long k1), .second, .val (.long k2), .second, .val (.float u), .val (.float v), .val (.int bx), .unset] [(.int j), (.int i)])
          by_cases hij : i = j
          · refine Goes.step (fun _ k => XS.icmpNo X6.here hx rfl (hb hby at_128) rfl (teq hij).2 k) ?_
            show Goes p e below _ T6 (mkF m 131 #[.val (.int a), .val (.int b), .val (.int i0), .val (.int j0), .val (.int fl), .val (.double x3), .second, .val (.double q), .second, .val (.int i), .val (.int j), .val (.long k1), .second, .val (.long k2), .second, .val (.float u), .val (.float v), .val (.int bx), .unset] [])
            refine Goes.step (fun _ k => XS.iconst X6.here hx rfl (hb hby at_131) k) ?_
            show Goes p e below _ T6 (mkF m 132 #[.val (.int a), .val (.int b), .val (.int i0), .val (.int j0), .val (.int fl), .val (.double x3), .second, .val (.double q), .second, .val (.int i), .val (.int j), .val (.long k1), .second, .val (.long k2), .second, .val (.float u), .val (.float v), .val (.int bx), .unset] [(.int (1 : Int32))])
            refine Goes.step (fun _ k => XS.goto X6.here hx rfl (pc0 := 132) (pc' := 136) rfl (hb hby at_132) (by decide) (by decide) k) ?_
            show Goes p e below _ T6 (mkF m 136 #[.val (.int a), .val (.int b), .val (.int i0), .val (.int j0), .val (.int fl), .val (.double x3), .second, .val (.double q), .second, .val (.int i), .val (.int j), .val (.long k1), .second, .val (.long k2), .second, .val (.float u), .val (.float v), .val (.int bx), .unset] [(.int (1 : Int32))])
            refine Goes.step (fun _ k => XS.istore X6.here hx rfl (hb hby at_136) rfl (l' := #[.val (.int a), .val (.int b), .val (.int i0), .val (.int j0), .val (.int fl), .val (.double x3), .second, .val (.double q), .second, .val (.int i), .val (.int j), .val (.long k1), .second, .val (.long k2), .second, .val (.float u), .val (.float v), .val (.int bx), .val (.int (1 : Int32))]) rfl k) ?_
            show Goes p e below _ T6 (mkF m 138 #[.val (.int a), .val (.int b), .val (.int i0), .val (.int j0), .val (.int fl), .val (.double x3), .second, .val (.double q), .second, .val (.int i), .val (.int j), .val (.long k1), .second, .val (.long k2), .second, .val (.float u), .val (.float v), .val (.int bx), .val (.int (1 : Int32))] [])
            exact K138 _ _ x1 x0 (fun _ => rfl) (fun z => absurd (heq.mpr ⟨hz, hij⟩) z)
          · refine Goes.step (fun _ k => XS.icmpYes X6.here hx rfl (pc0 := 128) (pc' := 135) rfl (hb hby at_128) rfl (feq hij).2 (by decide) (by decide) k) ?_
            show Goes p e below _ T6 (mkF m 135 #[.val (.int a), .val (.int b), .val (.int i0), .val (.int j0), .val (.int fl), .val (.double x3), .second, .val (.double q), .second, .val (.int i), .val (.int j), .val (.long k1), .second, .val (.long k2), .second, .val (.float u), .val (.float v), .val (.int bx), .unset] [])
            refine Goes.step (fun _ k => XS.iconst X6.here hx rfl (hb hby at_135) k) ?_
            show Goes p e below _ T6 (mkF m 136 #[.val (.int a), .val (.int b), .val (.int i0), .val (.int j0), .val (.int fl), .val (.double x3), .second, .val (.double q), .second, .val (.int i), .val (.int j), .val (.long k1), .second, .val (.long k2), .second, .val (.float u), .val (.float v), .val (.int bx), .unset] [(.int (0 : Int32))])
            refine Goes.step (fun _ k => XS.istore X6.here hx rfl (hb hby at_136) rfl (l' := #[.val (.int a), .val (.int b), .val (.int i0), .val (.int j0), .val (.int fl), .val (.double x3), .second, .val (.double q), .second, .val (.int i), .val (.int j), .val (.long k1), .second, .val (.long k2), .second, .val (.float u), .val (.float v), .val (.int bx), .val (.int (0 : Int32))]) rfl k) ?_
            show Goes p e below _ T6 (mkF m 138 #[.val (.int a), .val (.int b), .val (.int i0), .val (.int j0), .val (.int fl), .val (.double x3), .second, .val (.double q), .second, .val (.int i), .val (.int j), .val (.long k1), .second, .val (.long k2), .second, .val (.float u), .val (.float v), .val (.int bx), .val (.int (0 : Int32))] [])
            exact K138 _ _ x1 x0 (fun z => absurd (heq.mp z).2 hij) (fun _ => rfl)
        · have n1 : ¬ (cmpValue (FP.fcmp u v) .l) = 0 := by
            rw [hc]
            by_cases h1 : (own_t u).toInt < (own_t v).toInt
            · rw [if_pos h1]; decide
            · rw [if_neg h1, if_neg hz]; decide
          refine Goes.step (fun _ k => XS.ifYes X6.here hx rfl (pc0 := 121) (pc' := 135) rfl (hb hby at_121) rfl ((if0 _ _).trans (feq n1).2) (by decide) (by decide) k) ?_
          show Goes p e below _ T6 (mkF m 135 #[.val (.int a), .val (.int b), .val (.int i0), .val (.int j0), .val (.int fl), .val (.double x3), .second, .val (.double q), .second, .val (.int i), .val (.int j), .val (.long k1), .second, .val (.long k2), .second, .val (.float u), .val (.float v), .val (.int bx), .unset] [])
          refine Goes.step (fun _ k => XS.iconst X6.here hx rfl (hb hby at_135) k) ?_
          show Goes p e below _ T6 (mkF m 136 #[.val (.int a), .val (.int b), .val (.int i0), .val (.int j0), .val (.int fl), .val (.double x3), .second, .val (.double q), .second, .val (.int i), .val (.int j), .val (.long k1), .second, .val (.long k2), .second, .val (.float u), .val (.float v), .val (.int bx), .unset] [(.int (0 : Int32))])
          refine Goes.step (fun _ k => XS.istore X6.here hx rfl (hb hby at_136) rfl (l' := #[.val (.int a), .val (.int b), .val (.int i0), .val (.int j0), .val (.int fl), .val (.double x3), .second, .val (.double q), .second, .val (.int i), .val (.int j), .val (.long k1), .second, .val (.long k2), .second, .val (.float u), .val (.float v), .val (.int bx), .val (.int (0 : Int32))]) rfl k) ?_
          show Goes p e below _ T6 (mkF m 138 #[.val (.int a), .val (.int b), .val (.int i0), .val (.int j0), .val (.int fl), .val (.double x3), .second, .val (.double q), .second, .val (.int i), .val (.int j), .val (.long k1), .second, .val (.long k2), .second, .val (.float u), .val (.float v), .val (.int bx), .val (.int (0 : Int32))] [])
          exact K138 _ _ x1 x0 (fun z => absurd (heq.mp z).1 hz) (fun _ => rfl)
      refine Goes.step (fun _ k => XS.fload X6.here hx rfl (hb hby at_86) rfl k) ?_
      show Goes p e below _ T6 (mkF m 88 #[.val (.int a), .val (.int b), .val (.int i0), .val (.int j0), .val (.int fl), .val (.double x3), .second, .val (.double q), .second, .val (.int i), .val (.int j), .val (.long k1), .second, .val (.long k2), .second, .val (.float u), .val (.float v), .unset, .unset] [(.float u)])
      refine Goes.step (fun _ k => XS.fload X6.here hx rfl (hb hby at_88) rfl k) ?_
      show Goes p e below _ T6 (mkF m 90 #[.val (.int a), .val (.int b), .val (.int i0), .val (.int j0), .val (.int fl), .val (.double x3), .second, .val (.double q), .second, .val (.int i), .val (.int j), .val (.long k1), .second, .val (.long k2), .second, .val (.float u), .val (.float v), .unset, .unset] [(.float v), (.float u)])
      refine Goes.step (fun _ k => XS.fcmpS X6.here hx rfl (hb hby at_90) rfl rfl k) ?_
      show Goes p e below _ T6 (mkF m 91 #[.val (.int a), .val (.int b), .val (.int i0), .val (.int j0), .val (.int fl), .val (.double x3), .second, .val (.double q), .second, .val (.int i), .val (.int j), .val (.long k1), .second, .val (.long k2), .second, .val (.float u), .val (.float v), .unset, .unset] [(.int (cmpValue (FP.fcmp u v) .l))])
      by_cases hg : (own_t u).toInt < (own_t v).toInt
      · have n1 : (0 : Int32) < (cmpValue (FP.fcmp u v) .l) := by rw [hc, if_pos hg]; decide
        refine Goes.step (fun _ k => XS.ifYes X6.here hx rfl (pc0 := 91) (pc' := 109) rfl (hb hby at_91) rfl ((if0 _ _).trans (tlt n1).2.2.1) (by decide) (by decide) k) ?_
        show Goes p e below _ T6 (mkF m 109 #[.val (.int a), .val (.int b), .val (.int i0), .val (.int j0), .val (.int fl), .val (.double x3), .second, .val (.double q), .second, .val (.int i), .val (.int j), .val (.long k1), .second, .val (.long k2), .second, .val (.float u), .val (.float v), .unset, .unset] [])
        refine Goes.step (fun _ k => XS.iconst X6.here hx rfl (hb hby at_109) k) ?_
        show Goes p e below _ T6 (mkF m 110 #[.val (.int a), .val (.int b), .val (.int i0), .val (.int j0), .val (.int fl), .val (.double x3), .second, .val (.double q), .second, .val (.int i), .val (.int j), .val (.long k1), .second, .val (.long k2), .second, .val (.float u), .val (.float v), .unset, .unset] [(.int (1 : Int32))])
        refine Goes.step (fun _ k => XS.goto X6.here hx rfl (pc0 := 110) (pc' := 114) rfl (hb hby at_110) (by decide) (by decide) k) ?_
        show Goes p e below _ T6 (mkF m 114 #[.val (.int a), .val (.int b), .val (.int i0), .val (.int j0), .val (.int fl), .val (.double x3), .second, .val (.double q), .second, .val (.int i), .val (.int j), .val (.long k1), .second, .val (.long k2), .second, .val (.float u), .val (.float v), .unset, .unset] [(.int (1 : Int32))])
        exact K114 _ (fun _ => rfl) (fun z => absurd (hless.mpr (Or.inl hg)) z)
      · have n1 : ¬ (0 : Int32) < (cmpValue (FP.fcmp u v) .l) := by
          rw [hc, if_neg hg]
          by_cases h1 : (own_t u).toInt = (own_t v).toInt
          · rw [if_pos h1]; decide
          · rw [if_neg h1]; decide
        refine Goes.step (fun _ k => XS.ifNo X6.here hx rfl (hb hby at_91) rfl ((if0 _ _).trans (flt n1).2.2.1) k) ?_
        show Goes p e below _ T6 (mkF m 94 #[.val (.int a), .val (.int b), .val (.int i0), .val (.int j0), .val (.int fl), .val (.double x3), .second, .val (.double q), .second, .val (.int i), .val (.int j), .val (.long k1), .second, .val (.long k2), .second, .val (.float u), .val (.float v), .unset, .unset] [])
        refine Goes.step (fun _ k => XS.fload X6.here hx rfl (hb hby at_94) rfl k) ?_
        show Goes p e below _ T6 (mkF m 96 #[.val (.int a), .val (.int b), .val (.int i0), .val (.int j0), .val (.int fl), .val (.double x3), .second, .val (.double q), .second, .val (.int i), .val (.int j), .val (.long k1), .second, .val (.long k2), .second, .val (.float u), .val (.float v), .unset, .unset] [(.float u)])
        refine Goes.step (fun _ k => XS.fload X6.here hx rfl (hb hby at_96) rfl k) ?_
        show Goes p e below _ T6 (mkF m 98 #[.val (.int a), .val (.int b), .val (.int i0), .val (.int j0), .val (.int fl), .val (.double x3), .second, .val (.double q), .second, .val (.int i), .val (.int j), .val (.long k1), .second, .val (.long k2), .second, .val (.float u), .val (.float v), .unset, .unset] [(.float v), (.float u)])
        refine Goes.step (fun _ k => XS.fcmpS X6.here hx rfl (hb hby at_98) rfl rfl k) ?_
        show Goes p e below _ T6 (mkF m 99 #[.val (.int a), .val (.int b), .val (.int i0), .val (.int j0), .val (.int fl), .val (.double x3), .second, .val (.double q), .second, .val (.int i), .val (.int j), .val (.long k1), .second, .val (.long k2), .second, .val (.float u), .val (.float v), .unset, .unset] [(.int (cmpValue (FP.fcmp u v) .l))])
        by_cases hz : (own_t u).toInt = (own_t v).toInt
        · have n2 : (cmpValue (FP.fcmp u v) .l) = 0 := by rw [hc, if_neg hg, if_pos hz]
          refine Goes.step (fun _ k => XS.ifNo X6.here hx rfl (hb hby at_99) rfl ((if0 _ _).trans (teq n2).2) k) ?_
          show Goes p e below _ T6 (mkF m 102 #[.val (.int a), .val (.int b), .val (.int i0), .val (.int j0), .val (.int fl), .val (.double x3), .second, .val (.double q), .second, .val (.int i), .val (.int j), .val (.long k1), .second, .val (.long k2), .second, .val (.float u), .val (.float v), .unset, .unset] [])
          refine Goes.step (fun _ k => XS.iload X6.here hx rfl (hb hby at_102) rfl k) ?_
          show Goes p e below _ T6 (mkF m 104 #[.val (.int a), .val (.int b), .val (.int i0), .val (.int j0), .val (.int fl), .val (.double x3), .second, .val (.double q), .second, .val (.int i), .val (.int j), .val (.long k1), .second, .val (.long k2), .second, .val (.float u), .val (.float v), .unset, .unset] [(.int i)])
          refine Goes.step (fun _ k => XS.iload X6.here hx rfl (hb hby at_104) rfl k) ?_
          show Goes p e below _ T6 (mkF m 106 #[.val (.int a), .val (.int b), .val (.int i0), .val (.int j0), .val (.int fl), .val (.double x3), .second, .val (.double q), .second, .val (.int i), .val (.int j), .val (.long k1), .second, .val (.long k2), .second, .val (.float u), .val (.float v), .unset, .unset] [(.int j), (.int i)])
          by_cases hij : i < j
          · refine Goes.step (fun _ k => XS.icmpNo X6.here hx rfl (hb hby at_106) rfl (tlt hij).2.1 k) ?_
            show Goes p e below _ T6 (mkF m 109 #[.val (.int a), .val (.int b), .val (.int i0), .val (.int j0), .val (.int fl), .val (.double x3), .second, .val (.double q), .second, .val (.int i), .val (.int j), .val (.long k1), .second, .val (.long k2), .second, .val (.float u), .val (.float v), .unset, .unset] [])
            refine Goes.step (fun _ k => XS.iconst X6.here hx rfl (hb hby at_109) k) ?_
            show Goes p e below _ T6 (mkF m 110 #[.val (.int a), .val (.int b), .val (.int i0), .val (.int j0), .val (.int fl), .val (.double x3), .second, .val (.double q), .second, .val (.int i), .val (.int j), .val (.long k1), .second, .val (.long k2), .second, .val (.float u), .val (.float v), .unset, .unset] [(.int (1 : Int32))])
            refine Goes.step (fun _ k => XS.goto X6.here hx rfl (pc0 := 110) (pc' := 114) rfl (hb hby at_110) (by decide) (by decide) k) ?_
            show Goes p e below _ T6 (mkF m 114 #[.val (.int a), .val (.int b), .val (.int i0), .val (.int j0), .val (.int fl), .val (.double x3), .second, .val (.double q), .second, .val (.int i), .val (.int j), .val (.long k1), .second, .val (.long k2), .second, .val (.float u), .val (.float v), .unset, .unset] [(.int (1 : Int32))])
            exact K114 _ (fun _ => rfl) (fun z => absurd (hless.mpr (Or.inr ⟨hz, hij⟩)) z)
          · refine Goes.step (fun _ k => XS.icmpYes X6.here hx rfl (pc0 := 106) (pc' := 113) rfl (hb hby at_106) rfl (flt hij).2.1 (by decide) (by decide) k) ?_
            show Goes p e below _ T6 (mkF m 113 #[.val (.int a), .val (.int b), .val (.int i0), .val (.int j0), .val (.int fl), .val (.double x3), .second, .val (.double q), .second, .val (.int i), .val (.int j), .val (.long k1), .second, .val (.long k2), .second, .val (.float u), .val (.float v), .unset, .unset] [])
            refine Goes.step (fun _ k => XS.iconst X6.here hx rfl (hb hby at_113) k) ?_
            show Goes p e below _ T6 (mkF m 114 #[.val (.int a), .val (.int b), .val (.int i0), .val (.int j0), .val (.int fl), .val (.double x3), .second, .val (.double q), .second, .val (.int i), .val (.int j), .val (.long k1), .second, .val (.long k2), .second, .val (.float u), .val (.float v), .unset, .unset] [(.int (0 : Int32))])
            exact K114 _ (fun z => absurd (hless.mp z) (by rintro (q1 | q1); exact hg q1; exact hij q1.2)) (fun _ => rfl)
        · have n2 : ¬ (cmpValue (FP.fcmp u v) .l) = 0 := by rw [hc, if_neg hg, if_neg hz]; decide
          refine Goes.step (fun _ k => XS.ifYes X6.here hx rfl (pc0 := 99) (pc' := 113) rfl (hb hby at_99) rfl ((if0 _ _).trans (feq n2).2) (by decide) (by decide) k) ?_
          show Goes p e below _ T6 (mkF m 113 #[.val (.int a), .val (.int b), .val (.int i0), .val (.int j0), .val (.int fl), .val (.double x3), .second, .val (.double q), .second, .val (.int i), .val (.int j), .val (.long k1), .second, .val (.long k2), .second, .val (.float u), .val (.float v), .unset, .unset] [])
          refine Goes.step (fun _ k => XS.iconst X6.here hx rfl (hb hby at_113) k) ?_
          show Goes p e below _ T6 (mkF m 114 #[.val (.int a), .val (.int b), .val (.int i0), .val (.int j0), .val (.int fl), .val (.double x3), .second, .val (.double q), .second, .val (.int i), .val (.int j), .val (.long k1), .second, .val (.long k2), .second, .val (.float u), .val (.float v), .unset, .unset] [(.int (0 : Int32))])
          exact K114 _ (fun z => absurd (hless.mp z) (by rintro (q1 | q1); exact hg q1; exact hz q1.1)) (fun _ => rfl)
    by_cases h5 : (fl &&& (32 : Int32)) = (0 : Int32)
    · refine Goes.step (fun _ k => XS.ifYes X4.here hx rfl (pc0 := 51) (pc' := 58) rfl (hb hby at_51) rfl ((if0 _ _).trans (teq h5).1) (by decide) (by decide) k) ?_
      show Goes p e below _ T4 (mkF m 58 #[.val (.int a), .val (.int b), .val (.int i0), .val (.int j0), .val (.int fl), .val (.double x3), .second, .val (.double q), .second, .val (.int (i0 &&& (2147483647 : Int32))), .val (.int (j0 &&& (2147483647 : Int32))), .unset, .unset, .unset, .unset, .unset, .unset, .unset, .unset] [])
      exact K58 _ (c_and j0 2147483647 (by decide)).1
    · refine Goes.step (fun _ k => XS.ifNo X4.here hx rfl (hb hby at_51) rfl ((if0 _ _).trans (feq h5).1) k) ?_
      show Goes p e below _ T4 (mkF m 54 #[.val (.int a), .val (.int b), .val (.int i0), .val (.int j0), .val (.int fl), .val (.double x3), .second, .val (.double q), .second, .val (.int (i0 &&& (2147483647 : Int32))), .val (.int (j0 &&& (2147483647 : Int32))), .unset, .unset, .unset, .unset, .unset, .unset, .unset, .unset] [])
      refine Goes.step (fun _ k => XS.iload X4.here hx rfl (hb hby at_54) rfl k) ?_
      show Goes p e below _ T4 (mkF m 56 #[.val (.int a), .val (.int b), .val (.int i0), .val (.int j0), .val (.int fl), .val (.double x3), .second, .val (.double q), .second, .val (.int (i0 &&& (2147483647 : Int32))), .val (.int (j0 &&& (2147483647 : Int32))), .unset, .unset, .unset, .unset, .unset, .unset, .unset, .unset] [(.int (i0 &&& (2147483647 : Int32)))])
      refine Goes.step (fun _ k => XS.istore X4.here hx rfl (hb hby at_56) rfl (l' := #[.val (.int a), .val (.int b), .val (.int i0), .val (.int j0), .val (.int fl), .val (.double x3), .second, .val (.double q), .second, .val (.int (i0 &&& (2147483647 : Int32))), .val (.int (i0 &&& (2147483647 : Int32))), .unset, .unset, .unset, .unset, .unset, .unset, .unset, .unset]) rfl k) ?_
      show Goes p e below _ T4 (mkF m 58 #[.val (.int a), .val (.int b), .val (.int i0), .val (.int j0), .val (.int fl), .val (.double x3), .second, .val (.double q), .second, .val (.int (i0 &&& (2147483647 : Int32))), .val (.int (i0 &&& (2147483647 : Int32))), .unset, .unset, .unset, .unset, .unset, .unset, .unset, .unset] [])
      exact K58 _ (c_and i0 2147483647 (by decide)).1
  by_cases h4 : (fl &&& (16 : Int32)) = (0 : Int32)
  · refine Goes.step (fun _ k => XS.ifYes X4.here hx rfl (pc0 := 27) (pc' := 34) rfl (hb hby at_27) rfl ((if0 _ _).trans (teq h4).1) (by decide) (by decide) k) ?_
    show Goes p e below _ T4 (mkF m 34 #[.val (.int a), .val (.int b), .val (.int i0), .val (.int j0), .val (.int fl), .val (.double x3), .second, .val (.double x4), .second, .unset, .unset, .unset, .unset, .unset, .unset, .unset, .unset, .unset, .unset] [])
    exact K34 _ ok4
  · refine Goes.step (fun _ k => XS.ifNo X4.here hx rfl (hb hby at_27) rfl ((if0 _ _).trans (feq h4).1) k) ?_
    show Goes p e below _ T4 (mkF m 30 #[.val (.int a), .val (.int b), .val (.int i0), .val (.int j0), .val (.int fl), .val (.double x3), .second, .val (.double x4), .second, .unset, .unset, .unset, .unset, .unset, .unset, .unset, .unset, .unset, .unset] [])
    refine Goes.step (fun _ k => XS.dload X4.here hx rfl (hb hby at_30) rfl k) ?_
    show Goes p e below _ T4 (mkF m 32 #[.val (.int a), .val (.int b), .val (.int i0), .val (.int j0), .val (.int fl), .val (.double x3), .second, .val (.double x4), .second, .unset, .unset, .unset, .unset, .unset, .unset, .unset, .unset, .unset, .unset] [(.double x3)])
    refine Goes.step (fun _ k => XS.dstore X4.here hx rfl (hb hby at_32) rfl (l' := #[.val (.int a), .val (.int b), .val (.int i0), .val (.int j0), .val (.int fl), .val (.double x3), .second, .val (.double x3), .second, .unset, .unset, .unset, .unset, .unset, .unset, .unset, .unset, .unset, .unset]) rfl k) ?_
    show Goes p e below _ T4 (mkF m 34 #[.val (.int a), .val (.int b), .val (.int i0), .val (.int j0), .val (.int fl), .val (.double x3), .second, .val (.double x3), .second, .unset, .unset, .unset, .unset, .unset, .unset, .unset, .unset, .unset, .unset] [])
    exact K34 _ ok3
set_option maxRecDepth 65536 in
set_option maxHeartbeats 40000000 in
theorem comes_1 {Post : Tables → Env → Array Value → State → Outcome → State → Prop} (hpost : ∀ tb e args s v u, (limb_1_1.after args s (.returned v) u = true ∧ limb_1_2.after args s (.returned v) u = true ∧ True) → FrameEnd s (.returned v) u (Jvm.fieldLocs frame_1_writes args s ++ Jvm.arrayLocs frame_1_arrays args s ++ Jvm.staticLocs frame_1_statics s) 0 0 → Post tb e args s (.returned v) u) :
    ArmFor flags0 classFile x code maxLocals ret World_1 tables_1 room_1 Calls_1 rest_1 Pre_1 Post := by
  intro l hfl _ _ p e ha hc hk s m args below hf hA hF happ hP
  obtain ⟨hcalls, hrest, hpre⟩ := hP
  obtain ⟨-, -, -, hnamed, -, -, -, hat⟩ := (Spec.applies_iff hf).mp happ
  obtain ⟨hg, hn⟩ := and_e (Cond.before_iff.mp (show (Jvm.Cond.and given_1 narrow_1).before args s = true from hpre))
  obtain ⟨g1, g2⟩ := and_e hg
  obtain ⟨g3, g4⟩ := and_e g2
  obtain ⟨g5, g6⟩ := and_e g4
  obtain ⟨g7, g8⟩ := and_e g6
  obtain ⟨g9, g10⟩ := and_e g8
  obtain ⟨w0, w1, w2, w3, w4, rfl⟩ : ∃ w0 w1 w2 w3 w4 : Value, args = #[w0, w1, w2, w3, w4] := by
    have hs : args.size = 5 := by simpa [Cond.value, given_1] using g1
    obtain ⟨L⟩ := args
    match L, hs with
    | [w0, w1, w2, w3, w4], _ => exact ⟨w0, w1, w2, w3, w4, rfl⟩
  have hw := fun d (hd : d ∈ tables_1) => atoms_spec (ws := Jvm.Cond.code x code maxLocals ret :: tables_1) hat d (List.mem_cons_of_mem _ hd)
  obtain ⟨i0, ei0⟩ := is_v g3
  obtain rfl : w0 = (.int i0) := Option.some.inj ei0
  obtain ⟨i1, ei1⟩ := is_v g5
  obtain rfl : w1 = (.int i1) := Option.some.inj ei1
  obtain ⟨i2, ei2⟩ := is_v g7
  obtain rfl : w2 = (.int i2) := Option.some.inj ei2
  obtain ⟨i3, ei3⟩ := is_v g9
  obtain rfl : w3 = (.int i3) := Option.some.inj ei3
  obtain ⟨i4, ei4⟩ := is_v g10
  obtain rfl : w4 = (.int i4) := Option.some.inj ei4
  obtain ⟨n, o, h1, h2, h3, _, L, rfl, ⟨rfl, N⟩, hq⟩ := rm_law l s _ hw tables_1 i0 i1 i2 i3 i4 s.heap p e ha hc hk s m _ below hf ((Spec.applies_iff_loose hf).mp happ).1 ⟨rfl, State.Warmed39.refl s, rfl⟩ trivial
  refine ⟨n, _, h1, h2, h3, hpost _ _ _ _ _ _ ⟨Cond.after_iff.mpr rfl, Cond.after_iff.mpr (eq_i res_at (Term.int_eval (1)) rfl), trivial⟩ ⟨hq.1, hq.2.1, (hq.2.2.sift fun y hy => Or.inr (N y hy)).mono (by decide) (by decide)⟩⟩
theorem main_1_1 : Claimed_1_1 := comes_1 fun _ _ _ _ _ _ h hF => ⟨h.1, hF⟩
theorem main_1_2 : Claimed_1_2 := comes_1 fun _ _ _ _ _ _ h hF => ⟨h.2.1, hF⟩
end Jvm.Pilot.@@N@@
namespace Jvm.Pilot.@@N@@
open Jvm Jvm.ClassFile Sem Op Lib Jvm.Free Jvm.Stand Jvm.Pilot.@@N@@.Jvm.D
/-! MADE BY PROGRAM (witnessworld.py) out of the Statement's table words and the real class files: 14 classes; the members and pool entries that the words name. The judged class is class 1, her method 2. -/
namespace start1
open Jvm.ClassFile
def u (s : String) : CpInfo := .utf8 (stringToUtf16 s)
/-- a pool by its gaps: so many unusable entries, then the entry; so many at the end -/
def gap : Nat → List CpInfo → List CpInfo
  | 0, r => r
  | n + 1, r => .unusable :: gap n r
def poolList (es : List (Nat × CpInfo)) (last : Nat) : List CpInfo := es.foldr (fun e r => gap e.1 (e.2 :: r)) (gap last [])
def pool (es : List (Nat × CpInfo)) (last : Nat) : Array CpInfo := ⟨poolList es last⟩
def fileOf (pool : Array CpInfo) (this : Nat) (attrs : Array Attribute := #[]) (ms : Array MethodInfo := #[]) (fl : Nat := 33) (sup : Nat := 0) (ifs : Array Nat := #[]) (fds : Array FieldInfo := #[]) : ClassFile where
  minorVersion := 0
  majorVersion := 65
  constantPool := pool
  accessFlags := fl
  thisClass := this
  superClass := sup
  interfaces := ifs
  fields := fds
  methods := ms
  attributes := attrs
def plain (name : String) (sup : Option ClassId) : Class where
  name := name
  kind := .ordinary
  loader := none
  accessFlags := 33
  super := sup
  interfaces := #[]
  cf := none
  fields := #[]
  methods := #[]
  instanceTypes := #[]
  staticTypes := #[]
  resolved := #[]
  callSites := []
  init := .initialized
  statics := none
  mirror := none

def pool0 : Array CpInfo := pool [(5, u "<init>"), (0, u "()V"), (1, .class_ 10), (1, u "java/lang/Object")] 113

def k0m0 : Method := { name := "<init>", desc := "()V", sig := { parameters := [], returnType := none }, accessFlags := 1, code := none }
/-- java/lang/Object -/
def k0 : Class := { plain "java/lang/Object" none with
  accessFlags := 33
  interfaces := #[]
  cf := some (fileOf pool0 8 #[] #[{ accessFlags := 1, nameIndex := 5, descriptorIndex := 6, attributes := #[] }] 33 0 #[] #[])
  fields := #[]
  methods := #[k0m0]
  instanceTypes := #[]
  staticTypes := #[]
  resolved := Array.replicate 124 none
  statics := none }

def pool1 : Array CpInfo := pool [(2, .class_ 4), (1, u "java/lang/Object"), (0, u "<init>"), (0, u "()V"), (0, .double 5057542381537067008), (1, .double 3976678470968147968), (1, .double 4336966441157787648), (1, .methodref 14 15), (0, .class_ 16), (0, .nameAndType 17 18), (0, u "com/example/slackline/slackline/search/LocalSearchKeyPinLaw"), (0, u "scale"), (0, u "(II)D"), (0, .integer 2147483647), (0, .methodref 21 22), (0, .class_ 23), (0, .nameAndType 24 25), (0, u "com/example/slackline/slackline/search/LocalSearch"), (0, u "key"), (0, u "(DI)J"), (3, u "law"), (0, u "(IIIII)Z")] 2

def k1m0 : Method := { name := "<init>", desc := "()V", sig := { parameters := [], returnType := none }, accessFlags := 2, code := none }
def k1c1 : Code := { maxStack := 4, maxLocals := 2, code := method_2_code, exceptionTable := #[], attributes := #[] }
def k1m1 : Method := { name := "scale", desc := "(II)D", sig := { parameters := [.int, .int], returnType := some .double }, accessFlags := 10, code := some k1c1 }
def k1c2 : Code := { maxStack := 4, maxLocals := 19, code := code, exceptionTable := #[], attributes := #[] }
def k1m2 : Method := { name := "law", desc := "(IIIII)Z", sig := { parameters := [.int, .int, .int, .int, .int], returnType := some .boolean }, accessFlags := 9, code := some k1c2 }
/-- com/example/slackline/slackline/search/LocalSearchKeyPinLaw -/
def k1 : Class := { plain "com/example/slackline/slackline/search/LocalSearchKeyPinLaw" (some 0) with
  accessFlags := 49
  interfaces := #[]
  cf := some (fileOf pool1 14 #[] #[{ accessFlags := 2, nameIndex := 5, descriptorIndex := 6, attributes := #[] }, { accessFlags := 10, nameIndex := 17, descriptorIndex := 18, attributes := #[] }, { accessFlags := 9, nameIndex := 29, descriptorIndex := 30, attributes := #[] }] 49 2 #[] #[])
  fields := #[]
  methods := #[k1m0, k1m1, k1m2]
  instanceTypes := #[]
  staticTypes := #[]
  resolved := Array.replicate 33 none
  statics := none }

def pool2 : Array CpInfo := pool [(2, .class_ 4), (1, u "java/lang/Object"), (3, .class_ 10), (1, u "com/example/slackline/slackline/search/LocalSearch"), (0, u "tasks"), (0, u "Ljava/util/List;"), (13, u "headroom"), (0, u "Lcom/example/slackline/slackline/instance/Headroom;"), (2, u "profit"), (0, u "[J"), (2, u "priority"), (0, u "[D"), (22, u "cover"), (0, u "Lcom/example/slackline/slackline/search/Cover;"), (2, u "over"), (0, u "[I"), (5, u "startsAt"), (6, u "byStart"), (8, u "chosen"), (0, u "[Z"), (2, u "gathered"), (2, u "candidates"), (2, u "keys"), (2, u "out"), (2, u "in"), (79, .class_ 183), (1, u "com/example/slackline/slackline/search/LocalSearch$Plan"), (6, u "work"), (0, u "J"), (106, u "outCount"), (0, u "I"), (2, u "inCount"), (2, u "candidateCount"), (58, u "key"), (0, u "(DI)J"), (4, .methodref 371 372), (0, .class_ 373), (0, .nameAndType 374 375), (0, u "java/lang/Float"), (0, u "floatToIntBits"), (0, u "(F)I"), (0, .integer 2147483647), (4, u "REACH"), (2, u "FEW"), (1, u "NEAREST"), (0, u "D"), (2, u "MAKE_ROOM"), (0, u "WARM"), (0, u "COOLING"), (0, u "WORK_PER_TASK_SEGMENT"), (0, u "LEAST_WORK"), (0, u "MOST_WORK"), (0, u "LAYS"), (0, u "MOST_POLISH_WORK")] 34

def k2c0 : Code := { maxStack := 4, maxLocals := 4, code := prog_31_method_16_code, exceptionTable := #[], attributes := #[] }
def k2m0 : Method := { name := "key", desc := "(DI)J", sig := { parameters := [.double, .int], returnType := some .long }, accessFlags := 8, code := some k2c0 }
/-- com/example/slackline/slackline/search/LocalSearch -/
def k2 : Class := { plain "com/example/slackline/slackline/search/LocalSearch" (some 0) with
  accessFlags := 49
  interfaces := #[]
  cf := some (fileOf pool2 8 #[.nestMembers #[181]] #[{ accessFlags := 8, nameIndex := 364, descriptorIndex := 365, attributes := #[] }] 49 2 #[] #[{ accessFlags := 26, nameIndex := 381, descriptorIndex := 299, attributes := #[] }, { accessFlags := 26, nameIndex := 384, descriptorIndex := 299, attributes := #[] }, { accessFlags := 26, nameIndex := 386, descriptorIndex := 387, attributes := #[] }, { accessFlags := 26, nameIndex := 390, descriptorIndex := 387, attributes := #[] }, { accessFlags := 26, nameIndex := 391, descriptorIndex := 387, attributes := #[] }, { accessFlags := 26, nameIndex := 392, descriptorIndex := 387, attributes := #[] }, { accessFlags := 26, nameIndex := 393, descriptorIndex := 191, attributes := #[] }, { accessFlags := 26, nameIndex := 394, descriptorIndex := 191, attributes := #[] }, { accessFlags := 26, nameIndex := 395, descriptorIndex := 191, attributes := #[] }, { accessFlags := 26, nameIndex := 396, descriptorIndex := 299, attributes := #[] }, { accessFlags := 26, nameIndex := 397, descriptorIndex := 191, attributes := #[] }, { accessFlags := 18, nameIndex := 11, descriptorIndex := 12, attributes := #[] }, { accessFlags := 18, nameIndex := 26, descriptorIndex := 27, attributes := #[] }, { accessFlags := 18, nameIndex := 30, descriptorIndex := 31, attributes := #[] }, { accessFlags := 18, nameIndex := 34, descriptorIndex := 35, attributes := #[] }, { accessFlags := 2, nameIndex := 190, descriptorIndex := 191, attributes := #[] }, { accessFlags := 18, nameIndex := 58, descriptorIndex := 59, attributes := #[] }, { accessFlags := 18, nameIndex := 62, descriptorIndex := 63, attributes := #[] }, { accessFlags := 18, nameIndex := 76, descriptorIndex := 63, attributes := #[] }, { accessFlags := 18, nameIndex := 69, descriptorIndex := 63, attributes := #[] }, { accessFlags := 18, nameIndex := 85, descriptorIndex := 86, attributes := #[] }, { accessFlags := 18, nameIndex := 89, descriptorIndex := 86, attributes := #[] }, { accessFlags := 18, nameIndex := 92, descriptorIndex := 63, attributes := #[] }, { accessFlags := 18, nameIndex := 95, descriptorIndex := 31, attributes := #[] }, { accessFlags := 18, nameIndex := 98, descriptorIndex := 63, attributes := #[] }, { accessFlags := 18, nameIndex := 101, descriptorIndex := 63, attributes := #[] }, { accessFlags := 2, nameIndex := 298, descriptorIndex := 299, attributes := #[] }, { accessFlags := 2, nameIndex := 302, descriptorIndex := 299, attributes := #[] }, { accessFlags := 2, nameIndex := 305, descriptorIndex := 299, attributes := #[] }])
  fields := #[{ name := "REACH", type := .int, accessFlags := 26, slot := 0, constantValue := 0 }, { name := "FEW", type := .int, accessFlags := 26, slot := 1, constantValue := 0 }, { name := "NEAREST", type := .double, accessFlags := 26, slot := 2, constantValue := 0 }, { name := "MAKE_ROOM", type := .double, accessFlags := 26, slot := 3, constantValue := 0 }, { name := "WARM", type := .double, accessFlags := 26, slot := 4, constantValue := 0 }, { name := "COOLING", type := .double, accessFlags := 26, slot := 5, constantValue := 0 }, { name := "WORK_PER_TASK_SEGMENT", type := .long, accessFlags := 26, slot := 6, constantValue := 0 }, { name := "LEAST_WORK", type := .long, accessFlags := 26, slot := 7, constantValue := 0 }, { name := "MOST_WORK", type := .long, accessFlags := 26, slot := 8, constantValue := 0 }, { name := "LAYS", type := .int, accessFlags := 26, slot := 9, constantValue := 0 }, { name := "MOST_POLISH_WORK", type := .long, accessFlags := 26, slot := 10, constantValue := 0 }, { name := "tasks", type := (.object "java/util/List"), accessFlags := 18, slot := 0, constantValue := 0 }, { name := "headroom", type := (.object "com/example/slackline/slackline/instance/Headroom"), accessFlags := 18, slot := 1, constantValue := 0 }, { name := "profit", type := (.array .long), accessFlags := 18, slot := 2, constantValue := 0 }, { name := "priority", type := (.array .double), accessFlags := 18, slot := 3, constantValue := 0 }, { name := "work", type := .long, accessFlags := 2, slot := 4, constantValue := 0 }, { name := "cover", type := (.object "com/example/slackline/slackline/search/Cover"), accessFlags := 18, slot := 5, constantValue := 0 }, { name := "over", type := (.array .int), accessFlags := 18, slot := 6, constantValue := 0 }, { name := "byStart", type := (.array .int), accessFlags := 18, slot := 7, constantValue := 0 }, { name := "startsAt", type := (.array .int), accessFlags := 18, slot := 8, constantValue := 0 }, { name := "chosen", type := (.array .boolean), accessFlags := 18, slot := 9, constantValue := 0 }, { name := "gathered", type := (.array .boolean), accessFlags := 18, slot := 10, constantValue := 0 }, { name := "candidates", type := (.array .int), accessFlags := 18, slot := 11, constantValue := 0 }, { name := "keys", type := (.array .long), accessFlags := 18, slot := 12, constantValue := 0 }, { name := "out", type := (.array .int), accessFlags := 18, slot := 13, constantValue := 0 }, { name := "in", type := (.array .int), accessFlags := 18, slot := 14, constantValue := 0 }, { name := "outCount", type := .int, accessFlags := 2, slot := 15, constantValue := 0 }, { name := "inCount", type := .int, accessFlags := 2, slot := 16, constantValue := 0 }, { name := "candidateCount", type := .int, accessFlags := 2, slot := 17, constantValue := 0 }]
  methods := #[k2m0]
  instanceTypes := #[(.object "java/util/List"), (.object "com/example/slackline/slackline/instance/Headroom"), (.array .long), (.array .double), .long, (.object "com/example/slackline/slackline/search/Cover"), (.array .int), (.array .int), (.array .int), (.array .boolean), (.array .boolean), (.array .int), (.array .long), (.array .int), (.array .int), .int, .int, .int]
  staticTypes := #[.int, .int, .double, .double, .double, .double, .long, .long, .long, .int, .long]
  resolved := Array.replicate 432 none
  statics := none }

def pool3 : Array CpInfo := pool [(1, .class_ 2), (0, u "java/io/Serializable"), (0, .class_ 4), (0, u "java/lang/Object")] 2

/-- java/io/Serializable -/
def k3 : Class := { plain "java/io/Serializable" (some 0) with
  accessFlags := 1537
  interfaces := #[]
  cf := some (fileOf pool3 1 #[] #[] 1537 3 #[] #[])
  fields := #[]
  methods := #[]
  instanceTypes := #[]
  staticTypes := #[]
  resolved := Array.replicate 7 none
  statics := none }

def pool4 : Array CpInfo := pool [(2, .class_ 4), (1, u "java/lang/Object"), (0, u "<init>"), (0, u "()V"), (1, .class_ 10), (1, u "java/lang/Number"), (2, .class_ 14), (0, u "java/io/Serializable"), (0, u "serialVersionUID"), (0, u "J")] 20

def k4m0 : Method := { name := "<init>", desc := "()V", sig := { parameters := [], returnType := none }, accessFlags := 1, code := none }
/-- java/lang/Number -/
def k4 : Class := { plain "java/lang/Number" (some 0) with
  accessFlags := 1057
  interfaces := #[3]
  cf := some (fileOf pool4 8 #[] #[{ accessFlags := 1, nameIndex := 5, descriptorIndex := 6, attributes := #[] }] 1057 2 #[13] #[{ accessFlags := 26, nameIndex := 15, descriptorIndex := 16, attributes := #[] }])
  fields := #[{ name := "serialVersionUID", type := .long, accessFlags := 26, slot := 0, constantValue := 0 }]
  methods := #[k4m0]
  instanceTypes := #[]
  staticTypes := #[.long]
  resolved := Array.replicate 37 none
  statics := none }

def pool5 : Array CpInfo := pool [(1, .class_ 2), (0, u "java/lang/Comparable"), (0, .class_ 4), (0, u "java/lang/Object")] 7

/-- java/lang/Comparable -/
def k5 : Class := { plain "java/lang/Comparable" (some 0) with
  accessFlags := 1537
  interfaces := #[]
  cf := some (fileOf pool5 1 #[] #[] 1537 3 #[] #[])
  fields := #[]
  methods := #[]
  instanceTypes := #[]
  staticTypes := #[]
  resolved := Array.replicate 12 none
  statics := none }

def pool6 : Array CpInfo := pool [(1, .class_ 2), (0, u "java/lang/constant/Constable"), (0, .class_ 4), (0, u "java/lang/Object")] 6

/-- java/lang/constant/Constable -/
def k6 : Class := { plain "java/lang/constant/Constable" (some 0) with
  accessFlags := 1537
  interfaces := #[]
  cf := some (fileOf pool6 1 #[] #[] 1537 3 #[] #[])
  fields := #[]
  methods := #[]
  instanceTypes := #[]
  staticTypes := #[]
  resolved := Array.replicate 11 none
  statics := none }

def pool7 : Array CpInfo := pool [(1, .class_ 2), (0, u "java/lang/constant/ConstantDesc"), (0, .class_ 4), (0, u "java/lang/Object")] 32

/-- java/lang/constant/ConstantDesc -/
def k7 : Class := { plain "java/lang/constant/ConstantDesc" (some 0) with
  accessFlags := 1537
  interfaces := #[]
  cf := some (fileOf pool7 1 #[] #[] 1537 3 #[] #[])
  fields := #[]
  methods := #[]
  instanceTypes := #[]
  staticTypes := #[]
  resolved := Array.replicate 37 none
  statics := none }

def pool8 : Array CpInfo := pool [(1, .class_ 2), (0, u "java/lang/Float"), (48, .class_ 53), (1, u "java/lang/Number"), (3, u "value"), (0, u "F"), (0, .methodref 1 60), (0, .nameAndType 61 62), (0, u "isNaN"), (0, u "(F)Z"), (7, u "(F)I"), (2, u "floatToIntBits"), (0, .methodref 1 75), (0, .nameAndType 76 70), (0, u "floatToRawIntBits"), (14, u "$assertionsDisabled"), (0, u "Z"), (52, u "TYPE"), (0, u "Ljava/lang/Class;"), (0, .class_ 148), (0, u "java/lang/Comparable"), (0, .class_ 150), (0, u "java/lang/constant/Constable"), (0, .class_ 152), (0, u "java/lang/constant/ConstantDesc"), (0, u "POSITIVE_INFINITY"), (1, u "NEGATIVE_INFINITY"), (1, u "NaN"), (1, u "MAX_VALUE"), (0, u "MIN_NORMAL"), (0, u "MIN_VALUE"), (1, u "SIZE"), (0, u "I"), (1, u "PRECISION"), (1, u "MAX_EXPONENT"), (1, u "MIN_EXPONENT"), (1, u "BYTES"), (3, u "serialVersionUID"), (0, u "J")] 101

def k8c0 : Code := { maxStack := 2, maxLocals := 1, code := jdk_118_method_6_code, exceptionTable := #[], attributes := #[] }
def k8m0 : Method := { name := "isNaN", desc := "(F)Z", sig := { parameters := [.float], returnType := some .boolean }, accessFlags := 9, code := some k8c0 }
def k8c1 : Code := { maxStack := 1, maxLocals := 1, code := jdk_118_method_24_code, exceptionTable := #[], attributes := #[] }
def k8m1 : Method := { name := "floatToIntBits", desc := "(F)I", sig := { parameters := [.float], returnType := some .int }, accessFlags := 9, code := some k8c1 }
def k8m2 : Method := { name := "floatToRawIntBits", desc := "(F)I", sig := { parameters := [.float], returnType := some .int }, accessFlags := 265, code := none }
/-- java/lang/Float -/
def k8 : Class := { plain "java/lang/Float" (some 4) with
  accessFlags := 49
  interfaces := #[5, 6, 7]
  cf := some (fileOf pool8 1 #[] #[{ accessFlags := 9, nameIndex := 61, descriptorIndex := 62, attributes := #[] }, { accessFlags := 9, nameIndex := 73, descriptorIndex := 70, attributes := #[] }, { accessFlags := 265, nameIndex := 76, descriptorIndex := 70, attributes := #[] }] 49 51 #[147, 149, 151] #[{ accessFlags := 25, nameIndex := 153, descriptorIndex := 58, attributes := #[] }, { accessFlags := 25, nameIndex := 155, descriptorIndex := 58, attributes := #[] }, { accessFlags := 25, nameIndex := 157, descriptorIndex := 58, attributes := #[] }, { accessFlags := 25, nameIndex := 159, descriptorIndex := 58, attributes := #[] }, { accessFlags := 25, nameIndex := 160, descriptorIndex := 58, attributes := #[] }, { accessFlags := 25, nameIndex := 161, descriptorIndex := 58, attributes := #[] }, { accessFlags := 25, nameIndex := 163, descriptorIndex := 164, attributes := #[] }, { accessFlags := 25, nameIndex := 166, descriptorIndex := 164, attributes := #[] }, { accessFlags := 25, nameIndex := 168, descriptorIndex := 164, attributes := #[] }, { accessFlags := 25, nameIndex := 170, descriptorIndex := 164, attributes := #[] }, { accessFlags := 25, nameIndex := 172, descriptorIndex := 164, attributes := #[] }, { accessFlags := 25, nameIndex := 145, descriptorIndex := 146, attributes := #[] }, { accessFlags := 18, nameIndex := 57, descriptorIndex := 58, attributes := #[] }, { accessFlags := 26, nameIndex := 176, descriptorIndex := 177, attributes := #[] }, { accessFlags := 4120, nameIndex := 91, descriptorIndex := 92, attributes := #[] }])
  fields := #[{ name := "POSITIVE_INFINITY", type := .float, accessFlags := 25, slot := 0, constantValue := 0 }, { name := "NEGATIVE_INFINITY", type := .float, accessFlags := 25, slot := 1, constantValue := 0 }, { name := "NaN", type := .float, accessFlags := 25, slot := 2, constantValue := 0 }, { name := "MAX_VALUE", type := .float, accessFlags := 25, slot := 3, constantValue := 0 }, { name := "MIN_NORMAL", type := .float, accessFlags := 25, slot := 4, constantValue := 0 }, { name := "MIN_VALUE", type := .float, accessFlags := 25, slot := 5, constantValue := 0 }, { name := "SIZE", type := .int, accessFlags := 25, slot := 6, constantValue := 0 }, { name := "PRECISION", type := .int, accessFlags := 25, slot := 7, constantValue := 0 }, { name := "MAX_EXPONENT", type := .int, accessFlags := 25, slot := 8, constantValue := 0 }, { name := "MIN_EXPONENT", type := .int, accessFlags := 25, slot := 9, constantValue := 0 }, { name := "BYTES", type := .int, accessFlags := 25, slot := 10, constantValue := 0 }, { name := "TYPE", type := (.object "java/lang/Class"), accessFlags := 25, slot := 11, constantValue := 0 }, { name := "value", type := .float, accessFlags := 18, slot := 0, constantValue := 0 }, { name := "serialVersionUID", type := .long, accessFlags := 26, slot := 12, constantValue := 0 }, { name := "$assertionsDisabled", type := .boolean, accessFlags := 4120, slot := 13, constantValue := 0 }]
  methods := #[k8m0, k8m1, k8m2]
  instanceTypes := #[.float]
  staticTypes := #[.float, .float, .float, .float, .float, .float, .int, .int, .int, .int, .int, (.object "java/lang/Class"), .long, .boolean]
  resolved := Array.replicate 279 none
  statics := none }

def pool9 : Array CpInfo := pool [(1, u "java/lang/Cloneable"), (0, .class_ 1), (0, u "java/lang/Object"), (0, .class_ 3)] 3

/-- java/lang/Cloneable -/
def k9 : Class := { plain "java/lang/Cloneable" (some 0) with
  accessFlags := 1537
  interfaces := #[]
  cf := some (fileOf pool9 2 #[] #[] 1537 4 #[] #[])
  fields := #[]
  methods := #[]
  instanceTypes := #[]
  staticTypes := #[]
  resolved := Array.replicate 8 none
  statics := none }

/-- the primitive byte -/
def k10 : Class := { plain "byte" none with kind := .primitive 'B', accessFlags := 0x411 }
/-- [B -/
def k11 : Class := { plain "[B" (some 0) with kind := .array 10 .byte, interfaces := #[9, 3], accessFlags := 1041 }

/-- the primitive int -/
def k12 : Class := { plain "int" none with kind := .primitive 'I', accessFlags := 0x411 }
/-- [I -/
def k13 : Class := { plain "[I" (some 0) with kind := .array 12 .int, interfaces := #[9, 3], accessFlags := 1041 }

def heap : Heap := #[]
def classes : Array Class := #[k0, k1, k2, k3, k4, k5, k6, k7, k8, k9, k10, k11, k12, k13]
def interned : List (Array UInt16 × Addr) := []
def slotsUsed : Nat := 0
def theMethod : MethodId := ⟨1, 2⟩
def args0 : Array Value := #[.int 5, .int 7, .int 3, .int 4, .int 0]
def aboutOver (below : List Frame) : State where
  vm := { classes := classes, interned := interned.toArray }
  heap := heap
  slotsUsed := slotsUsed
  threads := #[{ frames := .invoking theMethod args0 :: below }]
def below0 : List Frame := [.native { method := ⟨0, 0⟩, args := #[] }]
def about1 : State := aboutOver below0
def p0 : Program := .bare "" "" ""
def e0 : Env := launch0.env 0 0 0
theorem w_frames : about1.frames = Frame.invoking theMethod args0 :: below0 := rfl
set_option maxRecDepth 65536 in
theorem w_args : argsFit about1.vm theMethod args0 = true := by decide +kernel
set_option maxRecDepth 65536 in
theorem w_heap : heapFits about1 = true := by decide +kernel
set_option maxRecDepth 65536 in
theorem w_runnable : about1.curStatus? = some .runnable := by decide +kernel
set_option maxRecDepth 65536 in
theorem w_alone : about1.alone = true := by decide +kernel
set_option maxRecDepth 65536 in
theorem w_named : about1.methodNamed? x = some theMethod := by decide +kernel
set_option maxRecDepth 65536 in
theorem w_hears : about1.hears theMethod below0 = true := by decide +kernel
set_option maxRecDepth 65536 in
theorem w_ripe : about1.ripe theMethod args0 below0 = true := by decide +kernel
theorem w_running : about1.status = .running := rfl
set_option maxRecDepth 65536 in
theorem w_room : about1.hasRoom e0.platform room_1 = true :=
  launch0.hasRoom_least _ room_1 (by decide +kernel) (by decide +kernel) (by decide +kernel) (by decide +kernel) (by decide +kernel) (by decide +kernel)
theorem allAtoms_all (ts : List Jvm.Cond) (a : Array Jvm.Value) (st : Jvm.State) : (allAtoms ts).before a st = ts.all (fun c => c.before a st) := by
  induction ts with
  | nil => rfl
  | cons c t ih =>
    show (Jvm.Cond.and c (allAtoms t)).before a st = _
    rw [Jvm.Cond.before_and, ih, List.all_cons]
def words1 : List Jvm.Cond := Jvm.Cond.code x code maxLocals ret :: tables_1
/-- a 'code' word, met by the world's own term for the bytes: nothing is compared byte by byte -/
theorem code_word {y : MethodName} {bytes : ByteArray} {mx : Nat} {rt : Option FieldType} {a : Array Value} {s : State} {m : MethodId} {meth : Method} {c : Code} (h1 : s.methodNamed? y = some m) (h2 : s.vm.method? m = some meth) (h3 : meth.code = some c) (h4 : c.code = bytes)
    (h5 : (c.maxLocals == mx && c.exceptionTable.isEmpty && decide (c.maxStack ≤ mostOperands) && decide (meth.sig.returnType = rt) && !meth.locks && decide (parseMethodDescriptor y.desc = some meth.sig)) = true) : (Jvm.Cond.code y bytes mx rt).before a s = true := by
  simp only [Bool.and_eq_true, beq_iff_eq, Bool.not_eq_true', decide_eq_true_eq] at h5
  obtain ⟨⟨⟨⟨⟨g1, g2⟩, g3⟩, g4⟩, g5⟩, g6⟩ := h5
  simp [Cond.before, Cond.holds, Cond.value, h1, h2, h3, h4, g1, g2, g3, g4, g5, g6]
def isCode : Jvm.Cond → Bool
  | .code _ _ _ _ => true
  | _ => false
theorem all_split {L : List Jvm.Cond} {P : Jvm.Cond → Bool} (h1 : L.all (fun c => isCode c || P c) = true) (h2 : ∀ c ∈ L.filter isCode, P c = true) : L.all P = true := by
  refine List.all_eq_true.mpr fun c hc => ?_
  have h := List.all_eq_true.mp h1 c hc
  rcases Bool.eq_false_or_eq_true (isCode c) with hi | hi
  · exact h2 c (List.mem_filter.mpr ⟨hc, hi⟩)
  · simpa [hi] using h
set_option maxRecDepth 65536 in
theorem w_c0 : (Jvm.Cond.code x code maxLocals ret).before args0 about1 = true := code_word (m := ⟨1, 2⟩) (meth := k1m2) (c := k1c2) (by decide +kernel) rfl rfl rfl (by decide +kernel)
set_option maxRecDepth 65536 in
theorem w_c1 : (Jvm.Cond.code ({ cls := "com/example/slackline/slackline/search/LocalSearchKeyPinLaw", name := "scale", desc := "(II)D" } : Jvm.MethodName) method_2_code (2 : Nat) (Option.some Jvm.ClassFile.FieldType.double)).before args0 about1 = true := code_word (m := ⟨1, 1⟩) (meth := k1m1) (c := k1c1) (by decide +kernel) rfl rfl rfl (by decide +kernel)
set_option maxRecDepth 65536 in
theorem w_c2 : (Jvm.Cond.code ({ cls := "com/example/slackline/slackline/search/LocalSearch", name := "key", desc := "(DI)J" } : Jvm.MethodName) prog_31_method_16_code (4 : Nat) (Option.some Jvm.ClassFile.FieldType.long)).before args0 about1 = true := code_word (m := ⟨2, 0⟩) (meth := k2m0) (c := k2c0) (by decide +kernel) rfl rfl rfl (by decide +kernel)
set_option maxRecDepth 65536 in
theorem w_c3 : (Jvm.Cond.code ({ cls := "java/lang/Float", name := "floatToIntBits", desc := "(F)I" } : Jvm.MethodName) jdk_118_method_24_code (1 : Nat) (Option.some Jvm.ClassFile.FieldType.int)).before args0 about1 = true := code_word (m := ⟨8, 1⟩) (meth := k8m1) (c := k8c1) (by decide +kernel) rfl rfl rfl (by decide +kernel)
set_option maxRecDepth 65536 in
theorem w_c4 : (Jvm.Cond.code ({ cls := "java/lang/Float", name := "isNaN", desc := "(F)Z" } : Jvm.MethodName) jdk_118_method_6_code (1 : Nat) (Option.some Jvm.ClassFile.FieldType.boolean)).before args0 about1 = true := code_word (m := ⟨8, 0⟩) (meth := k8m0) (c := k8c0) (by decide +kernel) rfl rfl rfl (by decide +kernel)
def codes1 : List Jvm.Cond := [Jvm.Cond.code x code maxLocals ret, Jvm.Cond.code ({ cls := "com/example/slackline/slackline/search/LocalSearchKeyPinLaw", name := "scale", desc := "(II)D" } : Jvm.MethodName) method_2_code (2 : Nat) (Option.some Jvm.ClassFile.FieldType.double), Jvm.Cond.code ({ cls := "com/example/slackline/slackline/search/LocalSearch", name := "key", desc := "(DI)J" } : Jvm.MethodName) prog_31_method_16_code (4 : Nat) (Option.some Jvm.ClassFile.FieldType.long), Jvm.Cond.code ({ cls := "java/lang/Float", name := "floatToIntBits", desc := "(F)I" } : Jvm.MethodName) jdk_118_method_24_code (1 : Nat) (Option.some Jvm.ClassFile.FieldType.int), Jvm.Cond.code ({ cls := "java/lang/Float", name := "isNaN", desc := "(F)Z" } : Jvm.MethodName) jdk_118_method_6_code (1 : Nat) (Option.some Jvm.ClassFile.FieldType.boolean)]
set_option maxRecDepth 65536 in
theorem codes_eq : words1.filter isCode = codes1 := rfl
theorem w_codes : ∀ c ∈ words1.filter isCode, c.before args0 about1 = true := by
  rw [codes_eq]
  intro c hc
  simp only [codes1, List.mem_cons, List.not_mem_nil, or_false] at hc
  rcases hc with rfl | rfl | rfl | rfl | rfl
  · exact w_c0
  · exact w_c1
  · exact w_c2
  · exact w_c3
  · exact w_c4
set_option maxRecDepth 65536 in
theorem w_t1 : words1.all (fun c => isCode c || c.before args0 about1) = true := by decide +kernel
theorem w_tables : (allAtoms (Jvm.Cond.code x code maxLocals ret :: tables_1)).before args0 about1 = true := by
  rw [allAtoms_all]
  show words1.all (fun c => c.before args0 about1) = true
  refine all_split ?_ w_codes
  rw [w_t1]
set_option maxRecDepth 65536 in
theorem w_case : (Jvm.Cond.and given_1 narrow_1).before args0 about1 = true := by decide +kernel
theorem w_applies : (headSpec (Jvm.Cond.code x code maxLocals ret :: tables_1) room_1).applies x e0.platform about1 = true :=
  (Spec.applies_iff w_frames).mpr ⟨w_running, w_runnable, w_alone, w_named, w_hears, w_ripe, w_room, w_tables⟩
theorem atStart : AtStart classFile x code maxLocals ret World_1 tables_1 room_1 Calls_1 rest_1 Pre_1 launch0 p0 e0 about1 theMethod args0 below0 :=
  ⟨lists_1, trivial, launch0.admits_env _ _ _, launch0.least_env, fairChoices_fair.cas, fairChoices_fair.clock, w_frames, w_args, w_heap, w_applies, trivial, trivial, w_case⟩
end start1
theorem witness_1 : WitnessClaimed_1 := ⟨start1.p0, start1.e0, start1.about1, start1.theMethod, start1.args0, start1.below0, start1.atStart⟩
end Jvm.Pilot.@@N@@
