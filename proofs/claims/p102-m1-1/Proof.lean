import JvmDerived
import JvmDerived.Pilot.@@N@@Statement
import JvmDerived.Pilot.@@N@@Code
set_option linter.unusedVariables false
set_option linter.unusedSimpArgs false
namespace Jvm.Pilot.@@N@@
open Jvm Jvm.ClassFile Sem Op Lib Jvm.Free Jvm.Stand Jvm.LawKit Jvm.RoadKit Bundle Jvm.Pilot.@@N@@.Jvm.D
/-! my own layer: a walk in continuation form. OGo P T g: from the frame g at T the run comes to an end that meets P. -/
section Own
variable {p : Program} {l : Launch} {e : Env} {R : Room} {s : State} {m : MethodId} {args : Array Value} {below : List Frame} {meth : Method} {c : Code} {T : State} {locs : List Loc} {cells slots : Nat} {Z : State} {a0 : Array Value} {h : Heap}
def OGo (p : Program) (e : Env) (below : List Frame) (P : State → Outcome → Prop) (T : State) (g : JFrame) : Prop :=
  ∃ t o, Steps p.tables e below (T.setTop g) t ∧ t.status = .running ∧ Ended t below o ∧ P t o
def OEnd (s : State) (Q : Option Value → Heap → List Loc → Prop) (ck sk : Nat) (t : State) (o : Outcome) : Prop :=
  ∃ v L, o = .returned v ∧ Q v t.heap L ∧ FrameEnd s o t L ck sk
def OMet (l : Launch) (y : MethodName) (bytes : ByteArray) (maxL : Nat) (ret : Option FieldType) (ws : List Jvm.Cond) (rm : Room) (Z : State) (as' : Array Value) (h : Heap) (Q : Option Value → Heap → List Loc → Prop) : Prop :=
  MetFree l y (head1 (Jvm.Cond.code y bytes maxL ret :: ws) rm) (fun a U => a = as' ∧ Z.Warmed39 U.vm ∧ U.heap = h) (fun _ _ _ _ _ => True)
    (fun _ U o U' => ∃ v L, o = .returned v ∧ Q v U'.heap L ∧ FrameEnd U o U' L rm.cells rm.slots)
variable {P : State → Outcome → Prop}
theorem own_step {g g' : JFrame} (k : ∀ target, Steps p.tables e below (T.setTop g') target → Steps p.tables e below (T.setTop g) target) (d : OGo p e below P T g') : OGo p e below P T g := by
  obtain ⟨t, o, h1, h2⟩ := d
  exact ⟨t, o, k t h1, h2⟩
theorem own_via {T' : State} {g g' : JFrame} (k : ∀ target, Steps p.tables e below (T'.setTop g') target → Steps p.tables e below (T.setTop g) target) (d : OGo p e below P T' g') : OGo p e below P T g := by
  obtain ⟨t, o, h1, h2⟩ := d
  exact ⟨t, o, k t h1, h2⟩
theorem own_entry {g g' : JFrame} (q : g = g') (d : OGo p e below P T g') : OGo p e below P T g := q ▸ d
/-- a body by its walk -/
theorem own_body {y : MethodName} {bytes : ByteArray} {maxL : Nat} {ret : Option FieldType} {ws : List Jvm.Cond} {rm : Room} {as' : Array Value} {Q : Option Value → Heap → List Loc → Prop} (hpl : plainFor y = true)
    (body : ∀ (p : Program) (e : Env) (s : State) (m : MethodId) (below : List Frame) (meth : Method) (c : Code) (T : State), Stand p l e rm s m as' below meth c T [] 0 0 → p.tables.exec = Jvm.exec → Z.Warmed39 s.vm → c.code = bytes → c.maxLocals = maxL →
      s.vm.findClass y.cls = some m.cls → meth.name = y.name → meth.sig.returnType = ret → meth.locks = false → T.heap = h → OGo p e below (OEnd s Q rm.cells rm.slots) T (entryFrame m as' maxL)) :
    OMet l y bytes maxL ret ws rm Z as' h Q := by
  refine MetFree.of_bodySF hpl hisR ?_
  intro p e s m args below meth c s₁ Bd hml0 hP hK
  obtain ⟨rfl, hZ, hh⟩ := hP
  exact body p e s m below meth c s₁ (Stand.of_body Bd) Bd.exec hZ Bd.bytes hml0 (findClass_of_methodNamed Bd.named) (name_of_methodNamed Bd.named Bd.method).1 Bd.returns Bd.notSynchronized (by rw [← hh, Bd.state]; rfl)
variable {Q : Option Value → Heap → List Loc → Prop} {ck sk : Nat}
theorem own_retN (X : Stand p l e R s m args below meth c T locs cells slots) (hx : p.tables.exec = Jvm.exec) {pc : Nat} {Ls : Array Slot} {z : Int32} {t : FieldType} {rest : List Value} (hret : meth.sig.returnType = some t) (ht : t = .boolean ∨ t = .byte ∨ t = .char ∨ t = .short)
    (hlk : meth.locks = false) (hd : decode c.code pc = .ok (.ireturn, 1)) (eT : T.heap = h) (hQ : Q (some (.int (nar t z))) h locs) (hc : cells ≤ ck) (hs : slots ≤ sk) :
    OGo p e below (OEnd s Q ck sk) T (mkF m pc Ls (.int z :: rest)) := by
  obtain ⟨fs, hr, hrun, hended, hW, hsame⟩ := X.leave (v := some (.int (nar t z))) (fun h => by rw [hret] at h; cases h) hlk
  exact ⟨_, _, retN X hx hret ht hd hr, hrun, hended, _, locs, rfl, (show Q _ T.heap locs by rw [eT]; exact hQ), ⟨_, rfl⟩, hW, hsame.mono hc hs⟩
theorem own_retO (X : Stand p l e R s m args below meth c T locs cells slots) (hx : p.tables.exec = Jvm.exec) {pc : Nat} {Ls : Array Slot} {w : Value} {t : FieldType} {i : Instr} {rest : List Value} (hret : meth.sig.returnType = some t) (hn : narrow t w = w)
    (hi : (i = .ireturn ∧ (t = .int ∨ t = .boolean ∨ t = .byte ∨ t = .char ∨ t = .short) ∧ ∃ z, w = .int z) ∨ (i = .lreturn ∧ t = .long ∧ ∃ z, w = .long z) ∨ (i = .dreturn ∧ t = .double ∧ ∃ z, w = .double z) ∨ (i = .freturn ∧ t = .float ∧ ∃ z, w = .float z) ∨ (i = .areturn ∧ t.isReference = true ∧ w.isRef = true))
    (hlk : meth.locks = false) (hd : decode c.code pc = .ok (i, 1)) (eT : T.heap = h) (hQ : Q (some w) h locs) (hc : cells ≤ ck) (hs : slots ≤ sk) :
    OGo p e below (OEnd s Q ck sk) T (mkF m pc Ls (w :: rest)) := by
  obtain ⟨fs, hr, hrun, hended, hW, hsame⟩ := X.leave (v := some w) (fun h => by rw [hret] at h; cases h) hlk
  exact ⟨_, _, retOut X hx hret hn hi hd hr, hrun, hended, _, locs, rfl, (show Q _ T.heap locs by rw [eT]; exact hQ), ⟨_, rfl⟩, hW, hsame.mono hc hs⟩
theorem own_retI (X : Stand p l e R s m args below meth c T locs cells slots) (hx : p.tables.exec = Jvm.exec) {pc : Nat} {Ls : Array Slot} {z : Int32} {rest : List Value} (hret : meth.sig.returnType = some .int)
    (hlk : meth.locks = false) (hd : decode c.code pc = .ok (.ireturn, 1)) (eT : T.heap = h) (hQ : Q (some (.int z)) h locs) (hc : cells ≤ ck) (hs : slots ≤ sk) :
    OGo p e below (OEnd s Q ck sk) T (mkF m pc Ls (.int z :: rest)) := own_retO X hx hret rfl (Or.inl ⟨rfl, Or.inl rfl, z, rfl⟩) hlk hd eT hQ hc hs
theorem own_retA (X : Stand p l e R s m args below meth c T locs cells slots) (hx : p.tables.exec = Jvm.exec) {pc : Nat} {Ls : Array Slot} {w : Value} {t : FieldType} {rest : List Value} (hret : meth.sig.returnType = some t) (ht : t.isReference = true) (hw : w.isRef = true)
    (hlk : meth.locks = false) (hd : decode c.code pc = .ok (.areturn, 1)) (eT : T.heap = h) (hQ : Q (some w) h locs) (hc : cells ≤ ck) (hs : slots ≤ sk) :
    OGo p e below (OEnd s Q ck sk) T (mkF m pc Ls (w :: rest)) :=
  own_retO X hx hret (by cases t <;> cases w <;> first | rfl | (cases ht; done) | (cases hw; done)) (Or.inr (Or.inr (Or.inr (Or.inr ⟨rfl, ht, hw⟩)))) hlk hd eT hQ hc hs
theorem own_retV (X : Stand p l e R s m args below meth c T locs cells slots) (hx : p.tables.exec = Jvm.exec) {pc : Nat} {Ls : Array Slot} (hret : meth.sig.returnType = none)
    (hlk : meth.locks = false) (hd : decode c.code pc = .ok (.return_, 1)) (eT : T.heap = h) (hQ : Q none h locs) (hc : cells ≤ ck) (hs : slots ≤ sk) :
    OGo p e below (OEnd s Q ck sk) T (mkF m pc Ls []) := by
  obtain ⟨fs, hr, hrun, hended, hW, hsame⟩ := X.leave (v := none) (fun _ => rfl) hlk
  exact ⟨_, _, X.returnOut hx hret hd hr, hrun, hended, _, locs, rfl, (show Q _ T.heap locs by rw [eT]; exact hQ), ⟨_, rfl⟩, hW, hsame.mono hc hs⟩
variable {y : MethodName} {bytes : ByteArray} {maxL : Nat} {ret : Option FieldType} {rm : Room} {as' : Array Value}
theorem own_callS (X : Stand p l e R s m args below meth c T locs cells slots) (hx : p.tables.exec = Jvm.exec) (hZ : Z.Warmed39 s.vm) {own : String} {index W : Nat} (hown : s.vm.findClass own = some m.cls) (eT : T.heap = h)
    (hM : OMet l y bytes maxL ret [] rm Z as' h Q)
    (w1 : (Cond.methodLink own index y).before a0 Z = true) (w2 : (Cond.static y).before a0 Z = true) (w3 : (Cond.initialized y.cls).before a0 Z = true) (w4 : (Cond.code y bytes maxL ret).before a0 Z = true)
    (hy : y.cls ≠ "java/lang/invoke/MethodHandle" ∧ y.cls ≠ "java/lang/invoke/VarHandle") (hf : rm.frames + 1 ≤ R.frames) (hl : W + (maxL + 11) + rm.locals ≤ R.locals)
    {g : JFrame} (hg : g.method = m) (hsize : g.locals.size = c.maxLocals) {argsL rest : List Value} (has : argsL.toArray = as') (hlen : ∀ sig, parseMethodDescriptor y.desc = some sig → argsL.length = sig.parameters.length)
    (hstack : g.stack = argsL.reverse ++ rest) (hW : 2 * g.monitorRoom + (rest.map fun v => v.category).sum ≤ W) (hdg : decode c.code g.pc = .ok (.invokestatic index, 3))
    (hc : cells + rm.cells ≤ R.cells) (hs : slots + rm.slots ≤ R.slots)
    (k : ∀ (v : Option Value) (T' : State) (L : List Loc), Stand p l e R s m args below meth c T' (locs ++ L) (cells + rm.cells) (slots + rm.slots) → Q v T'.heap L → OGo p e below P T' { g with pc := g.pc + 3, stack := v.toList ++ rest }) :
    OGo p e below P T g := by
  obtain ⟨v, _, ⟨T', L', k', n'⟩, -, X', ⟨Lc, hQ, e1, e2, e3⟩, st⟩ := Jvm.LawKit.callS X hx (y := y) hown (mvT hZ w1) (mvT hZ w2) (mvT hZ w3) (mvT hZ w4) hy (backOf (W := W) hM hZ w4 w3 hf hl) hg hsize hlen hstack hW hdg (fun _ _ => ⟨has, eT, hc, hs⟩)
  dsimp only [Pt.U, Pt.locs, Pt.cells, Pt.slots] at X' e1 e2 e3 st hQ
  subst e1 e2 e3
  exact own_via st (k v T' Lc X' hQ)
theorem own_callV (X : Stand p l e R s m args below meth c T locs cells slots) (hx : p.tables.exec = Jvm.exec) (hZ : Z.Warmed39 s.vm) {own C : String} {index W : Nat} {z : MethodName} (hown : s.vm.findClass own = some m.cls) (eT : T.heap = h)
    (hM : OMet l z bytes maxL ret [] rm Z as' h Q) {b : Addr} (E : Exa Z h b C)
    (w1 : (Cond.methodLink own index y).before a0 Z = true) (w2 : (Cond.declares y).before a0 Z = true) (nf : NotFace s y) (w3 : (Cond.selects C y z).before a0 Z = true) (w4 : (Cond.instanceMethod z).before a0 Z = true) (w5 : (Cond.code z bytes maxL ret).before a0 Z = true) (w6 : (Cond.initialized z.cls).before a0 Z = true)
    (hy : y.cls ≠ "java/lang/invoke/MethodHandle" ∧ y.cls ≠ "java/lang/invoke/VarHandle") (hf : rm.frames + 1 ≤ R.frames) (hl : W + (maxL + 11) + rm.locals ≤ R.locals)
    {g : JFrame} (hg : g.method = m) (hsize : g.locals.size = c.maxLocals) {argsL rest : List Value} (has : (.ref b :: argsL).toArray = as') (hlen : ∀ sig, parseMethodDescriptor y.desc = some sig → argsL.length = sig.parameters.length)
    (hstack : g.stack = argsL.reverse ++ .ref b :: rest) (hW : 2 * g.monitorRoom + (rest.map fun v => v.category).sum ≤ W) (hdg : decode c.code g.pc = .ok (.invokevirtual index, 3))
    (hc : cells + rm.cells ≤ R.cells) (hs : slots + rm.slots ≤ R.slots)
    (k : ∀ (v : Option Value) (T' : State) (L : List Loc), Stand p l e R s m args below meth c T' (locs ++ L) (cells + rm.cells) (slots + rm.slots) → Q v T'.heap L → OGo p e below P T' { g with pc := g.pc + 3, stack := v.toList ++ rest }) :
    OGo p e below P T g := by
  obtain ⟨cq, kq, qa, qb, qc⟩ := isOf hZ eT E
  obtain ⟨v, _, ⟨T', L', k', n'⟩, -, X', ⟨Lc, hQ, e1, e2, e3⟩, st⟩ := X.virtualBack hx (y := y) (z := z) hown (mvT hZ w1) (mvT hZ w2) nf (mvT hZ w3) (mvT hZ w4) hy (backOf (W := W) hM hZ w5 w6 hf hl) qa qc hg hsize (Steps.refl _) hlen hstack hW hdg (fun _ _ => ⟨has, eT, hc, hs⟩)
  dsimp only [Pt.U, Pt.locs, Pt.cells, Pt.slots] at X' e1 e2 e3 st hQ
  subst e1 e2 e3
  exact own_via (fun _ kk => st.trans kk) (k v T' Lc X' hQ)
theorem own_callI (X : Stand p l e R s m args below meth c T locs cells slots) (hx : p.tables.exec = Jvm.exec) (hZ : Z.Warmed39 s.vm) {own C : String} {index count W : Nat} {z : MethodName} (hown : s.vm.findClass own = some m.cls) (eT : T.heap = h)
    (hM : OMet l z bytes maxL ret [] rm Z as' h Q) {b : Addr} (E : Exa Z h b C)
    (w1 : (Cond.methodLink own index y).before a0 Z = true) (w2 : (Cond.declares y).before a0 Z = true) (wf : (Cond.interfaceMethod y.cls y.cls y.name y.desc).before args s = true) (w3 : (Cond.selects C y z).before a0 Z = true) (w4 : (Cond.instanceMethod z).before a0 Z = true)
    (wp : (Cond.publicMethod z).before a0 Z = true) (wu : (Cond.unhidden C y.name y.desc).before a0 Z = true) (wc : (Cond.castable C y.cls).before a0 Z = true) (w5 : (Cond.code z bytes maxL ret).before a0 Z = true) (w6 : (Cond.initialized z.cls).before a0 Z = true)
    (hy : y.cls ≠ "java/lang/invoke/MethodHandle" ∧ y.cls ≠ "java/lang/invoke/VarHandle") (hf : rm.frames + 1 ≤ R.frames) (hl : W + (maxL + 11) + rm.locals ≤ R.locals)
    {g : JFrame} (hg : g.method = m) (hsize : g.locals.size = c.maxLocals) {argsL rest : List Value} (has : (.ref b :: argsL).toArray = as') (hlen : ∀ sig, parseMethodDescriptor y.desc = some sig → argsL.length = sig.parameters.length)
    (hstack : g.stack = argsL.reverse ++ .ref b :: rest) (hW : 2 * g.monitorRoom + (rest.map fun v => v.category).sum ≤ W) (hdg : decode c.code g.pc = .ok (.invokeinterface index count, 5))
    (hc : cells + rm.cells ≤ R.cells) (hs : slots + rm.slots ≤ R.slots)
    (k : ∀ (v : Option Value) (T' : State) (L : List Loc), Stand p l e R s m args below meth c T' (locs ++ L) (cells + rm.cells) (slots + rm.slots) → Q v T'.heap L → OGo p e below P T' { g with pc := g.pc + 5, stack := v.toList ++ rest }) :
    OGo p e below P T g := by
  obtain ⟨cq, kq, qa, qb, qc⟩ := isOf hZ eT E
  obtain ⟨v, _, ⟨T', L', k', n'⟩, -, X', ⟨Lc, hQ, e1, e2, e3⟩, st⟩ := X.interfaceBack hx (xi := y) (y := z) hown (mvT hZ w1) (mvT hZ w2) wf (mvT hZ w3) (mvT hZ w4) (mvT hZ wp) (mvT hZ wu) (mvT hZ wc) hy (backOf (W := W) hM hZ w5 w6 hf hl) qa qb qc hg hsize (Steps.refl _) hlen hstack hW hdg (fun _ _ => ⟨has, eT, hc, hs⟩)
  dsimp only [Pt.U, Pt.locs, Pt.cells, Pt.slots] at X' e1 e2 e3 st hQ
  subst e1 e2 e3
  exact own_via (fun _ kk => st.trans kk) (k v T' Lc X' hQ)
theorem own_init (X : Stand p l e R s m args below meth c T locs cells slots) (hx : p.tables.exec = Jvm.exec) (hZ : Z.Warmed39 s.vm) {own : String} {index W : Nat} (hown : s.vm.findClass own = some m.cls) (eT : T.heap = h)
    (hM : OMet l y bytes maxL none [] rm Z as' h Q) {b : Addr} (hy1 : y.name = "<init>")
    (w1 : (Cond.methodLink own index y).before a0 Z = true) (w2 : (Cond.instanceMethod y).before a0 Z = true) (w3 : (Cond.code y bytes maxL none).before a0 Z = true) (w4 : (Cond.initialized y.cls).before a0 Z = true)
    (hy : y.cls ≠ "java/lang/invoke/MethodHandle" ∧ y.cls ≠ "java/lang/invoke/VarHandle") (hf : rm.frames + 1 ≤ R.frames) (hl : W + (maxL + 11) + rm.locals ≤ R.locals)
    {g : JFrame} (hg : g.method = m) (hsize : g.locals.size = c.maxLocals) {argsL rest : List Value} (has : (.ref b :: argsL).toArray = as') (hlen : ∀ sig, parseMethodDescriptor y.desc = some sig → argsL.length = sig.parameters.length)
    (hstack : g.stack = argsL.reverse ++ .ref b :: rest) (hW : 2 * g.monitorRoom + (rest.map fun v => v.category).sum ≤ W) (hdg : decode c.code g.pc = .ok (.invokespecial index, 3))
    (hc : cells + rm.cells ≤ R.cells) (hs : slots + rm.slots ≤ R.slots)
    (k : ∀ (v : Option Value) (T' : State) (L : List Loc), Stand p l e R s m args below meth c T' (locs ++ L) (cells + rm.cells) (slots + rm.slots) → Q v T'.heap L → OGo p e below P T' { g with pc := g.pc + 3, stack := v.toList ++ rest }) :
    OGo p e below P T g := by
  obtain ⟨v, _, ⟨T', L', k', n'⟩, -, X', ⟨Lc, hQ, e1, e2, e3⟩, st⟩ := X.specialBack hx (y := y) hy1 hown (mvT hZ w1) (mvT hZ w2) (mvT hZ w3) hy (backOf (W := W) hM hZ w3 w4 hf hl) hg hsize (Steps.refl _) hlen hstack hW hdg (fun _ _ => ⟨has, eT, hc, hs⟩)
  dsimp only [Pt.U, Pt.locs, Pt.cells, Pt.slots] at X' e1 e2 e3 st hQ
  subst e1 e2 e3
  exact own_via (fun _ kk => st.trans kk) (k v T' Lc X' hQ)
theorem own_initB (X : Stand p l e R s m args below meth c T locs cells slots) (hx : p.tables.exec = Jvm.exec) (hZ : Z.Warmed39 s.vm) {own : String} {index W ck' sk' : Nat} (hown : s.vm.findClass own = some m.cls) (eT : T.heap = h)
    (hK : Back l R p e below s args y 3 W (fun A a => a = as' ∧ A.U.heap = h ∧ A.cells + ck' ≤ R.cells ∧ A.slots + sk' ≤ R.slots) (fun A _ v B => ∃ L, Q v B.U.heap L ∧ B.locs = A.locs ++ L ∧ B.cells = A.cells + ck' ∧ B.slots = A.slots + sk')) {b : Addr} (hy1 : y.name = "<init>")
    (w1 : (Cond.methodLink own index y).before a0 Z = true) (w2 : (Cond.instanceMethod y).before a0 Z = true) (w3 : (Cond.code y bytes maxL none).before a0 Z = true)
    (hy : y.cls ≠ "java/lang/invoke/MethodHandle" ∧ y.cls ≠ "java/lang/invoke/VarHandle")
    {g : JFrame} (hg : g.method = m) (hsize : g.locals.size = c.maxLocals) {argsL rest : List Value} (has : (.ref b :: argsL).toArray = as') (hlen : ∀ sig, parseMethodDescriptor y.desc = some sig → argsL.length = sig.parameters.length)
    (hstack : g.stack = argsL.reverse ++ .ref b :: rest) (hW : 2 * g.monitorRoom + (rest.map fun v => v.category).sum ≤ W) (hdg : decode c.code g.pc = .ok (.invokespecial index, 3))
    (hc : cells + ck' ≤ R.cells) (hs : slots + sk' ≤ R.slots)
    (k : ∀ (v : Option Value) (T' : State) (L : List Loc), Stand p l e R s m args below meth c T' (locs ++ L) (cells + ck') (slots + sk') → Q v T'.heap L → OGo p e below P T' { g with pc := g.pc + 3, stack := v.toList ++ rest }) :
    OGo p e below P T g := by
  obtain ⟨v, _, ⟨T', L', k', n'⟩, -, X', ⟨Lc, hQ, e1, e2, e3⟩, st⟩ := X.specialBack hx (y := y) hy1 hown (mvT hZ w1) (mvT hZ w2) (mvT hZ w3) hy hK hg hsize (Steps.refl _) hlen hstack hW hdg (fun _ _ => ⟨has, eT, hc, hs⟩)
  dsimp only [Pt.U, Pt.locs, Pt.cells, Pt.slots] at X' e1 e2 e3 st hQ
  subst e1 e2 e3
  exact own_via (fun _ kk => st.trans kk) (k v T' Lc X' hQ)
theorem own_irem {tb : Tables} [Ours tb] {e : Env} {below : List Frame} {T target : State} {m : MethodId} {c : Code} {g : JFrame} (h : At T m c below) (hx : tb.exec = Jvm.exec) (hg : g.method = m) {x y : Int32} {rest : List Value} (hd : decode c.code g.pc = .ok (.irem, 1)) (hs : g.stack = .int y :: .int x :: rest) (hy : y ≠ 0)
    (hr : Steps tb e below (T.setTop { g with pc := g.pc + 1, stack := .int (x % y) :: rest }) target) : Steps tb e below (T.setTop g) target := XS.irem h hx hg hd hs hy (by rw [irem_eq_mod]; exact hr)
theorem own_len {z w : Int32} (q : z = w) {g : JFrame} {rest : List Value} {pc : Nat} (k : ∀ target, Steps p.tables e below (T.setTop { g with pc := pc, stack := .int z :: rest }) target → Steps p.tables e below (T.setTop g) target) :
    ∀ target, Steps p.tables e below (T.setTop { g with pc := pc, stack := .int w :: rest }) target → Steps p.tables e below (T.setTop g) target := q ▸ k
theorem own_narZ {x : Int32} (hx : x = 0 ∨ x = 1) : narrow .boolean (.int x) = .int x := by rcases hx with rfl | rfl <;> rfl
theorem own_fitZ {x : Int32} (hx : x = 0 ∨ x = 1) : fits .boolean (.int x) = true := by rcases hx with rfl | rfl <;> rfl
theorem own_fits_byte (x : Int32) : fits .byte (.int (nar .byte x)) = true := fits_nar_byte x
theorem own_lat (x : Int32) : ¬ (x &&& (255 : Int32)).toUInt32.toUInt16.toUInt32.toInt32 < (0 : Int32) ∧ ¬ (255 : Int32) < (x &&& (255 : Int32)).toUInt32.toUInt16.toUInt32.toInt32 := by
  rw [i2c_mask]
  have q := c_and x 255 (by decide)
  rw [Int32.lt_iff_toInt_lt, Int32.lt_iff_toInt_lt]
  have e1 : (0 : Int32).toInt = 0 := by decide
  have e2 : (255 : Int32).toInt = 255 := by decide
  omega
theorem own_latN (x : Int32) : ¬ nar .char ((x &&& (255 : Int32)).toUInt32.toUInt16.toUInt32.toInt32) < (0 : Int32) ∧ ¬ (255 : Int32) < nar .char ((x &&& (255 : Int32)).toUInt32.toUInt16.toUInt32.toInt32) := by
  have e : nar .char ((x &&& (255 : Int32)).toUInt32.toUInt16.toUInt32.toInt32) = (x &&& (255 : Int32)).toUInt32.toUInt16.toUInt32.toInt32 := by simp only [nar, i2c_mask]
  rw [e]
  exact own_lat x
theorem own_callP (X : Stand p l e R s m args below meth c T locs cells slots) (hx : p.tables.exec = Jvm.exec) (hZ : Z.Warmed39 s.vm) {own C : String} {index W : Nat} (hown : s.vm.findClass own = some m.cls) (eT : T.heap = h)
    (hM : OMet l y bytes maxL ret [] rm Z as' h Q) {b : Addr} (E : Exa Z h b C)
    (w1 : (Cond.methodLink own index y).before a0 Z = true) (w2 : (Cond.instanceMethod y).before a0 Z = true) (w3 : (Cond.selects y.cls y y).before a0 Z = true) (w4 : (Cond.privateMethod y).before a0 Z = true) (w5 : (Cond.code y bytes maxL ret).before a0 Z = true) (w6 : (Cond.initialized y.cls).before a0 Z = true)
    (hy : y.cls ≠ "java/lang/invoke/MethodHandle" ∧ y.cls ≠ "java/lang/invoke/VarHandle") (hf : rm.frames + 1 ≤ R.frames) (hl : W + (maxL + 11) + rm.locals ≤ R.locals)
    {g : JFrame} (hg : g.method = m) (hsize : g.locals.size = c.maxLocals) {argsL rest : List Value} (has : (.ref b :: argsL).toArray = as') (hlen : ∀ sig, parseMethodDescriptor y.desc = some sig → argsL.length = sig.parameters.length)
    (hstack : g.stack = argsL.reverse ++ .ref b :: rest) (hW : 2 * g.monitorRoom + (rest.map fun v => v.category).sum ≤ W) (hdg : decode c.code g.pc = .ok (.invokevirtual index, 3))
    (hc : cells + rm.cells ≤ R.cells) (hs : slots + rm.slots ≤ R.slots)
    (k : ∀ (v : Option Value) (T' : State) (L : List Loc), Stand p l e R s m args below meth c T' (locs ++ L) (cells + rm.cells) (slots + rm.slots) → Q v T'.heap L → OGo p e below P T' { g with pc := g.pc + 3, stack := v.toList ++ rest }) :
    OGo p e below P T g := by
  obtain ⟨cq, qa, qb⟩ := E.cell
  obtain ⟨v, _, ⟨T', L', k', n'⟩, -, X', ⟨Lc, hQ, e1, e2, e3⟩, st⟩ := X.privateBack hx (y := y) hown (mvT hZ w1) (mvT hZ w2) (mvT hZ w3) (Cond.privateMethod_at (mvP hZ w4 (args := #[]))) (mvT hZ w5) hy (backOf (W := W) hM hZ w5 w6 hf hl) hg hsize (Steps.refl _) (by rw [eT]; exact qa) qb hlen hstack hW hdg (fun _ _ => ⟨has, eT, hc, hs⟩)
  dsimp only [Pt.U, Pt.locs, Pt.cells, Pt.slots] at X' e1 e2 e3 st hQ
  subst e1 e2 e3
  exact own_via (fun _ kk => st.trans kk) (k v T' Lc X' hQ)
theorem own_superB (X : Stand p l e R s m args below meth c T locs cells slots) (hx : p.tables.exec = Jvm.exec) (hZ : Z.Warmed39 s.vm) {own K : String} {index W : Nat} (hown : s.vm.findClass own = some m.cls) (eT : T.heap = h)
    (hM : OMet l y bytes maxL ret [] rm Z as' h Q) {b : Addr} (F : Ins Z h b K true) (hn : y.name ≠ "<init>")
    (w1 : (Cond.methodLink own index y).before a0 Z = true) (w2 : (Cond.sameMethod y.cls y.cls y.name y.desc).before a0 Z = true) (w3 : (Cond.instanceMethod y).before a0 Z = true) (w4 : (Cond.superclass own y.cls).before a0 Z = true) (w5 : (Cond.code y bytes maxL ret).before a0 Z = true) (w6 : (Cond.initialized y.cls).before a0 Z = true)
    (hf : rm.frames + 1 ≤ R.frames) (hl : W + (maxL + 11) + rm.locals ≤ R.locals)
    {g : JFrame} (hg : g.method = m) (hsize : g.locals.size = c.maxLocals) {argsL rest : List Value} (has : (.ref b :: argsL).toArray = as') (hlen : ∀ sig, parseMethodDescriptor y.desc = some sig → argsL.length = sig.parameters.length)
    (hstack : g.stack = argsL.reverse ++ .ref b :: rest) (hW : 2 * g.monitorRoom + (rest.map fun v => v.category).sum ≤ W) (hdg : decode c.code g.pc = .ok (.invokespecial index, 3))
    (hc : cells + rm.cells ≤ R.cells) (hs : slots + rm.slots ≤ R.slots)
    (k : ∀ (v : Option Value) (T' : State) (L : List Loc), Stand p l e R s m args below meth c T' (locs ++ L) (cells + rm.cells) (slots + rm.slots) → Q v T'.heap L → OGo p e below P T' { g with pc := g.pc + 3, stack := v.toList ++ rest }) :
    OGo p e below P T g := by
  obtain ⟨v, _, ⟨T', L', k', n'⟩, -, X', ⟨Lc, hQ, e1, e2, e3⟩, st⟩ := superBack X hx hZ (y := y) hown w1 w2 w3 w4 hn (backOf (W := W) hM hZ w5 w6 hf hl) eT F hg hsize w5 hlen hstack hW hdg (fun _ _ => ⟨has, eT, hc, hs⟩)
  dsimp only [Pt.U, Pt.locs, Pt.cells, Pt.slots] at X' e1 e2 e3 st hQ
  subst e1 e2 e3
  exact own_via (fun _ kk => st.trans kk) (k v T' Lc X' hQ)
theorem own_pureX (X : Stand p l e R s m args below meth c T (locs ++ []) (cells + 0) (slots + 0)) : Stand p l e R s m args below meth c T locs cells slots := by simpa using X
theorem own_sta_keep {h' : Heap} {ws : List Addr} {C n d : String} {v : Value} (F : Sta Z h C n d v) (K : Keep h h' ws) (q : ∀ x ∈ ws, ∀ c : Cell, h[x]? = some c → c.vm.isStatics = false) : Sta Z h' C n d v := by
  obtain ⟨cf, i, k, f, st, cell, h1, h2, h3, h4, h5, h6, h7⟩ := F
  exact ⟨cf, i, k, f, st, cell, h1, h2, h3, h4, K.2.1 st cell h5 (fun mm => by have := q st mm cell h5; rw [h6] at this; cases this), h6, h7⟩
theorem own_ins_keep {h' : Heap} {ws : List Addr} {a : Addr} {C : String} {b : Bool} (F : Ins Z h a C b) (K : Keep h h' ws) : Ins Z h' a C b := by
  obtain ⟨cell, cT, h1, h2, h3⟩ := F
  obtain ⟨c', q1, q2, q3, -⟩ := K.2.2 a cell h1
  exact ⟨c', cT, q1, h2, by rw [q2, q3]; exact h3⟩
theorem own_nsE {a : Addr} {C : String} (E : Exa Z h a C) : ∀ c : Cell, h[a]? = some c → c.vm.isStatics = false := fun c hc => by
  obtain ⟨cell, k, h1, h2, h3, h4, h5⟩ := E
  cases h1.symm.trans hc
  exact h4
theorem own_nsA {a : Addr} {k : ClassId} {ty : FieldType} {z : Int32} {vs : List Value} {dv : Value} (F : Arv Z h a k ty z vs dv) : ∀ c : Cell, h[a]? = some c → c.vm.isStatics = false := fun c hc => by
  obtain ⟨cell, A, -⟩ := F
  cases A.1.symm.trans hc
  exact A.plain
theorem own_nar_ref {t : FieldType} {w : Value} (hw : w.isRef = true) (ht : t.isReference = true) : narrow t w = w := by cases t <;> cases w <;> first | rfl | (cases ht; done) | (cases hw; done)
theorem own_fits_ref {t : FieldType} {w : Value} (hw : w.isRef = true) (ht : t.isReference = true) : fits t w = true := by cases t <;> cases w <;> first | rfl | (cases ht; done) | (cases hw; done)
theorem own_len0 {t : Term} {x : Addr} {cl : Cell} {ty : FieldType} (ht : t.eval args s none [] s = some (.ref x)) (A : Arr s s.heap x cl ty) (hq : (Jvm.Cond.eq (.length t) (.int 0)).value args s none s [] = some true) : cl.slots.size = 0 := by
  have e1 := A.fin (U := s) (Vm.Alike.refl _)
  simp only [Cond.value, Term.eval, ht, e1] at hq
  by_cases q : cl.slots.size < 2 ^ 31
  · simp [e1, q] at hq
    have e2 := len_toInt q
    rw [hq] at e2
    have e3 : (0 : Int32).toInt = 0 := by decide
    omega
  · simp [e1, q] at hq
theorem own_arv0 {x : Addr} {cl : Cell} {ty : FieldType} {dv : Value} (A : Arr s s.heap x cl ty) (hq : cl.slots.size = 0) : Arv s s.heap x cl.cls ty (0 : Int32) [] dv :=
  ⟨cl, A, rfl, by rw [hq]; decide, by decide, fun i hi => by omega, fun i hi => by omega⟩
/-- a static's object and its int field, out of the case's words -/
theorem own_fldI {t : Term} {C n d : String} {x : Addr} {k : Int32} (ht : t.eval args s none [] s = some (.ref x)) (h : (Jvm.Cond.eq (.field t C n d) (.int k)).value args s none s [] = some true) : Fld s s.heap x C n d (.int k) := by
  refine Fld.start ?_
  have e1 := fld_at (C := C) (n := n) (dd := d) ht
  have e2 : (Term.int k).eval args s none [] s = some (.int k) := rfl
  simp only [Cond.value, e1, e2] at h
  cases hv : s.fieldOf? x C n d with
  | none => simp [hv] at h
  | some w => cases w <;> simp_all
end Own
theorem d3_0 : decode jdk_22_method_1_code 0 = .ok (.aload_n 0, 1) := by decide +kernel
theorem d3_1 : decode jdk_22_method_1_code 1 = .ok (.invokespecial 1, 3) := by decide +kernel
theorem d3_4 : decode jdk_22_method_1_code 4 = .ok (.return_, 1) := by decide +kernel
theorem pn_3 : plainName "java/util/AbstractCollection" = true := by first | (simp [plainName, overriddenIn]; done) | decide +kernel
set_option maxRecDepth 65536 in
set_option maxHeartbeats 40000000 in
theorem rm3 (l : Launch) (Z : State) (a0 : Array Value) (hw : ∀ d ∈ tables_1, d.before a0 Z = true) (ws : List Jvm.Cond) (a1 : Addr) (h0 : Heap) (n0 : Nat) (Z0 : n0 ≤ h0.size)  :
    OMet l (⟨"java/util/AbstractCollection", "<init>", "()V"⟩ : MethodName) jdk_22_method_1_code 1 none ws ({ frames := 1, cells := 0, slots := 0, locals := 12 } : Room) Z #[(.ref a1)] h0 (fun v h L => v = none ∧ L = [] ∧ h = h0) := by
  refine own_body (plainFor_of_name pn_3) ?_
  intro p e s m below meth c T0 X0 hx hZ hby hml hown hnm hret hlk e0
  have N0 := Fr.nil n0
  refine own_entry (g' := (mkF m 0 #[.val (.ref a1)] [])) (by first | rfl | (simp [entryFrame, mkF, argsToLocals, Value.category, maxLocals]; done)) ?_
  refine own_step (g' := (mkF m 1 #[.val (.ref a1)] [(.ref a1)])) (fun _ k => XS.aloadN X0.here hx rfl (hb hby d3_0) rfl rfl k) ?_
  obtain ⟨T1, X1, e1, st1⟩ := initO X0 hx hZ hown (hw _ (List.mem_of_getElem? (i := 22) rfl)) (hw _ (List.mem_of_getElem? (i := 23) rfl)) (hw _ (List.mem_of_getElem? (i := 24) rfl)) e0 (g := (mkF m 1 #[.val (.ref a1)] [(.ref a1)])) rfl (by rw [hml]; rfl) rfl (hb hby d3_1) (by decide) (W := 0) (by show 2 * 0 + _ ≤ _; exact Nat.le_of_eq rfl) (by decide)
  refine own_via (g' := (mkF m 4 #[.val (.ref a1)] [])) st1 ?_
  exact own_retV X1 hx hret hlk (hb hby d3_4) e1 (by exact ⟨rfl, rfl, rfl⟩) (by decide) (by decide)
theorem d2_0 : decode jdk_39_method_1_code 0 = .ok (.aload_n 0, 1) := by decide +kernel
theorem d2_1 : decode jdk_39_method_1_code 1 = .ok (.invokespecial 1, 3) := by decide +kernel
theorem d2_4 : decode jdk_39_method_1_code 4 = .ok (.aload_n 0, 1) := by decide +kernel
theorem d2_5 : decode jdk_39_method_1_code 5 = .ok (.iconst 0, 1) := by decide +kernel
theorem d2_6 : decode jdk_39_method_1_code 6 = .ok (.putfield 7, 3) := by decide +kernel
theorem d2_9 : decode jdk_39_method_1_code 9 = .ok (.return_, 1) := by decide +kernel
theorem pd_0 : parseMethodDescriptor "()V" = some ⟨[], none⟩ := by decide +kernel
theorem pn_2 : plainName "java/util/AbstractList" = true := by first | (simp [plainName, overriddenIn]; done) | decide +kernel
set_option maxRecDepth 65536 in
set_option maxHeartbeats 40000000 in
theorem rm2 (l : Launch) (Z : State) (a0 : Array Value) (hw : ∀ d ∈ tables_1, d.before a0 Z = true) (ws : List Jvm.Cond) (a1 : Addr) (h0 : Heap) (n0 : Nat) (Z0 : n0 ≤ h0.size) (g_a1 : n0 ≤ a1) (E1 : Exa Z h0 a1 "java/util/ArrayList") (Fm : Fld Z h0 a1 "java/util/AbstractList" "modCount" "I" (.int (0 : Int32))) (Fe : Fld Z h0 a1 "java/util/ArrayList" "elementData" "[Ljava/lang/Object;" .null) (Fs : Fld Z h0 a1 "java/util/ArrayList" "size" "I" (.int (0 : Int32))) :
    OMet l (⟨"java/util/AbstractList", "<init>", "()V"⟩ : MethodName) jdk_39_method_1_code 1 none ws ({ frames := 2, cells := 0, slots := 0, locals := 24 } : Room) Z #[(.ref a1)] h0 (fun v h L => v = none ∧ Fr n0 L ∧ Keep h0 h [a1] ∧ Exa Z h a1 "java/util/ArrayList" ∧ Fld Z h a1 "java/util/AbstractList" "modCount" "I" (.int (0 : Int32)) ∧ Fld Z h a1 "java/util/ArrayList" "elementData" "[Ljava/lang/Object;" .null ∧ Fld Z h a1 "java/util/ArrayList" "size" "I" (.int (0 : Int32))) := by
  refine own_body (plainFor_of_name pn_2) ?_
  intro p e s m below meth c T0 X0 hx hZ hby hml hown hnm hret hlk e0
  have N0 := Fr.nil n0
  refine own_entry (g' := (mkF m 0 #[.val (.ref a1)] [])) (by first | rfl | (simp [entryFrame, mkF, argsToLocals, Value.category, maxLocals]; done)) ?_
  have KC0 := Keep.refl h0 [a1]
  refine own_step (g' := (mkF m 1 #[.val (.ref a1)] [(.ref a1)])) (fun _ k => XS.aloadN X0.here hx rfl (hb hby d2_0) rfl rfl k) ?_
  refine own_init X0 hx hZ (W := 0) hown e0 (rm3 l Z a0 hw [] a1 h0 n0 Z0) rfl (hw _ (List.mem_of_getElem? (i := 16) rfl)) (hw _ (List.mem_of_getElem? (i := 17) rfl)) (hw _ (List.mem_of_getElem? (i := 21) rfl)) (hw _ (List.mem_of_getElem? (i := 20) rfl)) (by decide) (by decide) (by decide) (g := (mkF m 1 #[.val (.ref a1)] [(.ref a1)])) rfl (by rw [hml]; rfl) (argsL := []) (rest := []) rfl (lenOf pd_0 rfl) rfl (by show 2 * 0 + _ ≤ _; exact Nat.le_of_eq rfl) (hb hby d2_1) (by decide) (by decide) ?_
  intro v1 T1 L1 X1 hQ1
  obtain ⟨rfl, rfl, e1⟩ := hQ1
  replace X1 := own_pureX X1
  show OGo p e below _ T1 (mkF m 4 #[.val (.ref a1)] [])
  refine own_step (g' := (mkF m 5 #[.val (.ref a1)] [(.ref a1)])) (fun _ k => XS.aloadN X1.here hx rfl (hb hby d2_4) rfl rfl k) ?_
  refine own_step (g' := (mkF m 6 #[.val (.ref a1)] [(.int (0 : Int32)), (.ref a1)])) (fun _ k => XS.iconst X1.here hx rfl (hb hby d2_5) k) ?_
  obtain ⟨T2, h2, X2, e2, W2, st2⟩ := putF X1 hx hZ hown (host := "") (Or.inl (hw _ (List.mem_of_getElem? (i := 25) rfl))) Via.refl e1 Fm E1 (Or.inl (hw _ (List.mem_of_getElem? (i := 26) rfl))) (hw _ (List.mem_of_getElem? (i := 5) rfl)) (ty := .int) (by decide) rfl rfl (g := (mkF m 6 #[.val (.ref a1)] [(.int (0 : Int32)), (.ref a1)])) rfl rfl (hb hby d2_6)
  have Fw2 := Fld.same W2 Fm
  have N2 := Fr.snoc X2 N0 g_a1
  have K2 : Keep h0 h2 [a1] := KC0.wr W2 (Or.inl (List.mem_of_getElem? (i := 0) rfl))
  refine own_via (g' := (mkF m 9 #[.val (.ref a1)] [])) st2 ?_
  have C_3 : Exa Z h2 a1 "java/util/ArrayList" := (Exa.wr W2 E1)
  have F_4 : Fld Z h2 a1 "java/util/ArrayList" "elementData" "[Ljava/lang/Object;" .null := (Fld.other W2 Fe (Or.inr (slot_ne (Or.inl (hw _ (List.mem_of_getElem? (i := 29) rfl))) (Or.inl (hw _ (List.mem_of_getElem? (i := 26) rfl))) (by decide) (t := (.array (.object "java/lang/Object"))) (t' := .int) (by decide) (by decide))))
  have F_5 : Fld Z h2 a1 "java/util/ArrayList" "size" "I" (.int (0 : Int32)) := (Fld.other W2 Fs (Or.inr (slot_ne (Or.inl (hw _ (List.mem_of_getElem? (i := 55) rfl))) (Or.inl (hw _ (List.mem_of_getElem? (i := 26) rfl))) (by decide) (t := .int) (t' := .int) (by decide) (by decide))))
  exact own_retV X2 hx hret hlk (hb hby d2_9) e2 (by exact ⟨rfl, N2, K2, C_3, Fw2, F_4, F_5⟩) (by decide) (by decide)
theorem d1_0 : decode jdk_38_method_2_code 0 = .ok (.aload_n 0, 1) := by decide +kernel
theorem d1_1 : decode jdk_38_method_2_code 1 = .ok (.invokespecial 1, 3) := by decide +kernel
theorem d1_4 : decode jdk_38_method_2_code 4 = .ok (.aload_n 0, 1) := by decide +kernel
theorem d1_5 : decode jdk_38_method_2_code 5 = .ok (.getstatic 39, 3) := by decide +kernel
theorem d1_8 : decode jdk_38_method_2_code 8 = .ok (.putfield 9, 3) := by decide +kernel
theorem d1_11 : decode jdk_38_method_2_code 11 = .ok (.return_, 1) := by decide +kernel
theorem pn_1 : plainName "java/util/ArrayList" = true := by first | (simp [plainName, overriddenIn]; done) | decide +kernel
set_option maxRecDepth 65536 in
set_option maxHeartbeats 40000000 in
theorem rm1 (l : Launch) (Z : State) (a0 : Array Value) (hw : ∀ d ∈ tables_1, d.before a0 Z = true) (ws : List Jvm.Cond) (a1 ed : Addr) (h0 : Heap) (n0 : Nat) (Z0 : n0 ≤ h0.size) (S_DC : Sta Z h0 "java/util/ArrayList" "DEFAULTCAPACITY_EMPTY_ELEMENTDATA" "[Ljava/lang/Object;" (.ref ed)) (g_a1 : n0 ≤ a1) (E1 : Exa Z h0 a1 "java/util/ArrayList") (Fm : Fld Z h0 a1 "java/util/AbstractList" "modCount" "I" (.int (0 : Int32))) (Fe : Fld Z h0 a1 "java/util/ArrayList" "elementData" "[Ljava/lang/Object;" .null) (Fs : Fld Z h0 a1 "java/util/ArrayList" "size" "I" (.int (0 : Int32))) :
    OMet l (⟨"java/util/ArrayList", "<init>", "()V"⟩ : MethodName) jdk_38_method_2_code 1 none ws ({ frames := 3, cells := 0, slots := 0, locals := 36 } : Room) Z #[(.ref a1)] h0 (fun v h L => v = none ∧ Fr n0 L ∧ Keep h0 h [a1] ∧ Exa Z h a1 "java/util/ArrayList" ∧ Fld Z h a1 "java/util/AbstractList" "modCount" "I" (.int (0 : Int32)) ∧ Fld Z h a1 "java/util/ArrayList" "elementData" "[Ljava/lang/Object;" (.ref ed) ∧ Fld Z h a1 "java/util/ArrayList" "size" "I" (.int (0 : Int32))) := by
  refine own_body (plainFor_of_name pn_1) ?_
  intro p e s m below meth c T0 X0 hx hZ hby hml hown hnm hret hlk e0
  have N0 := Fr.nil n0
  refine own_entry (g' := (mkF m 0 #[.val (.ref a1)] [])) (by first | rfl | (simp [entryFrame, mkF, argsToLocals, Value.category, maxLocals]; done)) ?_
  have KC0 := Keep.refl h0 [a1]
  refine own_step (g' := (mkF m 1 #[.val (.ref a1)] [(.ref a1)])) (fun _ k => XS.aloadN X0.here hx rfl (hb hby d1_0) rfl rfl k) ?_
  refine own_init X0 hx hZ (W := 0) hown e0 (rm2 l Z a0 hw [] a1 h0 n0 Z0 g_a1 E1 Fm Fe Fs) rfl (hw _ (List.mem_of_getElem? (i := 10) rfl)) (hw _ (List.mem_of_getElem? (i := 11) rfl)) (hw _ (List.mem_of_getElem? (i := 15) rfl)) (hw _ (List.mem_of_getElem? (i := 14) rfl)) (by decide) (by decide) (by decide) (g := (mkF m 1 #[.val (.ref a1)] [(.ref a1)])) rfl (by rw [hml]; rfl) (argsL := []) (rest := []) rfl (lenOf pd_0 rfl) rfl (by show 2 * 0 + _ ≤ _; exact Nat.le_of_eq rfl) (hb hby d1_1) (by decide) (by decide) ?_
  intro v1 T1 L1 X1 hQ1
  obtain ⟨rfl, Nq1, Kq1, Ck, Fk1, Fk2, Fk3⟩ := hQ1
  have N1 := Fr.app N0 Nq1
  have K1 : Keep h0 T1.heap [a1] := KC0.trans Kq1 (allS (Or.inl (List.mem_of_getElem? (i := 0) rfl)) all0)
  show OGo p e below _ T1 (mkF m 4 #[.val (.ref a1)] [])
  refine own_step (g' := (mkF m 5 #[.val (.ref a1)] [(.ref a1)])) (fun _ k => XS.aloadN X1.here hx rfl (hb hby d1_4) rfl rfl k) ?_
  have S_2 : Sta Z T1.heap "java/util/ArrayList" "DEFAULTCAPACITY_EMPTY_ELEMENTDATA" "[Ljava/lang/Object;" (.ref ed) := (own_sta_keep S_DC Kq1 (allS (own_nsE E1) all0))
  obtain ⟨T3, X3, e3, st3⟩ := getS2 X1 hx hZ hown (host := "") (Or.inl (hw _ (List.mem_of_getElem? (i := 27) rfl))) Via.refl rfl S_2 (g := (mkF m 5 #[.val (.ref a1)] [(.ref a1)])) rfl (hb hby d1_5)
  refine own_via (g' := (mkF m 8 #[.val (.ref a1)] [(.ref ed), (.ref a1)])) st3 ?_
  obtain ⟨T4, h4, X4, e4, W4, st4⟩ := putF X3 hx hZ hown (host := "") (Or.inl (hw _ (List.mem_of_getElem? (i := 28) rfl))) Via.refl e3 Fk2 Ck (Or.inl (hw _ (List.mem_of_getElem? (i := 29) rfl))) (hw _ (List.mem_of_getElem? (i := 5) rfl)) (ty := (.array (.object "java/lang/Object"))) (by decide) rfl rfl (g := (mkF m 8 #[.val (.ref a1)] [(.ref ed), (.ref a1)])) rfl rfl (hb hby d1_8)
  have Fw4 := Fld.same W4 Fk2
  have N4 := Fr.snoc X4 N1 g_a1
  have K4 : Keep h0 h4 [a1] := K1.wr W4 (Or.inl (List.mem_of_getElem? (i := 0) rfl))
  refine own_via (g' := (mkF m 11 #[.val (.ref a1)] [])) st4 ?_
  have C_5 : Exa Z h4 a1 "java/util/ArrayList" := (Exa.wr W4 Ck)
  have F_6 : Fld Z h4 a1 "java/util/AbstractList" "modCount" "I" (.int (0 : Int32)) := (Fld.other W4 Fk1 (Or.inr (slot_ne (Or.inl (hw _ (List.mem_of_getElem? (i := 26) rfl))) (Or.inl (hw _ (List.mem_of_getElem? (i := 29) rfl))) (by decide) (t := .int) (t' := (.array (.object "java/lang/Object"))) (by decide) (by decide))))
  have F_7 : Fld Z h4 a1 "java/util/ArrayList" "size" "I" (.int (0 : Int32)) := (Fld.other W4 Fk3 (Or.inr (slot_ne (Or.inl (hw _ (List.mem_of_getElem? (i := 55) rfl))) (Or.inl (hw _ (List.mem_of_getElem? (i := 29) rfl))) (by decide) (t := .int) (t' := (.array (.object "java/lang/Object"))) (by decide) (by decide))))
  exact own_retV X4 hx hret hlk (hb hby d1_11) e4 (by exact ⟨rfl, N4, K4, C_5, F_6, Fw4, F_7⟩) (by decide) (by decide)
theorem d8_0 : decode jdk_38_method_12_code 0 = .ok (.aload_n 0, 1) := by decide +kernel
theorem d8_1 : decode jdk_38_method_12_code 1 = .ok (.getfield 9, 3) := by decide +kernel
theorem d8_4 : decode jdk_38_method_12_code 4 = .ok (.astore 4, 2) := by decide +kernel
theorem d8_6 : decode jdk_38_method_12_code 6 = .ok (.aload_n 1, 1) := by decide +kernel
theorem d8_7 : decode jdk_38_method_12_code 7 = .ok (.ifnonnull 32, 3) := by decide +kernel
theorem d8_39 : decode jdk_38_method_12_code 39 = .ok (.iload_n 2, 1) := by decide +kernel
theorem d8_40 : decode jdk_38_method_12_code 40 = .ok (.istore 5, 2) := by decide +kernel
theorem d8_42 : decode jdk_38_method_12_code 42 = .ok (.iload 5, 2) := by decide +kernel
theorem d8_44 : decode jdk_38_method_12_code 44 = .ok (.iload_n 3, 1) := by decide +kernel
theorem d8_45 : decode jdk_38_method_12_code 45 = .ok (.if_icmp .ge 24, 3) := by decide +kernel
theorem d8_69 : decode jdk_38_method_12_code 69 = .ok (.iconst (-1), 1) := by decide +kernel
theorem d8_70 : decode jdk_38_method_12_code 70 = .ok (.ireturn, 1) := by decide +kernel
set_option maxRecDepth 65536 in
set_option maxHeartbeats 40000000 in
theorem rm8 (l : Launch) (Z : State) (a0 : Array Value) (hw : ∀ d ∈ tables_1, d.before a0 Z = true) (ws : List Jvm.Cond) (a1 o2 ed : Addr) (h0 : Heap) (n0 : Nat) (Z0 : n0 ≤ h0.size) (C1 : Exa Z h0 a1 "java/util/ArrayList") (Fe : Fld Z h0 a1 "java/util/ArrayList" "elementData" "[Ljava/lang/Object;" (.ref ed)) (Fs : Fld Z h0 a1 "java/util/ArrayList" "size" "I" (.int (0 : Int32))) :
    OMet l (⟨"java/util/ArrayList", "indexOfRange", "(Ljava/lang/Object;II)I"⟩ : MethodName) jdk_38_method_12_code 6 (some .int) ws ({ frames := 0, cells := 0, slots := 0, locals := 0 } : Room) Z #[(.ref a1), (.ref o2), (.int (0 : Int32)), (.int (0 : Int32))] h0 (fun v h L => v = some (.int (-1 : Int32)) ∧ L = [] ∧ h = h0) := by
  refine own_body (plainFor_of_name pn_1) ?_
  intro p e s m below meth c T0 X0 hx hZ hby hml hown hnm hret hlk e0
  have N0 := Fr.nil n0
  refine own_entry (g' := (mkF m 0 #[.val (.ref a1), .val (.ref o2), .val (.int (0 : Int32)), .val (.int (0 : Int32)), .unset, .unset] [])) (by first | rfl | (simp [entryFrame, mkF, argsToLocals, Value.category, maxLocals]; done)) ?_
  refine own_step (g' := (mkF m 1 #[.val (.ref a1), .val (.ref o2), .val (.int (0 : Int32)), .val (.int (0 : Int32)), .unset, .unset] [(.ref a1)])) (fun _ k => XS.aloadN X0.here hx rfl (hb hby d8_0) rfl rfl k) ?_
  obtain ⟨T1, X1, e1, st1⟩ := getF X0 hx hZ hown (host := "") (Or.inl (hw _ (List.mem_of_getElem? (i := 28) rfl))) Via.refl e0 Fe (g := (mkF m 1 #[.val (.ref a1), .val (.ref o2), .val (.int (0 : Int32)), .val (.int (0 : Int32)), .unset, .unset] [(.ref a1)])) rfl rfl (hb hby d8_1)
  refine own_via (g' := (mkF m 4 #[.val (.ref a1), .val (.ref o2), .val (.int (0 : Int32)), .val (.int (0 : Int32)), .unset, .unset] [(.ref ed)])) st1 ?_
  refine own_step (g' := (mkF m 6 #[.val (.ref a1), .val (.ref o2), .val (.int (0 : Int32)), .val (.int (0 : Int32)), .val (.ref ed), .unset] [])) (fun _ k => XS.astore X1.here hx rfl (hb hby d8_4) rfl rfl (l' := #[.val (.ref a1), .val (.ref o2), .val (.int (0 : Int32)), .val (.int (0 : Int32)), .val (.ref ed), .unset]) rfl k) ?_
  refine own_step (g' := (mkF m 7 #[.val (.ref a1), .val (.ref o2), .val (.int (0 : Int32)), .val (.int (0 : Int32)), .val (.ref ed), .unset] [(.ref o2)])) (fun _ k => XS.aloadN X1.here hx rfl (hb hby d8_6) rfl rfl k) ?_
  refine own_step (g' := (mkF m 39 #[.val (.ref a1), .val (.ref o2), .val (.int (0 : Int32)), .val (.int (0 : Int32)), .val (.ref ed), .unset] [])) (fun _ k => XS.ifnonnullYes X1.here hx rfl (pc0 := 7) (pc' := 39) rfl (hb hby d8_7) rfl (by decide) (by decide) k) ?_
  refine own_step (g' := (mkF m 40 #[.val (.ref a1), .val (.ref o2), .val (.int (0 : Int32)), .val (.int (0 : Int32)), .val (.ref ed), .unset] [(.int (0 : Int32))])) (fun _ k => XS.iloadN X1.here hx rfl (hb hby d8_39) rfl k) ?_
  refine own_step (g' := (mkF m 42 #[.val (.ref a1), .val (.ref o2), .val (.int (0 : Int32)), .val (.int (0 : Int32)), .val (.ref ed), .val (.int (0 : Int32))] [])) (fun _ k => XS.istore X1.here hx rfl (hb hby d8_40) rfl (l' := #[.val (.ref a1), .val (.ref o2), .val (.int (0 : Int32)), .val (.int (0 : Int32)), .val (.ref ed), .val (.int (0 : Int32))]) rfl k) ?_
  refine own_step (g' := (mkF m 44 #[.val (.ref a1), .val (.ref o2), .val (.int (0 : Int32)), .val (.int (0 : Int32)), .val (.ref ed), .val (.int (0 : Int32))] [(.int (0 : Int32))])) (fun _ k => XS.iload X1.here hx rfl (hb hby d8_42) rfl k) ?_
  refine own_step (g' := (mkF m 45 #[.val (.ref a1), .val (.ref o2), .val (.int (0 : Int32)), .val (.int (0 : Int32)), .val (.ref ed), .val (.int (0 : Int32))] [(.int (0 : Int32)), (.int (0 : Int32))])) (fun _ k => XS.iloadN X1.here hx rfl (hb hby d8_44) rfl k) ?_
  refine own_step (g' := (mkF m 69 #[.val (.ref a1), .val (.ref o2), .val (.int (0 : Int32)), .val (.int (0 : Int32)), .val (.ref ed), .val (.int (0 : Int32))] [])) (fun _ k => XS.icmpYes X1.here hx rfl (pc0 := 45) (pc' := 69) rfl (hb hby d8_45) rfl (flt (by decide : ¬ ((0 : Int32) < (0 : Int32)))).2.1 (by decide) (by decide) k) ?_
  refine own_step (g' := (mkF m 70 #[.val (.ref a1), .val (.ref o2), .val (.int (0 : Int32)), .val (.int (0 : Int32)), .val (.ref ed), .val (.int (0 : Int32))] [(.int (-1 : Int32))])) (fun _ k => XS.iconst X1.here hx rfl (hb hby d8_69) k) ?_
  exact own_retI X1 hx hret hlk (hb hby d8_70) e1 (by exact ⟨rfl, rfl, rfl⟩) (by decide) (by decide)
theorem d7_0 : decode jdk_38_method_11_code 0 = .ok (.aload_n 0, 1) := by decide +kernel
theorem d7_1 : decode jdk_38_method_11_code 1 = .ok (.aload_n 1, 1) := by decide +kernel
theorem d7_2 : decode jdk_38_method_11_code 2 = .ok (.iconst 0, 1) := by decide +kernel
theorem d7_3 : decode jdk_38_method_11_code 3 = .ok (.aload_n 0, 1) := by decide +kernel
theorem d7_4 : decode jdk_38_method_11_code 4 = .ok (.getfield 48, 3) := by decide +kernel
theorem d7_7 : decode jdk_38_method_11_code 7 = .ok (.invokevirtual 89, 3) := by decide +kernel
theorem d7_10 : decode jdk_38_method_11_code 10 = .ok (.ireturn, 1) := by decide +kernel
theorem pd_1 : parseMethodDescriptor "(Ljava/lang/Object;II)I" = some ⟨[(.object "java/lang/Object"), .int, .int], some .int⟩ := by decide +kernel
set_option maxRecDepth 65536 in
set_option maxHeartbeats 40000000 in
theorem rm7 (l : Launch) (Z : State) (a0 : Array Value) (hw : ∀ d ∈ tables_1, d.before a0 Z = true) (ws : List Jvm.Cond) (a1 o2 ed : Addr) (h0 : Heap) (n0 : Nat) (Z0 : n0 ≤ h0.size) (C1 : Exa Z h0 a1 "java/util/ArrayList") (Fe : Fld Z h0 a1 "java/util/ArrayList" "elementData" "[Ljava/lang/Object;" (.ref ed)) (Fs : Fld Z h0 a1 "java/util/ArrayList" "size" "I" (.int (0 : Int32))) :
    OMet l (⟨"java/util/ArrayList", "indexOf", "(Ljava/lang/Object;)I"⟩ : MethodName) jdk_38_method_11_code 2 (some .int) ws ({ frames := 1, cells := 0, slots := 0, locals := 17 } : Room) Z #[(.ref a1), (.ref o2)] h0 (fun v h L => v = some (.int (-1 : Int32)) ∧ L = [] ∧ h = h0) := by
  refine own_body (plainFor_of_name pn_1) ?_
  intro p e s m below meth c T0 X0 hx hZ hby hml hown hnm hret hlk e0
  have N0 := Fr.nil n0
  refine own_entry (g' := (mkF m 0 #[.val (.ref a1), .val (.ref o2)] [])) (by first | rfl | (simp [entryFrame, mkF, argsToLocals, Value.category, maxLocals]; done)) ?_
  refine own_step (g' := (mkF m 1 #[.val (.ref a1), .val (.ref o2)] [(.ref a1)])) (fun _ k => XS.aloadN X0.here hx rfl (hb hby d7_0) rfl rfl k) ?_
  refine own_step (g' := (mkF m 2 #[.val (.ref a1), .val (.ref o2)] [(.ref o2), (.ref a1)])) (fun _ k => XS.aloadN X0.here hx rfl (hb hby d7_1) rfl rfl k) ?_
  refine own_step (g' := (mkF m 3 #[.val (.ref a1), .val (.ref o2)] [(.int (0 : Int32)), (.ref o2), (.ref a1)])) (fun _ k => XS.iconst X0.here hx rfl (hb hby d7_2) k) ?_
  refine own_step (g' := (mkF m 4 #[.val (.ref a1), .val (.ref o2)] [(.ref a1), (.int (0 : Int32)), (.ref o2), (.ref a1)])) (fun _ k => XS.aloadN X0.here hx rfl (hb hby d7_3) rfl rfl k) ?_
  obtain ⟨T1, X1, e1, st1⟩ := getF X0 hx hZ hown (host := "") (Or.inl (hw _ (List.mem_of_getElem? (i := 54) rfl))) Via.refl e0 Fs (g := (mkF m 4 #[.val (.ref a1), .val (.ref o2)] [(.ref a1), (.int (0 : Int32)), (.ref o2), (.ref a1)])) rfl rfl (hb hby d7_4)
  refine own_via (g' := (mkF m 7 #[.val (.ref a1), .val (.ref o2)] [(.int (0 : Int32)), (.int (0 : Int32)), (.ref o2), (.ref a1)])) st1 ?_
  refine own_callV X1 hx hZ (W := 0) hown e1 (rm8 l Z a0 hw [] a1 o2 ed h0 n0 Z0 C1 Fe Fs) C1 (hw _ (List.mem_of_getElem? (i := 56) rfl)) (hw _ (List.mem_of_getElem? (i := 57) rfl)) (notFace_of_selects (args := #[]) (mvT hZ (hw _ (List.mem_of_getElem? (i := 59) rfl)))) (hw _ (List.mem_of_getElem? (i := 59) rfl)) (hw _ (List.mem_of_getElem? (i := 58) rfl)) (hw _ (List.mem_of_getElem? (i := 60) rfl)) (hw _ (List.mem_of_getElem? (i := 6) rfl)) (by decide) (by decide) (by decide) (g := (mkF m 7 #[.val (.ref a1), .val (.ref o2)] [(.int (0 : Int32)), (.int (0 : Int32)), (.ref o2), (.ref a1)])) rfl (by rw [hml]; rfl) (argsL := [(.ref o2), (.int (0 : Int32)), (.int (0 : Int32))]) (rest := []) rfl (lenOf pd_1 rfl) rfl (by show 2 * 0 + _ ≤ _; exact Nat.le_of_eq rfl) (hb hby d7_7) (by decide) (by decide) ?_
  intro v2 T2 L2 X2 hQ2
  obtain ⟨rfl, rfl, e2⟩ := hQ2
  replace X2 := own_pureX X2
  show OGo p e below _ T2 (mkF m 10 #[.val (.ref a1), .val (.ref o2)] [(.int (-1 : Int32))])
  exact own_retI X2 hx hret hlk (hb hby d7_10) e2 (by exact ⟨rfl, rfl, rfl⟩) (by decide) (by decide)
theorem d6_0 : decode jdk_38_method_10_code 0 = .ok (.aload_n 0, 1) := by decide +kernel
theorem d6_1 : decode jdk_38_method_10_code 1 = .ok (.aload_n 1, 1) := by decide +kernel
theorem d6_2 : decode jdk_38_method_10_code 2 = .ok (.invokevirtual 85, 3) := by decide +kernel
theorem d6_5 : decode jdk_38_method_10_code 5 = .ok (.ifCond .lt 7, 3) := by decide +kernel
theorem d6_12 : decode jdk_38_method_10_code 12 = .ok (.iconst 0, 1) := by decide +kernel
theorem d6_13 : decode jdk_38_method_10_code 13 = .ok (.ireturn, 1) := by decide +kernel
theorem pd_2 : parseMethodDescriptor "(Ljava/lang/Object;)I" = some ⟨[(.object "java/lang/Object")], some .int⟩ := by decide +kernel
set_option maxRecDepth 65536 in
set_option maxHeartbeats 40000000 in
theorem rm6 (l : Launch) (Z : State) (a0 : Array Value) (hw : ∀ d ∈ tables_1, d.before a0 Z = true) (ws : List Jvm.Cond) (a1 o2 ed : Addr) (h0 : Heap) (n0 : Nat) (Z0 : n0 ≤ h0.size) (C1 : Exa Z h0 a1 "java/util/ArrayList") (Fe : Fld Z h0 a1 "java/util/ArrayList" "elementData" "[Ljava/lang/Object;" (.ref ed)) (Fs : Fld Z h0 a1 "java/util/ArrayList" "size" "I" (.int (0 : Int32))) :
    OMet l (⟨"java/util/ArrayList", "contains", "(Ljava/lang/Object;)Z"⟩ : MethodName) jdk_38_method_10_code 2 (some .boolean) ws ({ frames := 2, cells := 0, slots := 0, locals := 30 } : Room) Z #[(.ref a1), (.ref o2)] h0 (fun v h L => v = some (.int (0 : Int32)) ∧ L = [] ∧ h = h0) := by
  refine own_body (plainFor_of_name pn_1) ?_
  intro p e s m below meth c T0 X0 hx hZ hby hml hown hnm hret hlk e0
  have N0 := Fr.nil n0
  refine own_entry (g' := (mkF m 0 #[.val (.ref a1), .val (.ref o2)] [])) (by first | rfl | (simp [entryFrame, mkF, argsToLocals, Value.category, maxLocals]; done)) ?_
  refine own_step (g' := (mkF m 1 #[.val (.ref a1), .val (.ref o2)] [(.ref a1)])) (fun _ k => XS.aloadN X0.here hx rfl (hb hby d6_0) rfl rfl k) ?_
  refine own_step (g' := (mkF m 2 #[.val (.ref a1), .val (.ref o2)] [(.ref o2), (.ref a1)])) (fun _ k => XS.aloadN X0.here hx rfl (hb hby d6_1) rfl rfl k) ?_
  refine own_callV X0 hx hZ (W := 0) hown e0 (rm7 l Z a0 hw [] a1 o2 ed h0 n0 Z0 C1 Fe Fs) C1 (hw _ (List.mem_of_getElem? (i := 49) rfl)) (hw _ (List.mem_of_getElem? (i := 50) rfl)) (notFace_of_selects (args := #[]) (mvT hZ (hw _ (List.mem_of_getElem? (i := 52) rfl)))) (hw _ (List.mem_of_getElem? (i := 52) rfl)) (hw _ (List.mem_of_getElem? (i := 51) rfl)) (hw _ (List.mem_of_getElem? (i := 53) rfl)) (hw _ (List.mem_of_getElem? (i := 6) rfl)) (by decide) (by decide) (by decide) (g := (mkF m 2 #[.val (.ref a1), .val (.ref o2)] [(.ref o2), (.ref a1)])) rfl (by rw [hml]; rfl) (argsL := [(.ref o2)]) (rest := []) rfl (lenOf pd_2 rfl) rfl (by show 2 * 0 + _ ≤ _; exact Nat.le_of_eq rfl) (hb hby d6_2) (by decide) (by decide) ?_
  intro v1 T1 L1 X1 hQ1
  obtain ⟨rfl, rfl, e1⟩ := hQ1
  replace X1 := own_pureX X1
  show OGo p e below _ T1 (mkF m 5 #[.val (.ref a1), .val (.ref o2)] [(.int (-1 : Int32))])
  refine own_step (g' := (mkF m 12 #[.val (.ref a1), .val (.ref o2)] [])) (fun _ k => XS.ifYes X1.here hx rfl (pc0 := 5) (pc' := 12) rfl (hb hby d6_5) rfl ((if0 _ _).trans (tlt (by decide : (-1 : Int32) < (0 : Int32))).1) (by decide) (by decide) k) ?_
  refine own_step (g' := (mkF m 13 #[.val (.ref a1), .val (.ref o2)] [(.int (0 : Int32))])) (fun _ k => XS.iconst X1.here hx rfl (hb hby d6_12) k) ?_
  exact own_retN X1 hx (t := .boolean) hret (by simp) hlk (hb hby d6_13) e1 (by exact ⟨rfl, rfl, rfl⟩) (by decide) (by decide)
theorem d5_0 : decode prog_28_method_5_code 0 = .ok (.iload_n 2, 1) := by decide +kernel
theorem d5_1 : decode prog_28_method_5_code 1 = .ok (.ifCond .ne 15, 3) := by decide +kernel
theorem d5_16 : decode prog_28_method_5_code 16 = .ok (.aload_n 0, 1) := by decide +kernel
theorem d5_17 : decode prog_28_method_5_code 17 = .ok (.getfield 36, 3) := by decide +kernel
theorem d5_20 : decode prog_28_method_5_code 20 = .ok (.goto 7, 3) := by decide +kernel
theorem d5_27 : decode prog_28_method_5_code 27 = .ok (.ireturn, 1) := by decide +kernel
theorem pn_5 : plainName "com/example/nowait/nowait/Strategy" = true := by first | (simp [plainName, overriddenIn]; done) | decide +kernel
set_option maxRecDepth 65536 in
set_option maxHeartbeats 40000000 in
theorem rm5_00_1 (l : Launch) (Z : State) (a0 : Array Value) (hw : ∀ d ∈ tables_1, d.before a0 Z = true) (ws : List Jvm.Cond) (t1 a1 o2 ed : Addr) (h0 : Heap) (n0 : Nat) (Z0 : n0 ≤ h0.size) (Fa : Fld Z h0 t1 "com/example/nowait/nowait/Strategy" "locksAfterConflict" "Z" (.int (0 : Int32))) (Fb : Fld Z h0 t1 "com/example/nowait/nowait/Strategy" "locksBeforeConflict" "Z" (.int (0 : Int32))) (C1 : Exa Z h0 a1 "java/util/ArrayList") (Fe : Fld Z h0 a1 "java/util/ArrayList" "elementData" "[Ljava/lang/Object;" (.ref ed)) (Fs : Fld Z h0 a1 "java/util/ArrayList" "size" "I" (.int (0 : Int32))) (S_CONFLICT : Sta Z h0 "com/example/nowait/nowait/FailureKind" "CONFLICT" "Lcom/example/nowait/nowait/FailureKind;" (.ref o2)) :
    OMet l (⟨"com/example/nowait/nowait/Strategy", "locksRow", "(Ljava/util/List;Z)Z"⟩ : MethodName) prog_28_method_5_code 3 (some .boolean) ws ({ frames := 0, cells := 0, slots := 0, locals := 0 } : Room) Z #[(.ref t1), (.ref a1), (.int (1 : Int32))] h0 (fun v h L => v = some (.int (0 : Int32)) ∧ L = [] ∧ h = h0) := by
  refine own_body (plainFor_of_name pn_5) ?_
  intro p e s m below meth c T0 X0 hx hZ hby hml hown hnm hret hlk e0
  have N0 := Fr.nil n0
  refine own_entry (g' := (mkF m 0 #[.val (.ref t1), .val (.ref a1), .val (.int (1 : Int32))] [])) (by first | rfl | (simp [entryFrame, mkF, argsToLocals, Value.category, maxLocals]; done)) ?_
  refine own_step (g' := (mkF m 1 #[.val (.ref t1), .val (.ref a1), .val (.int (1 : Int32))] [(.int (1 : Int32))])) (fun _ k => XS.iloadN X0.here hx rfl (hb hby d5_0) rfl k) ?_
  refine own_step (g' := (mkF m 16 #[.val (.ref t1), .val (.ref a1), .val (.int (1 : Int32))] [])) (fun _ k => XS.ifYes X0.here hx rfl (pc0 := 1) (pc' := 16) rfl (hb hby d5_1) rfl ((if0 _ _).trans (feq (by decide : ¬ ((1 : Int32) = (0 : Int32)))).2) (by decide) (by decide) k) ?_
  refine own_step (g' := (mkF m 17 #[.val (.ref t1), .val (.ref a1), .val (.int (1 : Int32))] [(.ref t1)])) (fun _ k => XS.aloadN X0.here hx rfl (hb hby d5_16) rfl rfl k) ?_
  obtain ⟨T1, X1, e1, st1⟩ := getF X0 hx hZ hown (host := "") (Or.inl (hw _ (List.mem_of_getElem? (i := 35) rfl))) Via.refl e0 Fa (g := (mkF m 17 #[.val (.ref t1), .val (.ref a1), .val (.int (1 : Int32))] [(.ref t1)])) rfl rfl (hb hby d5_17)
  refine own_via (g' := (mkF m 20 #[.val (.ref t1), .val (.ref a1), .val (.int (1 : Int32))] [(.int (0 : Int32))])) st1 ?_
  refine own_step (g' := (mkF m 27 #[.val (.ref t1), .val (.ref a1), .val (.int (1 : Int32))] [(.int (0 : Int32))])) (fun _ k => XS.goto X1.here hx rfl (pc0 := 20) (pc' := 27) rfl (hb hby d5_20) (by decide) (by decide) k) ?_
  exact own_retN X1 hx (t := .boolean) hret (by simp) hlk (hb hby d5_27) e1 (by exact ⟨rfl, rfl, rfl⟩) (by decide) (by decide)
theorem d5_4 : decode prog_28_method_5_code 4 = .ok (.aload_n 1, 1) := by decide +kernel
theorem d5_5 : decode prog_28_method_5_code 5 = .ok (.getstatic 39, 3) := by decide +kernel
theorem d5_8 : decode prog_28_method_5_code 8 = .ok (.invokeinterface 45 2, 5) := by decide +kernel
theorem d5_13 : decode prog_28_method_5_code 13 = .ok (.ifCond .eq 10, 3) := by decide +kernel
theorem d5_23 : decode prog_28_method_5_code 23 = .ok (.aload_n 0, 1) := by decide +kernel
theorem d5_24 : decode prog_28_method_5_code 24 = .ok (.getfield 32, 3) := by decide +kernel
theorem pd_3 : parseMethodDescriptor "(Ljava/lang/Object;)Z" = some ⟨[(.object "java/lang/Object")], some .boolean⟩ := by decide +kernel
set_option maxRecDepth 65536 in
set_option maxHeartbeats 40000000 in
theorem rm5_00_0 (l : Launch) (Z : State) (a0 : Array Value) (hw : ∀ d ∈ tables_1, d.before a0 Z = true) (ws : List Jvm.Cond) (t1 a1 o2 ed : Addr) (h0 : Heap) (n0 : Nat) (Z0 : n0 ≤ h0.size) (Fa : Fld Z h0 t1 "com/example/nowait/nowait/Strategy" "locksAfterConflict" "Z" (.int (0 : Int32))) (Fb : Fld Z h0 t1 "com/example/nowait/nowait/Strategy" "locksBeforeConflict" "Z" (.int (0 : Int32))) (C1 : Exa Z h0 a1 "java/util/ArrayList") (Fe : Fld Z h0 a1 "java/util/ArrayList" "elementData" "[Ljava/lang/Object;" (.ref ed)) (Fs : Fld Z h0 a1 "java/util/ArrayList" "size" "I" (.int (0 : Int32))) (S_CONFLICT : Sta Z h0 "com/example/nowait/nowait/FailureKind" "CONFLICT" "Lcom/example/nowait/nowait/FailureKind;" (.ref o2)) :
    OMet l (⟨"com/example/nowait/nowait/Strategy", "locksRow", "(Ljava/util/List;Z)Z"⟩ : MethodName) prog_28_method_5_code 3 (some .boolean) ws ({ frames := 3, cells := 0, slots := 0, locals := 43 } : Room) Z #[(.ref t1), (.ref a1), (.int (0 : Int32))] h0 (fun v h L => v = some (.int (0 : Int32)) ∧ L = [] ∧ h = h0) := by
  refine own_body (plainFor_of_name pn_5) ?_
  intro p e s m below meth c T0 X0 hx hZ hby hml hown hnm hret hlk e0
  have N0 := Fr.nil n0
  refine own_entry (g' := (mkF m 0 #[.val (.ref t1), .val (.ref a1), .val (.int (0 : Int32))] [])) (by first | rfl | (simp [entryFrame, mkF, argsToLocals, Value.category, maxLocals]; done)) ?_
  refine own_step (g' := (mkF m 1 #[.val (.ref t1), .val (.ref a1), .val (.int (0 : Int32))] [(.int (0 : Int32))])) (fun _ k => XS.iloadN X0.here hx rfl (hb hby d5_0) rfl k) ?_
  refine own_step (g' := (mkF m 4 #[.val (.ref t1), .val (.ref a1), .val (.int (0 : Int32))] [])) (fun _ k => XS.ifNo X0.here hx rfl (hb hby d5_1) rfl ((if0 _ _).trans (teq (by decide : (0 : Int32) = (0 : Int32))).2) k) ?_
  refine own_step (g' := (mkF m 5 #[.val (.ref t1), .val (.ref a1), .val (.int (0 : Int32))] [(.ref a1)])) (fun _ k => XS.aloadN X0.here hx rfl (hb hby d5_4) rfl rfl k) ?_
  obtain ⟨T1, X1, e1, st1⟩ := getS2 X0 hx hZ hown (host := "") (Or.inl (hw _ (List.mem_of_getElem? (i := 37) rfl))) Via.refl e0 S_CONFLICT (g := (mkF m 5 #[.val (.ref t1), .val (.ref a1), .val (.int (0 : Int32))] [(.ref a1)])) rfl (hb hby d5_5)
  refine own_via (g' := (mkF m 8 #[.val (.ref t1), .val (.ref a1), .val (.int (0 : Int32))] [(.ref o2), (.ref a1)])) st1 ?_
  refine own_callI X1 hx hZ (W := 0) hown e1 (rm6 l Z a0 hw [] a1 o2 ed h0 n0 Z0 C1 Fe Fs) C1 (hw _ (List.mem_of_getElem? (i := 40) rfl)) (hw _ (List.mem_of_getElem? (i := 41) rfl)) (mvT hZ (hw _ (List.mem_of_getElem? (i := 42) rfl))) (hw _ (List.mem_of_getElem? (i := 43) rfl)) (hw _ (List.mem_of_getElem? (i := 44) rfl)) (hw _ (List.mem_of_getElem? (i := 45) rfl)) (hw _ (List.mem_of_getElem? (i := 46) rfl)) (hw _ (List.mem_of_getElem? (i := 47) rfl)) (hw _ (List.mem_of_getElem? (i := 48) rfl)) (hw _ (List.mem_of_getElem? (i := 6) rfl)) (by decide) (by decide) (by decide) (g := (mkF m 8 #[.val (.ref t1), .val (.ref a1), .val (.int (0 : Int32))] [(.ref o2), (.ref a1)])) rfl (by rw [hml]; rfl) (argsL := [(.ref o2)]) (rest := []) rfl (lenOf pd_3 rfl) rfl (by show 2 * 0 + _ ≤ _; exact Nat.le_of_eq rfl) (hb hby d5_8) (by decide) (by decide) ?_
  intro v2 T2 L2 X2 hQ2
  obtain ⟨rfl, rfl, e2⟩ := hQ2
  replace X2 := own_pureX X2
  show OGo p e below _ T2 (mkF m 13 #[.val (.ref t1), .val (.ref a1), .val (.int (0 : Int32))] [(.int (0 : Int32))])
  refine own_step (g' := (mkF m 23 #[.val (.ref t1), .val (.ref a1), .val (.int (0 : Int32))] [])) (fun _ k => XS.ifYes X2.here hx rfl (pc0 := 13) (pc' := 23) rfl (hb hby d5_13) rfl ((if0 _ _).trans (teq (by decide : (0 : Int32) = (0 : Int32))).1) (by decide) (by decide) k) ?_
  refine own_step (g' := (mkF m 24 #[.val (.ref t1), .val (.ref a1), .val (.int (0 : Int32))] [(.ref t1)])) (fun _ k => XS.aloadN X2.here hx rfl (hb hby d5_23) rfl rfl k) ?_
  obtain ⟨T3, X3, e3, st3⟩ := getF X2 hx hZ hown (host := "") (Or.inl (hw _ (List.mem_of_getElem? (i := 61) rfl))) Via.refl e2 Fb (g := (mkF m 24 #[.val (.ref t1), .val (.ref a1), .val (.int (0 : Int32))] [(.ref t1)])) rfl rfl (hb hby d5_24)
  refine own_via (g' := (mkF m 27 #[.val (.ref t1), .val (.ref a1), .val (.int (0 : Int32))] [(.int (0 : Int32))])) st3 ?_
  exact own_retN X3 hx (t := .boolean) hret (by simp) hlk (hb hby d5_27) e3 (by exact ⟨rfl, rfl, rfl⟩) (by decide) (by decide)
theorem d9_0 : decode prog_28_method_4_code 0 = .ok (.aload_n 0, 1) := by decide +kernel
theorem d9_1 : decode prog_28_method_4_code 1 = .ok (.getfield 36, 3) := by decide +kernel
theorem d9_4 : decode prog_28_method_4_code 4 = .ok (.ifCond .eq 14, 3) := by decide +kernel
theorem d9_18 : decode prog_28_method_4_code 18 = .ok (.iconst 0, 1) := by decide +kernel
theorem d9_19 : decode prog_28_method_4_code 19 = .ok (.ireturn, 1) := by decide +kernel
set_option maxRecDepth 65536 in
set_option maxHeartbeats 40000000 in
theorem rm9_00 (l : Launch) (Z : State) (a0 : Array Value) (hw : ∀ d ∈ tables_1, d.before a0 Z = true) (ws : List Jvm.Cond) (t1 : Addr) (h0 : Heap) (n0 : Nat) (Z0 : n0 ≤ h0.size) (Fa : Fld Z h0 t1 "com/example/nowait/nowait/Strategy" "locksAfterConflict" "Z" (.int (0 : Int32))) (Fb : Fld Z h0 t1 "com/example/nowait/nowait/Strategy" "locksBeforeConflict" "Z" (.int (0 : Int32))) :
    OMet l (⟨"com/example/nowait/nowait/Strategy", "heedsRecentConflicts", "()Z"⟩ : MethodName) prog_28_method_4_code 1 (some .boolean) ws ({ frames := 0, cells := 0, slots := 0, locals := 0 } : Room) Z #[(.ref t1)] h0 (fun v h L => v = some (.int (0 : Int32)) ∧ L = [] ∧ h = h0) := by
  refine own_body (plainFor_of_name pn_5) ?_
  intro p e s m below meth c T0 X0 hx hZ hby hml hown hnm hret hlk e0
  have N0 := Fr.nil n0
  refine own_entry (g' := (mkF m 0 #[.val (.ref t1)] [])) (by first | rfl | (simp [entryFrame, mkF, argsToLocals, Value.category, maxLocals]; done)) ?_
  refine own_step (g' := (mkF m 1 #[.val (.ref t1)] [(.ref t1)])) (fun _ k => XS.aloadN X0.here hx rfl (hb hby d9_0) rfl rfl k) ?_
  obtain ⟨T1, X1, e1, st1⟩ := getF X0 hx hZ hown (host := "") (Or.inl (hw _ (List.mem_of_getElem? (i := 35) rfl))) Via.refl e0 Fa (g := (mkF m 1 #[.val (.ref t1)] [(.ref t1)])) rfl rfl (hb hby d9_1)
  refine own_via (g' := (mkF m 4 #[.val (.ref t1)] [(.int (0 : Int32))])) st1 ?_
  refine own_step (g' := (mkF m 18 #[.val (.ref t1)] [])) (fun _ k => XS.ifYes X1.here hx rfl (pc0 := 4) (pc' := 18) rfl (hb hby d9_4) rfl ((if0 _ _).trans (teq (by decide : (0 : Int32) = (0 : Int32))).1) (by decide) (by decide) k) ?_
  refine own_step (g' := (mkF m 19 #[.val (.ref t1)] [(.int (0 : Int32))])) (fun _ k => XS.iconst X1.here hx rfl (hb hby d9_18) k) ?_
  exact own_retN X1 hx (t := .boolean) hret (by simp) hlk (hb hby d9_19) e1 (by exact ⟨rfl, rfl, rfl⟩) (by decide) (by decide)
set_option maxRecDepth 65536 in
set_option maxHeartbeats 40000000 in
theorem rm5_11_1 (l : Launch) (Z : State) (a0 : Array Value) (hw : ∀ d ∈ tables_1, d.before a0 Z = true) (ws : List Jvm.Cond) (t1 a1 o2 ed : Addr) (h0 : Heap) (n0 : Nat) (Z0 : n0 ≤ h0.size) (Fa : Fld Z h0 t1 "com/example/nowait/nowait/Strategy" "locksAfterConflict" "Z" (.int (1 : Int32))) (Fb : Fld Z h0 t1 "com/example/nowait/nowait/Strategy" "locksBeforeConflict" "Z" (.int (1 : Int32))) (C1 : Exa Z h0 a1 "java/util/ArrayList") (Fe : Fld Z h0 a1 "java/util/ArrayList" "elementData" "[Ljava/lang/Object;" (.ref ed)) (Fs : Fld Z h0 a1 "java/util/ArrayList" "size" "I" (.int (0 : Int32))) (S_CONFLICT : Sta Z h0 "com/example/nowait/nowait/FailureKind" "CONFLICT" "Lcom/example/nowait/nowait/FailureKind;" (.ref o2)) :
    OMet l (⟨"com/example/nowait/nowait/Strategy", "locksRow", "(Ljava/util/List;Z)Z"⟩ : MethodName) prog_28_method_5_code 3 (some .boolean) ws ({ frames := 0, cells := 0, slots := 0, locals := 0 } : Room) Z #[(.ref t1), (.ref a1), (.int (1 : Int32))] h0 (fun v h L => v = some (.int (1 : Int32)) ∧ L = [] ∧ h = h0) := by
  refine own_body (plainFor_of_name pn_5) ?_
  intro p e s m below meth c T0 X0 hx hZ hby hml hown hnm hret hlk e0
  have N0 := Fr.nil n0
  refine own_entry (g' := (mkF m 0 #[.val (.ref t1), .val (.ref a1), .val (.int (1 : Int32))] [])) (by first | rfl | (simp [entryFrame, mkF, argsToLocals, Value.category, maxLocals]; done)) ?_
  refine own_step (g' := (mkF m 1 #[.val (.ref t1), .val (.ref a1), .val (.int (1 : Int32))] [(.int (1 : Int32))])) (fun _ k => XS.iloadN X0.here hx rfl (hb hby d5_0) rfl k) ?_
  refine own_step (g' := (mkF m 16 #[.val (.ref t1), .val (.ref a1), .val (.int (1 : Int32))] [])) (fun _ k => XS.ifYes X0.here hx rfl (pc0 := 1) (pc' := 16) rfl (hb hby d5_1) rfl ((if0 _ _).trans (feq (by decide : ¬ ((1 : Int32) = (0 : Int32)))).2) (by decide) (by decide) k) ?_
  refine own_step (g' := (mkF m 17 #[.val (.ref t1), .val (.ref a1), .val (.int (1 : Int32))] [(.ref t1)])) (fun _ k => XS.aloadN X0.here hx rfl (hb hby d5_16) rfl rfl k) ?_
  obtain ⟨T1, X1, e1, st1⟩ := getF X0 hx hZ hown (host := "") (Or.inl (hw _ (List.mem_of_getElem? (i := 35) rfl))) Via.refl e0 Fa (g := (mkF m 17 #[.val (.ref t1), .val (.ref a1), .val (.int (1 : Int32))] [(.ref t1)])) rfl rfl (hb hby d5_17)
  refine own_via (g' := (mkF m 20 #[.val (.ref t1), .val (.ref a1), .val (.int (1 : Int32))] [(.int (1 : Int32))])) st1 ?_
  refine own_step (g' := (mkF m 27 #[.val (.ref t1), .val (.ref a1), .val (.int (1 : Int32))] [(.int (1 : Int32))])) (fun _ k => XS.goto X1.here hx rfl (pc0 := 20) (pc' := 27) rfl (hb hby d5_20) (by decide) (by decide) k) ?_
  exact own_retN X1 hx (t := .boolean) hret (by simp) hlk (hb hby d5_27) e1 (by exact ⟨rfl, rfl, rfl⟩) (by decide) (by decide)
set_option maxRecDepth 65536 in
set_option maxHeartbeats 40000000 in
theorem rm5_11_0 (l : Launch) (Z : State) (a0 : Array Value) (hw : ∀ d ∈ tables_1, d.before a0 Z = true) (ws : List Jvm.Cond) (t1 a1 o2 ed : Addr) (h0 : Heap) (n0 : Nat) (Z0 : n0 ≤ h0.size) (Fa : Fld Z h0 t1 "com/example/nowait/nowait/Strategy" "locksAfterConflict" "Z" (.int (1 : Int32))) (Fb : Fld Z h0 t1 "com/example/nowait/nowait/Strategy" "locksBeforeConflict" "Z" (.int (1 : Int32))) (C1 : Exa Z h0 a1 "java/util/ArrayList") (Fe : Fld Z h0 a1 "java/util/ArrayList" "elementData" "[Ljava/lang/Object;" (.ref ed)) (Fs : Fld Z h0 a1 "java/util/ArrayList" "size" "I" (.int (0 : Int32))) (S_CONFLICT : Sta Z h0 "com/example/nowait/nowait/FailureKind" "CONFLICT" "Lcom/example/nowait/nowait/FailureKind;" (.ref o2)) :
    OMet l (⟨"com/example/nowait/nowait/Strategy", "locksRow", "(Ljava/util/List;Z)Z"⟩ : MethodName) prog_28_method_5_code 3 (some .boolean) ws ({ frames := 3, cells := 0, slots := 0, locals := 43 } : Room) Z #[(.ref t1), (.ref a1), (.int (0 : Int32))] h0 (fun v h L => v = some (.int (1 : Int32)) ∧ L = [] ∧ h = h0) := by
  refine own_body (plainFor_of_name pn_5) ?_
  intro p e s m below meth c T0 X0 hx hZ hby hml hown hnm hret hlk e0
  have N0 := Fr.nil n0
  refine own_entry (g' := (mkF m 0 #[.val (.ref t1), .val (.ref a1), .val (.int (0 : Int32))] [])) (by first | rfl | (simp [entryFrame, mkF, argsToLocals, Value.category, maxLocals]; done)) ?_
  refine own_step (g' := (mkF m 1 #[.val (.ref t1), .val (.ref a1), .val (.int (0 : Int32))] [(.int (0 : Int32))])) (fun _ k => XS.iloadN X0.here hx rfl (hb hby d5_0) rfl k) ?_
  refine own_step (g' := (mkF m 4 #[.val (.ref t1), .val (.ref a1), .val (.int (0 : Int32))] [])) (fun _ k => XS.ifNo X0.here hx rfl (hb hby d5_1) rfl ((if0 _ _).trans (teq (by decide : (0 : Int32) = (0 : Int32))).2) k) ?_
  refine own_step (g' := (mkF m 5 #[.val (.ref t1), .val (.ref a1), .val (.int (0 : Int32))] [(.ref a1)])) (fun _ k => XS.aloadN X0.here hx rfl (hb hby d5_4) rfl rfl k) ?_
  obtain ⟨T1, X1, e1, st1⟩ := getS2 X0 hx hZ hown (host := "") (Or.inl (hw _ (List.mem_of_getElem? (i := 37) rfl))) Via.refl e0 S_CONFLICT (g := (mkF m 5 #[.val (.ref t1), .val (.ref a1), .val (.int (0 : Int32))] [(.ref a1)])) rfl (hb hby d5_5)
  refine own_via (g' := (mkF m 8 #[.val (.ref t1), .val (.ref a1), .val (.int (0 : Int32))] [(.ref o2), (.ref a1)])) st1 ?_
  refine own_callI X1 hx hZ (W := 0) hown e1 (rm6 l Z a0 hw [] a1 o2 ed h0 n0 Z0 C1 Fe Fs) C1 (hw _ (List.mem_of_getElem? (i := 40) rfl)) (hw _ (List.mem_of_getElem? (i := 41) rfl)) (mvT hZ (hw _ (List.mem_of_getElem? (i := 42) rfl))) (hw _ (List.mem_of_getElem? (i := 43) rfl)) (hw _ (List.mem_of_getElem? (i := 44) rfl)) (hw _ (List.mem_of_getElem? (i := 45) rfl)) (hw _ (List.mem_of_getElem? (i := 46) rfl)) (hw _ (List.mem_of_getElem? (i := 47) rfl)) (hw _ (List.mem_of_getElem? (i := 48) rfl)) (hw _ (List.mem_of_getElem? (i := 6) rfl)) (by decide) (by decide) (by decide) (g := (mkF m 8 #[.val (.ref t1), .val (.ref a1), .val (.int (0 : Int32))] [(.ref o2), (.ref a1)])) rfl (by rw [hml]; rfl) (argsL := [(.ref o2)]) (rest := []) rfl (lenOf pd_3 rfl) rfl (by show 2 * 0 + _ ≤ _; exact Nat.le_of_eq rfl) (hb hby d5_8) (by decide) (by decide) ?_
  intro v2 T2 L2 X2 hQ2
  obtain ⟨rfl, rfl, e2⟩ := hQ2
  replace X2 := own_pureX X2
  show OGo p e below _ T2 (mkF m 13 #[.val (.ref t1), .val (.ref a1), .val (.int (0 : Int32))] [(.int (0 : Int32))])
  refine own_step (g' := (mkF m 23 #[.val (.ref t1), .val (.ref a1), .val (.int (0 : Int32))] [])) (fun _ k => XS.ifYes X2.here hx rfl (pc0 := 13) (pc' := 23) rfl (hb hby d5_13) rfl ((if0 _ _).trans (teq (by decide : (0 : Int32) = (0 : Int32))).1) (by decide) (by decide) k) ?_
  refine own_step (g' := (mkF m 24 #[.val (.ref t1), .val (.ref a1), .val (.int (0 : Int32))] [(.ref t1)])) (fun _ k => XS.aloadN X2.here hx rfl (hb hby d5_23) rfl rfl k) ?_
  obtain ⟨T3, X3, e3, st3⟩ := getF X2 hx hZ hown (host := "") (Or.inl (hw _ (List.mem_of_getElem? (i := 61) rfl))) Via.refl e2 Fb (g := (mkF m 24 #[.val (.ref t1), .val (.ref a1), .val (.int (0 : Int32))] [(.ref t1)])) rfl rfl (hb hby d5_24)
  refine own_via (g' := (mkF m 27 #[.val (.ref t1), .val (.ref a1), .val (.int (0 : Int32))] [(.int (1 : Int32))])) st3 ?_
  exact own_retN X3 hx (t := .boolean) hret (by simp) hlk (hb hby d5_27) e3 (by exact ⟨rfl, rfl, rfl⟩) (by decide) (by decide)
theorem d9_7 : decode prog_28_method_4_code 7 = .ok (.aload_n 0, 1) := by decide +kernel
theorem d9_8 : decode prog_28_method_4_code 8 = .ok (.getfield 32, 3) := by decide +kernel
theorem d9_11 : decode prog_28_method_4_code 11 = .ok (.ifCond .ne 7, 3) := by decide +kernel
set_option maxRecDepth 65536 in
set_option maxHeartbeats 40000000 in
theorem rm9_11 (l : Launch) (Z : State) (a0 : Array Value) (hw : ∀ d ∈ tables_1, d.before a0 Z = true) (ws : List Jvm.Cond) (t1 : Addr) (h0 : Heap) (n0 : Nat) (Z0 : n0 ≤ h0.size) (Fa : Fld Z h0 t1 "com/example/nowait/nowait/Strategy" "locksAfterConflict" "Z" (.int (1 : Int32))) (Fb : Fld Z h0 t1 "com/example/nowait/nowait/Strategy" "locksBeforeConflict" "Z" (.int (1 : Int32))) :
    OMet l (⟨"com/example/nowait/nowait/Strategy", "heedsRecentConflicts", "()Z"⟩ : MethodName) prog_28_method_4_code 1 (some .boolean) ws ({ frames := 0, cells := 0, slots := 0, locals := 0 } : Room) Z #[(.ref t1)] h0 (fun v h L => v = some (.int (0 : Int32)) ∧ L = [] ∧ h = h0) := by
  refine own_body (plainFor_of_name pn_5) ?_
  intro p e s m below meth c T0 X0 hx hZ hby hml hown hnm hret hlk e0
  have N0 := Fr.nil n0
  refine own_entry (g' := (mkF m 0 #[.val (.ref t1)] [])) (by first | rfl | (simp [entryFrame, mkF, argsToLocals, Value.category, maxLocals]; done)) ?_
  refine own_step (g' := (mkF m 1 #[.val (.ref t1)] [(.ref t1)])) (fun _ k => XS.aloadN X0.here hx rfl (hb hby d9_0) rfl rfl k) ?_
  obtain ⟨T1, X1, e1, st1⟩ := getF X0 hx hZ hown (host := "") (Or.inl (hw _ (List.mem_of_getElem? (i := 35) rfl))) Via.refl e0 Fa (g := (mkF m 1 #[.val (.ref t1)] [(.ref t1)])) rfl rfl (hb hby d9_1)
  refine own_via (g' := (mkF m 4 #[.val (.ref t1)] [(.int (1 : Int32))])) st1 ?_
  refine own_step (g' := (mkF m 7 #[.val (.ref t1)] [])) (fun _ k => XS.ifNo X1.here hx rfl (hb hby d9_4) rfl ((if0 _ _).trans (feq (by decide : ¬ ((1 : Int32) = (0 : Int32)))).1) k) ?_
  refine own_step (g' := (mkF m 8 #[.val (.ref t1)] [(.ref t1)])) (fun _ k => XS.aloadN X1.here hx rfl (hb hby d9_7) rfl rfl k) ?_
  obtain ⟨T2, X2, e2, st2⟩ := getF X1 hx hZ hown (host := "") (Or.inl (hw _ (List.mem_of_getElem? (i := 61) rfl))) Via.refl e1 Fb (g := (mkF m 8 #[.val (.ref t1)] [(.ref t1)])) rfl rfl (hb hby d9_8)
  refine own_via (g' := (mkF m 11 #[.val (.ref t1)] [(.int (1 : Int32))])) st2 ?_
  refine own_step (g' := (mkF m 18 #[.val (.ref t1)] [])) (fun _ k => XS.ifYes X2.here hx rfl (pc0 := 11) (pc' := 18) rfl (hb hby d9_11) rfl ((if0 _ _).trans (feq (by decide : ¬ ((1 : Int32) = (0 : Int32)))).2) (by decide) (by decide) k) ?_
  refine own_step (g' := (mkF m 19 #[.val (.ref t1)] [(.int (0 : Int32))])) (fun _ k => XS.iconst X2.here hx rfl (hb hby d9_18) k) ?_
  exact own_retN X2 hx (t := .boolean) hret (by simp) hlk (hb hby d9_19) e2 (by exact ⟨rfl, rfl, rfl⟩) (by decide) (by decide)
set_option maxRecDepth 65536 in
set_option maxHeartbeats 40000000 in
theorem rm5_10_1 (l : Launch) (Z : State) (a0 : Array Value) (hw : ∀ d ∈ tables_1, d.before a0 Z = true) (ws : List Jvm.Cond) (t1 a1 o2 ed : Addr) (h0 : Heap) (n0 : Nat) (Z0 : n0 ≤ h0.size) (Fa : Fld Z h0 t1 "com/example/nowait/nowait/Strategy" "locksAfterConflict" "Z" (.int (1 : Int32))) (Fb : Fld Z h0 t1 "com/example/nowait/nowait/Strategy" "locksBeforeConflict" "Z" (.int (0 : Int32))) (C1 : Exa Z h0 a1 "java/util/ArrayList") (Fe : Fld Z h0 a1 "java/util/ArrayList" "elementData" "[Ljava/lang/Object;" (.ref ed)) (Fs : Fld Z h0 a1 "java/util/ArrayList" "size" "I" (.int (0 : Int32))) (S_CONFLICT : Sta Z h0 "com/example/nowait/nowait/FailureKind" "CONFLICT" "Lcom/example/nowait/nowait/FailureKind;" (.ref o2)) :
    OMet l (⟨"com/example/nowait/nowait/Strategy", "locksRow", "(Ljava/util/List;Z)Z"⟩ : MethodName) prog_28_method_5_code 3 (some .boolean) ws ({ frames := 0, cells := 0, slots := 0, locals := 0 } : Room) Z #[(.ref t1), (.ref a1), (.int (1 : Int32))] h0 (fun v h L => v = some (.int (1 : Int32)) ∧ L = [] ∧ h = h0) := by
  refine own_body (plainFor_of_name pn_5) ?_
  intro p e s m below meth c T0 X0 hx hZ hby hml hown hnm hret hlk e0
  have N0 := Fr.nil n0
  refine own_entry (g' := (mkF m 0 #[.val (.ref t1), .val (.ref a1), .val (.int (1 : Int32))] [])) (by first | rfl | (simp [entryFrame, mkF, argsToLocals, Value.category, maxLocals]; done)) ?_
  refine own_step (g' := (mkF m 1 #[.val (.ref t1), .val (.ref a1), .val (.int (1 : Int32))] [(.int (1 : Int32))])) (fun _ k => XS.iloadN X0.here hx rfl (hb hby d5_0) rfl k) ?_
  refine own_step (g' := (mkF m 16 #[.val (.ref t1), .val (.ref a1), .val (.int (1 : Int32))] [])) (fun _ k => XS.ifYes X0.here hx rfl (pc0 := 1) (pc' := 16) rfl (hb hby d5_1) rfl ((if0 _ _).trans (feq (by decide : ¬ ((1 : Int32) = (0 : Int32)))).2) (by decide) (by decide) k) ?_
  refine own_step (g' := (mkF m 17 #[.val (.ref t1), .val (.ref a1), .val (.int (1 : Int32))] [(.ref t1)])) (fun _ k => XS.aloadN X0.here hx rfl (hb hby d5_16) rfl rfl k) ?_
  obtain ⟨T1, X1, e1, st1⟩ := getF X0 hx hZ hown (host := "") (Or.inl (hw _ (List.mem_of_getElem? (i := 35) rfl))) Via.refl e0 Fa (g := (mkF m 17 #[.val (.ref t1), .val (.ref a1), .val (.int (1 : Int32))] [(.ref t1)])) rfl rfl (hb hby d5_17)
  refine own_via (g' := (mkF m 20 #[.val (.ref t1), .val (.ref a1), .val (.int (1 : Int32))] [(.int (1 : Int32))])) st1 ?_
  refine own_step (g' := (mkF m 27 #[.val (.ref t1), .val (.ref a1), .val (.int (1 : Int32))] [(.int (1 : Int32))])) (fun _ k => XS.goto X1.here hx rfl (pc0 := 20) (pc' := 27) rfl (hb hby d5_20) (by decide) (by decide) k) ?_
  exact own_retN X1 hx (t := .boolean) hret (by simp) hlk (hb hby d5_27) e1 (by exact ⟨rfl, rfl, rfl⟩) (by decide) (by decide)
set_option maxRecDepth 65536 in
set_option maxHeartbeats 40000000 in
theorem rm5_10_0 (l : Launch) (Z : State) (a0 : Array Value) (hw : ∀ d ∈ tables_1, d.before a0 Z = true) (ws : List Jvm.Cond) (t1 a1 o2 ed : Addr) (h0 : Heap) (n0 : Nat) (Z0 : n0 ≤ h0.size) (Fa : Fld Z h0 t1 "com/example/nowait/nowait/Strategy" "locksAfterConflict" "Z" (.int (1 : Int32))) (Fb : Fld Z h0 t1 "com/example/nowait/nowait/Strategy" "locksBeforeConflict" "Z" (.int (0 : Int32))) (C1 : Exa Z h0 a1 "java/util/ArrayList") (Fe : Fld Z h0 a1 "java/util/ArrayList" "elementData" "[Ljava/lang/Object;" (.ref ed)) (Fs : Fld Z h0 a1 "java/util/ArrayList" "size" "I" (.int (0 : Int32))) (S_CONFLICT : Sta Z h0 "com/example/nowait/nowait/FailureKind" "CONFLICT" "Lcom/example/nowait/nowait/FailureKind;" (.ref o2)) :
    OMet l (⟨"com/example/nowait/nowait/Strategy", "locksRow", "(Ljava/util/List;Z)Z"⟩ : MethodName) prog_28_method_5_code 3 (some .boolean) ws ({ frames := 3, cells := 0, slots := 0, locals := 43 } : Room) Z #[(.ref t1), (.ref a1), (.int (0 : Int32))] h0 (fun v h L => v = some (.int (0 : Int32)) ∧ L = [] ∧ h = h0) := by
  refine own_body (plainFor_of_name pn_5) ?_
  intro p e s m below meth c T0 X0 hx hZ hby hml hown hnm hret hlk e0
  have N0 := Fr.nil n0
  refine own_entry (g' := (mkF m 0 #[.val (.ref t1), .val (.ref a1), .val (.int (0 : Int32))] [])) (by first | rfl | (simp [entryFrame, mkF, argsToLocals, Value.category, maxLocals]; done)) ?_
  refine own_step (g' := (mkF m 1 #[.val (.ref t1), .val (.ref a1), .val (.int (0 : Int32))] [(.int (0 : Int32))])) (fun _ k => XS.iloadN X0.here hx rfl (hb hby d5_0) rfl k) ?_
  refine own_step (g' := (mkF m 4 #[.val (.ref t1), .val (.ref a1), .val (.int (0 : Int32))] [])) (fun _ k => XS.ifNo X0.here hx rfl (hb hby d5_1) rfl ((if0 _ _).trans (teq (by decide : (0 : Int32) = (0 : Int32))).2) k) ?_
  refine own_step (g' := (mkF m 5 #[.val (.ref t1), .val (.ref a1), .val (.int (0 : Int32))] [(.ref a1)])) (fun _ k => XS.aloadN X0.here hx rfl (hb hby d5_4) rfl rfl k) ?_
  obtain ⟨T1, X1, e1, st1⟩ := getS2 X0 hx hZ hown (host := "") (Or.inl (hw _ (List.mem_of_getElem? (i := 37) rfl))) Via.refl e0 S_CONFLICT (g := (mkF m 5 #[.val (.ref t1), .val (.ref a1), .val (.int (0 : Int32))] [(.ref a1)])) rfl (hb hby d5_5)
  refine own_via (g' := (mkF m 8 #[.val (.ref t1), .val (.ref a1), .val (.int (0 : Int32))] [(.ref o2), (.ref a1)])) st1 ?_
  refine own_callI X1 hx hZ (W := 0) hown e1 (rm6 l Z a0 hw [] a1 o2 ed h0 n0 Z0 C1 Fe Fs) C1 (hw _ (List.mem_of_getElem? (i := 40) rfl)) (hw _ (List.mem_of_getElem? (i := 41) rfl)) (mvT hZ (hw _ (List.mem_of_getElem? (i := 42) rfl))) (hw _ (List.mem_of_getElem? (i := 43) rfl)) (hw _ (List.mem_of_getElem? (i := 44) rfl)) (hw _ (List.mem_of_getElem? (i := 45) rfl)) (hw _ (List.mem_of_getElem? (i := 46) rfl)) (hw _ (List.mem_of_getElem? (i := 47) rfl)) (hw _ (List.mem_of_getElem? (i := 48) rfl)) (hw _ (List.mem_of_getElem? (i := 6) rfl)) (by decide) (by decide) (by decide) (g := (mkF m 8 #[.val (.ref t1), .val (.ref a1), .val (.int (0 : Int32))] [(.ref o2), (.ref a1)])) rfl (by rw [hml]; rfl) (argsL := [(.ref o2)]) (rest := []) rfl (lenOf pd_3 rfl) rfl (by show 2 * 0 + _ ≤ _; exact Nat.le_of_eq rfl) (hb hby d5_8) (by decide) (by decide) ?_
  intro v2 T2 L2 X2 hQ2
  obtain ⟨rfl, rfl, e2⟩ := hQ2
  replace X2 := own_pureX X2
  show OGo p e below _ T2 (mkF m 13 #[.val (.ref t1), .val (.ref a1), .val (.int (0 : Int32))] [(.int (0 : Int32))])
  refine own_step (g' := (mkF m 23 #[.val (.ref t1), .val (.ref a1), .val (.int (0 : Int32))] [])) (fun _ k => XS.ifYes X2.here hx rfl (pc0 := 13) (pc' := 23) rfl (hb hby d5_13) rfl ((if0 _ _).trans (teq (by decide : (0 : Int32) = (0 : Int32))).1) (by decide) (by decide) k) ?_
  refine own_step (g' := (mkF m 24 #[.val (.ref t1), .val (.ref a1), .val (.int (0 : Int32))] [(.ref t1)])) (fun _ k => XS.aloadN X2.here hx rfl (hb hby d5_23) rfl rfl k) ?_
  obtain ⟨T3, X3, e3, st3⟩ := getF X2 hx hZ hown (host := "") (Or.inl (hw _ (List.mem_of_getElem? (i := 61) rfl))) Via.refl e2 Fb (g := (mkF m 24 #[.val (.ref t1), .val (.ref a1), .val (.int (0 : Int32))] [(.ref t1)])) rfl rfl (hb hby d5_24)
  refine own_via (g' := (mkF m 27 #[.val (.ref t1), .val (.ref a1), .val (.int (0 : Int32))] [(.int (0 : Int32))])) st3 ?_
  exact own_retN X3 hx (t := .boolean) hret (by simp) hlk (hb hby d5_27) e3 (by exact ⟨rfl, rfl, rfl⟩) (by decide) (by decide)
theorem d9_14 : decode prog_28_method_4_code 14 = .ok (.iconst 1, 1) := by decide +kernel
theorem d9_15 : decode prog_28_method_4_code 15 = .ok (.goto 4, 3) := by decide +kernel
set_option maxRecDepth 65536 in
set_option maxHeartbeats 40000000 in
theorem rm9_10 (l : Launch) (Z : State) (a0 : Array Value) (hw : ∀ d ∈ tables_1, d.before a0 Z = true) (ws : List Jvm.Cond) (t1 : Addr) (h0 : Heap) (n0 : Nat) (Z0 : n0 ≤ h0.size) (Fa : Fld Z h0 t1 "com/example/nowait/nowait/Strategy" "locksAfterConflict" "Z" (.int (1 : Int32))) (Fb : Fld Z h0 t1 "com/example/nowait/nowait/Strategy" "locksBeforeConflict" "Z" (.int (0 : Int32))) :
    OMet l (⟨"com/example/nowait/nowait/Strategy", "heedsRecentConflicts", "()Z"⟩ : MethodName) prog_28_method_4_code 1 (some .boolean) ws ({ frames := 0, cells := 0, slots := 0, locals := 0 } : Room) Z #[(.ref t1)] h0 (fun v h L => v = some (.int (1 : Int32)) ∧ L = [] ∧ h = h0) := by
  refine own_body (plainFor_of_name pn_5) ?_
  intro p e s m below meth c T0 X0 hx hZ hby hml hown hnm hret hlk e0
  have N0 := Fr.nil n0
  refine own_entry (g' := (mkF m 0 #[.val (.ref t1)] [])) (by first | rfl | (simp [entryFrame, mkF, argsToLocals, Value.category, maxLocals]; done)) ?_
  refine own_step (g' := (mkF m 1 #[.val (.ref t1)] [(.ref t1)])) (fun _ k => XS.aloadN X0.here hx rfl (hb hby d9_0) rfl rfl k) ?_
  obtain ⟨T1, X1, e1, st1⟩ := getF X0 hx hZ hown (host := "") (Or.inl (hw _ (List.mem_of_getElem? (i := 35) rfl))) Via.refl e0 Fa (g := (mkF m 1 #[.val (.ref t1)] [(.ref t1)])) rfl rfl (hb hby d9_1)
  refine own_via (g' := (mkF m 4 #[.val (.ref t1)] [(.int (1 : Int32))])) st1 ?_
  refine own_step (g' := (mkF m 7 #[.val (.ref t1)] [])) (fun _ k => XS.ifNo X1.here hx rfl (hb hby d9_4) rfl ((if0 _ _).trans (feq (by decide : ¬ ((1 : Int32) = (0 : Int32)))).1) k) ?_
  refine own_step (g' := (mkF m 8 #[.val (.ref t1)] [(.ref t1)])) (fun _ k => XS.aloadN X1.here hx rfl (hb hby d9_7) rfl rfl k) ?_
  obtain ⟨T2, X2, e2, st2⟩ := getF X1 hx hZ hown (host := "") (Or.inl (hw _ (List.mem_of_getElem? (i := 61) rfl))) Via.refl e1 Fb (g := (mkF m 8 #[.val (.ref t1)] [(.ref t1)])) rfl rfl (hb hby d9_8)
  refine own_via (g' := (mkF m 11 #[.val (.ref t1)] [(.int (0 : Int32))])) st2 ?_
  refine own_step (g' := (mkF m 14 #[.val (.ref t1)] [])) (fun _ k => XS.ifNo X2.here hx rfl (hb hby d9_11) rfl ((if0 _ _).trans (teq (by decide : (0 : Int32) = (0 : Int32))).2) k) ?_
  refine own_step (g' := (mkF m 15 #[.val (.ref t1)] [(.int (1 : Int32))])) (fun _ k => XS.iconst X2.here hx rfl (hb hby d9_14) k) ?_
  refine own_step (g' := (mkF m 19 #[.val (.ref t1)] [(.int (1 : Int32))])) (fun _ k => XS.goto X2.here hx rfl (pc0 := 15) (pc' := 19) rfl (hb hby d9_15) (by decide) (by decide) k) ?_
  exact own_retN X2 hx (t := .boolean) hret (by simp) hlk (hb hby d9_19) e2 (by exact ⟨rfl, rfl, rfl⟩) (by decide) (by decide)
def Q0 (n0 : Nat) : Option Value → Heap → List Loc → Prop := fun v h L => v = some (.int 1) ∧ Fr n0 L
theorem pd_4 : parseMethodDescriptor "(Ljava/util/List;Z)Z" = some ⟨[(.object "java/util/List"), .boolean], some .boolean⟩ := by decide +kernel
theorem pd_5 : parseMethodDescriptor "()Z" = some ⟨[], some .boolean⟩ := by decide +kernel
theorem pn_0 : plainName "com/example/nowait/nowait/StrategyHeedsRecentConflictsPinLaw" = true := by first | (simp [plainName, overriddenIn]; done) | decide +kernel
set_option maxRecDepth 65536 in
set_option maxHeartbeats 40000000 in
theorem rm0 (l : Launch) (Z : State) (a0 : Array Value) (hw : ∀ d ∈ tables_1, d.before a0 Z = true) (ws : List Jvm.Cond) (p1 : Int32) (w_OPTIMISTIC w_PESSIMISTIC w_ADAPTIVE o2 ed : Addr) (h0 : Heap) (n0 : Nat) (Z0 : n0 ≤ h0.size) (S_OPTIMISTIC : Sta Z h0 "com/example/nowait/nowait/Strategy" "OPTIMISTIC" "Lcom/example/nowait/nowait/Strategy;" (.ref w_OPTIMISTIC)) (C_OPTIMISTIC : Exa Z h0 w_OPTIMISTIC "com/example/nowait/nowait/Strategy") (Fa_OPTIMISTIC : Fld Z h0 w_OPTIMISTIC "com/example/nowait/nowait/Strategy" "locksAfterConflict" "Z" (.int (0 : Int32))) (Fb_OPTIMISTIC : Fld Z h0 w_OPTIMISTIC "com/example/nowait/nowait/Strategy" "locksBeforeConflict" "Z" (.int (0 : Int32))) (S_PESSIMISTIC : Sta Z h0 "com/example/nowait/nowait/Strategy" "PESSIMISTIC" "Lcom/example/nowait/nowait/Strategy;" (.ref w_PESSIMISTIC)) (C_PESSIMISTIC : Exa Z h0 w_PESSIMISTIC "com/example/nowait/nowait/Strategy") (Fa_PESSIMISTIC : Fld Z h0 w_PESSIMISTIC "com/example/nowait/nowait/Strategy" "locksAfterConflict" "Z" (.int (1 : Int32))) (Fb_PESSIMISTIC : Fld Z h0 w_PESSIMISTIC "com/example/nowait/nowait/Strategy" "locksBeforeConflict" "Z" (.int (1 : Int32))) (S_ADAPTIVE : Sta Z h0 "com/example/nowait/nowait/Strategy" "ADAPTIVE" "Lcom/example/nowait/nowait/Strategy;" (.ref w_ADAPTIVE)) (C_ADAPTIVE : Exa Z h0 w_ADAPTIVE "com/example/nowait/nowait/Strategy") (Fa_ADAPTIVE : Fld Z h0 w_ADAPTIVE "com/example/nowait/nowait/Strategy" "locksAfterConflict" "Z" (.int (1 : Int32))) (Fb_ADAPTIVE : Fld Z h0 w_ADAPTIVE "com/example/nowait/nowait/Strategy" "locksBeforeConflict" "Z" (.int (0 : Int32))) (S_CONFLICT : Sta Z h0 "com/example/nowait/nowait/FailureKind" "CONFLICT" "Lcom/example/nowait/nowait/FailureKind;" (.ref o2)) (S_DC : Sta Z h0 "java/util/ArrayList" "DEFAULTCAPACITY_EMPTY_ELEMENTDATA" "[Ljava/lang/Object;" (.ref ed)) :
    OMet l x code maxLocals ret ws room_1 Z #[(.int p1)] h0 (Q0 n0) := by
  refine own_body (plainFor_of_name pn_0) ?_
  intro p e s m below meth c T0 X0 hx hZ hby hml hown hnm hret hlk e0
  have N0 := Fr.nil n0
  refine own_entry (g' := (mkF m 0 #[.val (.int p1), .unset, .unset, .unset, .unset, .unset, .unset, .unset] [])) (by first | rfl | (simp [entryFrame, mkF, argsToLocals, Value.category, maxLocals]; done)) ?_
  refine own_step (g' := (mkF m 1 #[.val (.int p1), .unset, .unset, .unset, .unset, .unset, .unset, .unset] [(.int p1)])) (fun _ k => XS.iloadN X0.here hx rfl (hb hby at_0) rfl k) ?_
  refine own_step (g' := (mkF m 3 #[.val (.int p1), .unset, .unset, .unset, .unset, .unset, .unset, .unset] [(.int (2147483647 : Int32)), (.int p1)])) (X0.ldcInt hx hown (mvT hZ (hw _ (List.mem_of_getElem? (i := 0) rfl))) (g := (mkF m 1 #[.val (.int p1), .unset, .unset, .unset, .unset, .unset, .unset, .unset] [(.int p1)])) rfl (hb hby at_1)) ?_
  refine own_step (g' := (mkF m 4 #[.val (.int p1), .unset, .unset, .unset, .unset, .unset, .unset, .unset] [(.int (p1 &&& (2147483647 : Int32)))])) (fun _ k => XS.iand X0.here hx rfl (hb hby at_3) rfl k) ?_
  refine own_step (g' := (mkF m 5 #[.val (.int p1), .unset, .unset, .unset, .unset, .unset, .unset, .unset] [(.int (3 : Int32)), (.int (p1 &&& (2147483647 : Int32)))])) (fun _ k => XS.iconst X0.here hx rfl (hb hby at_4) k) ?_
  refine own_step (g' := (mkF m 6 #[.val (.int p1), .unset, .unset, .unset, .unset, .unset, .unset, .unset] [(.int ((p1 &&& (2147483647 : Int32)) % (3 : Int32)))])) (fun _ k => own_irem X0.here hx rfl (hb hby at_5) rfl (by decide) k) ?_
  refine own_step (g' := (mkF m 7 #[.val (.int p1), .val (.int ((p1 &&& (2147483647 : Int32)) % (3 : Int32))), .unset, .unset, .unset, .unset, .unset, .unset] [])) (fun _ k => XS.istoreN X0.here hx rfl (hb hby at_6) rfl (l' := #[.val (.int p1), .val (.int ((p1 &&& (2147483647 : Int32)) % (3 : Int32))), .unset, .unset, .unset, .unset, .unset, .unset]) rfl k) ?_
  refine own_step (g' := (mkF m 8 #[.val (.int p1), .val (.int ((p1 &&& (2147483647 : Int32)) % (3 : Int32))), .unset, .unset, .unset, .unset, .unset, .unset] [(.int ((p1 &&& (2147483647 : Int32)) % (3 : Int32)))])) (fun _ k => XS.iloadN X0.here hx rfl (hb hby at_7) rfl k) ?_
  by_cases hc1 : ((p1 &&& (2147483647 : Int32)) % (3 : Int32)) = (0 : Int32)
  · refine own_step (g' := (mkF m 11 #[.val (.int p1), .val (.int ((p1 &&& (2147483647 : Int32)) % (3 : Int32))), .unset, .unset, .unset, .unset, .unset, .unset] [])) (fun _ k => XS.ifNo X0.here hx rfl (hb hby at_8) rfl ((if0 _ _).trans (teq hc1).2) k) ?_
    obtain ⟨T2, X2, e2, st2⟩ := getS2 X0 hx hZ hown (host := "") (Or.inl (hw _ (List.mem_of_getElem? (i := 1) rfl))) Via.refl e0 S_OPTIMISTIC (g := (mkF m 11 #[.val (.int p1), .val (.int ((p1 &&& (2147483647 : Int32)) % (3 : Int32))), .unset, .unset, .unset, .unset, .unset, .unset] [])) rfl (hb hby at_11)
    refine own_via (g' := (mkF m 14 #[.val (.int p1), .val (.int ((p1 &&& (2147483647 : Int32)) % (3 : Int32))), .unset, .unset, .unset, .unset, .unset, .unset] [(.ref w_OPTIMISTIC)])) st2 ?_
    refine own_step (g' := (mkF m 15 #[.val (.int p1), .val (.int ((p1 &&& (2147483647 : Int32)) % (3 : Int32))), .val (.ref w_OPTIMISTIC), .unset, .unset, .unset, .unset, .unset] [])) (fun _ k => XS.astoreN X2.here hx rfl (hb hby at_14) rfl rfl (l' := #[.val (.int p1), .val (.int ((p1 &&& (2147483647 : Int32)) % (3 : Int32))), .val (.ref w_OPTIMISTIC), .unset, .unset, .unset, .unset, .unset]) rfl k) ?_
    refine own_step (g' := (mkF m 16 #[.val (.int p1), .val (.int ((p1 &&& (2147483647 : Int32)) % (3 : Int32))), .val (.ref w_OPTIMISTIC), .unset, .unset, .unset, .unset, .unset] [(.int (0 : Int32))])) (fun _ k => XS.iconst X2.here hx rfl (hb hby at_15) k) ?_
    refine own_step (g' := (mkF m 17 #[.val (.int p1), .val (.int ((p1 &&& (2147483647 : Int32)) % (3 : Int32))), .val (.ref w_OPTIMISTIC), .val (.int (0 : Int32)), .unset, .unset, .unset, .unset] [])) (fun _ k => XS.istoreN X2.here hx rfl (hb hby at_16) rfl (l' := #[.val (.int p1), .val (.int ((p1 &&& (2147483647 : Int32)) % (3 : Int32))), .val (.ref w_OPTIMISTIC), .val (.int (0 : Int32)), .unset, .unset, .unset, .unset]) rfl k) ?_
    refine own_step (g' := (mkF m 40 #[.val (.int p1), .val (.int ((p1 &&& (2147483647 : Int32)) % (3 : Int32))), .val (.ref w_OPTIMISTIC), .val (.int (0 : Int32)), .unset, .unset, .unset, .unset] [])) (fun _ k => XS.goto X2.here hx rfl (pc0 := 17) (pc' := 40) rfl (hb hby at_17) (by decide) (by decide) k) ?_
    obtain ⟨T3, h3, X3, e3, E3, A3, D3, -, st3⟩ := newO X2 hx hZ hown (hw _ (List.mem_of_getElem? (i := 4) rfl)) (hw _ (List.mem_of_getElem? (i := 5) rfl)) (hw _ (List.mem_of_getElem? (i := 6) rfl)) e2 (g := (mkF m 40 #[.val (.int p1), .val (.int ((p1 &&& (2147483647 : Int32)) % (3 : Int32))), .val (.ref w_OPTIMISTIC), .val (.int (0 : Int32)), .unset, .unset, .unset, .unset] [])) rfl (hb hby at_40) (by decide) (by decide)
    obtain ⟨b3, g3⟩ : ∃ z, z = h0.size := ⟨_, rfl⟩
    rw [← g3] at A3 D3 st3
    have g_b3 : n0 ≤ b3 := Nat.le_trans Z0 (Nat.le_of_eq g3.symm)
    have ne_w_OPTIMISTIC_b3 : w_OPTIMISTIC ≠ b3 := Nat.ne_of_lt (Nat.lt_of_lt_of_le C_OPTIMISTIC.lt (Nat.le_of_eq g3.symm))
    have ne_w_PESSIMISTIC_b3 : w_PESSIMISTIC ≠ b3 := Nat.ne_of_lt (Nat.lt_of_lt_of_le C_PESSIMISTIC.lt (Nat.le_of_eq g3.symm))
    have ne_w_ADAPTIVE_b3 : w_ADAPTIVE ≠ b3 := Nat.ne_of_lt (Nat.lt_of_lt_of_le C_ADAPTIVE.lt (Nat.le_of_eq g3.symm))
    have F3_modCount : Fld Z h3 b3 "java/util/AbstractList" "modCount" "I" (.int (0 : Int32)) := D3 (Or.inl (hw _ (List.mem_of_getElem? (i := 26) rfl))) (ty := .int) (by decide)
    have F3_elementData : Fld Z h3 b3 "java/util/ArrayList" "elementData" "[Ljava/lang/Object;" .null := D3 (Or.inl (hw _ (List.mem_of_getElem? (i := 29) rfl))) (ty := (.array (.object "java/lang/Object"))) (by decide)
    have F3_size : Fld Z h3 b3 "java/util/ArrayList" "size" "I" (.int (0 : Int32)) := D3 (Or.inl (hw _ (List.mem_of_getElem? (i := 55) rfl))) (ty := .int) (by decide)
    refine own_via (g' := (mkF m 43 #[.val (.int p1), .val (.int ((p1 &&& (2147483647 : Int32)) % (3 : Int32))), .val (.ref w_OPTIMISTIC), .val (.int (0 : Int32)), .unset, .unset, .unset, .unset] [(.ref b3)])) st3 ?_
    refine own_step (g' := (mkF m 44 #[.val (.int p1), .val (.int ((p1 &&& (2147483647 : Int32)) % (3 : Int32))), .val (.ref w_OPTIMISTIC), .val (.int (0 : Int32)), .unset, .unset, .unset, .unset] [(.ref b3), (.ref b3)])) (fun _ k => XS.dup X3.here hx rfl (hb hby at_43) rfl rfl k) ?_
    have S_4 : Sta Z h3 "java/util/ArrayList" "DEFAULTCAPACITY_EMPTY_ELEMENTDATA" "[Ljava/lang/Object;" (.ref ed) := (Sta.ext E3 S_DC)
    refine own_init X3 hx hZ (W := 1) hown e3 (rm1 l Z a0 hw [] b3 ed h3 n0 (Nat.le_trans Z0 E3.1) S_4 g_b3 A3 F3_modCount F3_elementData F3_size) rfl (hw _ (List.mem_of_getElem? (i := 7) rfl)) (hw _ (List.mem_of_getElem? (i := 8) rfl)) (hw _ (List.mem_of_getElem? (i := 9) rfl)) (hw _ (List.mem_of_getElem? (i := 6) rfl)) (by decide) (by decide) (by decide) (g := (mkF m 44 #[.val (.int p1), .val (.int ((p1 &&& (2147483647 : Int32)) % (3 : Int32))), .val (.ref w_OPTIMISTIC), .val (.int (0 : Int32)), .unset, .unset, .unset, .unset] [(.ref b3), (.ref b3)])) rfl (by rw [hml]; rfl) (argsL := []) (rest := [(.ref b3)]) rfl (lenOf pd_0 rfl) rfl (by show 2 * 0 + _ ≤ _; exact Nat.le_of_eq rfl) (hb hby at_44) (by decide) (by decide) ?_
    intro v5 T5 L5 X5 hQ5
    obtain ⟨rfl, Nq5, Kq5, Ci, Fi1, Fi2, Fi3⟩ := hQ5
    have N5 := Fr.app N0 Nq5
    show OGo p e below _ T5 (mkF m 47 #[.val (.int p1), .val (.int ((p1 &&& (2147483647 : Int32)) % (3 : Int32))), .val (.ref w_OPTIMISTIC), .val (.int (0 : Int32)), .unset, .unset, .unset, .unset] [(.ref b3)])
    refine own_step (g' := (mkF m 49 #[.val (.int p1), .val (.int ((p1 &&& (2147483647 : Int32)) % (3 : Int32))), .val (.ref w_OPTIMISTIC), .val (.int (0 : Int32)), .val (.ref b3), .unset, .unset, .unset] [])) (fun _ k => XS.astore X5.here hx rfl (hb hby at_47) rfl rfl (l' := #[.val (.int p1), .val (.int ((p1 &&& (2147483647 : Int32)) % (3 : Int32))), .val (.ref w_OPTIMISTIC), .val (.int (0 : Int32)), .val (.ref b3), .unset, .unset, .unset]) rfl k) ?_
    refine own_step (g' := (mkF m 50 #[.val (.int p1), .val (.int ((p1 &&& (2147483647 : Int32)) % (3 : Int32))), .val (.ref w_OPTIMISTIC), .val (.int (0 : Int32)), .val (.ref b3), .unset, .unset, .unset] [(.ref w_OPTIMISTIC)])) (fun _ k => XS.aloadN X5.here hx rfl (hb hby at_49) rfl rfl k) ?_
    refine own_step (g' := (mkF m 52 #[.val (.int p1), .val (.int ((p1 &&& (2147483647 : Int32)) % (3 : Int32))), .val (.ref w_OPTIMISTIC), .val (.int (0 : Int32)), .val (.ref b3), .unset, .unset, .unset] [(.ref b3), (.ref w_OPTIMISTIC)])) (fun _ k => XS.aload X5.here hx rfl (hb hby at_50) rfl rfl k) ?_
    refine own_step (g' := (mkF m 53 #[.val (.int p1), .val (.int ((p1 &&& (2147483647 : Int32)) % (3 : Int32))), .val (.ref w_OPTIMISTIC), .val (.int (0 : Int32)), .val (.ref b3), .unset, .unset, .unset] [(.int (1 : Int32)), (.ref b3), (.ref w_OPTIMISTIC)])) (fun _ k => XS.iconst X5.here hx rfl (hb hby at_52) k) ?_
    have F_6 : Fld Z T5.heap w_OPTIMISTIC "com/example/nowait/nowait/Strategy" "locksAfterConflict" "Z" (.int (0 : Int32)) := ((Fld.ext E3 Fa_OPTIMISTIC).keep Kq5 (ninS ne_w_OPTIMISTIC_b3 nin0))
    have F_7 : Fld Z T5.heap w_OPTIMISTIC "com/example/nowait/nowait/Strategy" "locksBeforeConflict" "Z" (.int (0 : Int32)) := ((Fld.ext E3 Fb_OPTIMISTIC).keep Kq5 (ninS ne_w_OPTIMISTIC_b3 nin0))
    have S_8 : Sta Z T5.heap "com/example/nowait/nowait/FailureKind" "CONFLICT" "Lcom/example/nowait/nowait/FailureKind;" (.ref o2) := (own_sta_keep (Sta.ext E3 S_CONFLICT) Kq5 (allS (own_nsE A3) all0))
    have C_10 : Exa Z T5.heap w_OPTIMISTIC "com/example/nowait/nowait/Strategy" := ((Exa.ext E3 C_OPTIMISTIC).keep Kq5)
    refine own_callV X5 hx hZ (W := 0) hown rfl (rm5_00_1 l Z a0 hw [] w_OPTIMISTIC b3 o2 ed T5.heap n0 (Nat.le_trans (Nat.le_trans Z0 E3.1) Kq5.1) F_6 F_7 Ci Fi2 Fi3 S_8) C_10 (hw _ (List.mem_of_getElem? (i := 30) rfl)) (hw _ (List.mem_of_getElem? (i := 31) rfl)) (notFace_of_selects (args := #[]) (mvT hZ (hw _ (List.mem_of_getElem? (i := 33) rfl)))) (hw _ (List.mem_of_getElem? (i := 33) rfl)) (hw _ (List.mem_of_getElem? (i := 32) rfl)) (hw _ (List.mem_of_getElem? (i := 34) rfl)) (hw _ (List.mem_of_getElem? (i := 2) rfl)) (by decide) (by decide) (by decide) (g := (mkF m 53 #[.val (.int p1), .val (.int ((p1 &&& (2147483647 : Int32)) % (3 : Int32))), .val (.ref w_OPTIMISTIC), .val (.int (0 : Int32)), .val (.ref b3), .unset, .unset, .unset] [(.int (1 : Int32)), (.ref b3), (.ref w_OPTIMISTIC)])) rfl (by rw [hml]; rfl) (argsL := [(.ref b3), (.int (1 : Int32))]) (rest := []) rfl (lenOf pd_4 rfl) rfl (by show 2 * 0 + _ ≤ _; exact Nat.le_of_eq rfl) (hb hby at_53) (by decide) (by decide) ?_
    intro v9 T9 L9 X9 hQ9
    obtain ⟨rfl, rfl, e9⟩ := hQ9
    replace X9 := own_pureX X9
    show OGo p e below _ T9 (mkF m 56 #[.val (.int p1), .val (.int ((p1 &&& (2147483647 : Int32)) % (3 : Int32))), .val (.ref w_OPTIMISTIC), .val (.int (0 : Int32)), .val (.ref b3), .unset, .unset, .unset] [(.int (0 : Int32))])
    refine own_step (g' := (mkF m 58 #[.val (.int p1), .val (.int ((p1 &&& (2147483647 : Int32)) % (3 : Int32))), .val (.ref w_OPTIMISTIC), .val (.int (0 : Int32)), .val (.ref b3), .val (.int (0 : Int32)), .unset, .unset] [])) (fun _ k => XS.istore X9.here hx rfl (hb hby at_56) rfl (l' := #[.val (.int p1), .val (.int ((p1 &&& (2147483647 : Int32)) % (3 : Int32))), .val (.ref w_OPTIMISTIC), .val (.int (0 : Int32)), .val (.ref b3), .val (.int (0 : Int32)), .unset, .unset]) rfl k) ?_
    refine own_step (g' := (mkF m 59 #[.val (.int p1), .val (.int ((p1 &&& (2147483647 : Int32)) % (3 : Int32))), .val (.ref w_OPTIMISTIC), .val (.int (0 : Int32)), .val (.ref b3), .val (.int (0 : Int32)), .unset, .unset] [(.ref w_OPTIMISTIC)])) (fun _ k => XS.aloadN X9.here hx rfl (hb hby at_58) rfl rfl k) ?_
    refine own_step (g' := (mkF m 61 #[.val (.int p1), .val (.int ((p1 &&& (2147483647 : Int32)) % (3 : Int32))), .val (.ref w_OPTIMISTIC), .val (.int (0 : Int32)), .val (.ref b3), .val (.int (0 : Int32)), .unset, .unset] [(.ref b3), (.ref w_OPTIMISTIC)])) (fun _ k => XS.aload X9.here hx rfl (hb hby at_59) rfl rfl k) ?_
    refine own_step (g' := (mkF m 62 #[.val (.int p1), .val (.int ((p1 &&& (2147483647 : Int32)) % (3 : Int32))), .val (.ref w_OPTIMISTIC), .val (.int (0 : Int32)), .val (.ref b3), .val (.int (0 : Int32)), .unset, .unset] [(.int (0 : Int32)), (.ref b3), (.ref w_OPTIMISTIC)])) (fun _ k => XS.iconst X9.here hx rfl (hb hby at_61) k) ?_
    refine own_callV X9 hx hZ (W := 0) hown e9 (rm5_00_0 l Z a0 hw [] w_OPTIMISTIC b3 o2 ed T5.heap n0 (Nat.le_trans (Nat.le_trans Z0 E3.1) Kq5.1) F_6 F_7 Ci Fi2 Fi3 S_8) C_10 (hw _ (List.mem_of_getElem? (i := 30) rfl)) (hw _ (List.mem_of_getElem? (i := 31) rfl)) (notFace_of_selects (args := #[]) (mvT hZ (hw _ (List.mem_of_getElem? (i := 33) rfl)))) (hw _ (List.mem_of_getElem? (i := 33) rfl)) (hw _ (List.mem_of_getElem? (i := 32) rfl)) (hw _ (List.mem_of_getElem? (i := 34) rfl)) (hw _ (List.mem_of_getElem? (i := 2) rfl)) (by decide) (by decide) (by decide) (g := (mkF m 62 #[.val (.int p1), .val (.int ((p1 &&& (2147483647 : Int32)) % (3 : Int32))), .val (.ref w_OPTIMISTIC), .val (.int (0 : Int32)), .val (.ref b3), .val (.int (0 : Int32)), .unset, .unset] [(.int (0 : Int32)), (.ref b3), (.ref w_OPTIMISTIC)])) rfl (by rw [hml]; rfl) (argsL := [(.ref b3), (.int (0 : Int32))]) (rest := []) rfl (lenOf pd_4 rfl) rfl (by show 2 * 0 + _ ≤ _; exact Nat.le_of_eq rfl) (hb hby at_62) (by decide) (by decide) ?_
    intro v11 T11 L11 X11 hQ11
    obtain ⟨rfl, rfl, e11⟩ := hQ11
    replace X11 := own_pureX X11
    show OGo p e below _ T11 (mkF m 65 #[.val (.int p1), .val (.int ((p1 &&& (2147483647 : Int32)) % (3 : Int32))), .val (.ref w_OPTIMISTIC), .val (.int (0 : Int32)), .val (.ref b3), .val (.int (0 : Int32)), .unset, .unset] [(.int (0 : Int32))])
    refine own_step (g' := (mkF m 67 #[.val (.int p1), .val (.int ((p1 &&& (2147483647 : Int32)) % (3 : Int32))), .val (.ref w_OPTIMISTIC), .val (.int (0 : Int32)), .val (.ref b3), .val (.int (0 : Int32)), .val (.int (0 : Int32)), .unset] [])) (fun _ k => XS.istore X11.here hx rfl (hb hby at_65) rfl (l' := #[.val (.int p1), .val (.int ((p1 &&& (2147483647 : Int32)) % (3 : Int32))), .val (.ref w_OPTIMISTIC), .val (.int (0 : Int32)), .val (.ref b3), .val (.int (0 : Int32)), .val (.int (0 : Int32)), .unset]) rfl k) ?_
    refine own_step (g' := (mkF m 68 #[.val (.int p1), .val (.int ((p1 &&& (2147483647 : Int32)) % (3 : Int32))), .val (.ref w_OPTIMISTIC), .val (.int (0 : Int32)), .val (.ref b3), .val (.int (0 : Int32)), .val (.int (0 : Int32)), .unset] [(.ref w_OPTIMISTIC)])) (fun _ k => XS.aloadN X11.here hx rfl (hb hby at_67) rfl rfl k) ?_
    refine own_callV X11 hx hZ (W := 0) hown e11 (rm9_00 l Z a0 hw [] w_OPTIMISTIC T5.heap n0 (Nat.le_trans (Nat.le_trans Z0 E3.1) Kq5.1) F_6 F_7) C_10 (hw _ (List.mem_of_getElem? (i := 63) rfl)) (hw _ (List.mem_of_getElem? (i := 64) rfl)) (notFace_of_selects (args := #[]) (mvT hZ (hw _ (List.mem_of_getElem? (i := 66) rfl)))) (hw _ (List.mem_of_getElem? (i := 66) rfl)) (hw _ (List.mem_of_getElem? (i := 65) rfl)) (hw _ (List.mem_of_getElem? (i := 67) rfl)) (hw _ (List.mem_of_getElem? (i := 2) rfl)) (by decide) (by decide) (by decide) (g := (mkF m 68 #[.val (.int p1), .val (.int ((p1 &&& (2147483647 : Int32)) % (3 : Int32))), .val (.ref w_OPTIMISTIC), .val (.int (0 : Int32)), .val (.ref b3), .val (.int (0 : Int32)), .val (.int (0 : Int32)), .unset] [(.ref w_OPTIMISTIC)])) rfl (by rw [hml]; rfl) (argsL := []) (rest := []) rfl (lenOf pd_5 rfl) rfl (by show 2 * 0 + _ ≤ _; exact Nat.le_of_eq rfl) (hb hby at_68) (by decide) (by decide) ?_
    intro v12 T12 L12 X12 hQ12
    obtain ⟨rfl, rfl, e12⟩ := hQ12
    replace X12 := own_pureX X12
    show OGo p e below _ T12 (mkF m 71 #[.val (.int p1), .val (.int ((p1 &&& (2147483647 : Int32)) % (3 : Int32))), .val (.ref w_OPTIMISTIC), .val (.int (0 : Int32)), .val (.ref b3), .val (.int (0 : Int32)), .val (.int (0 : Int32)), .unset] [(.int (0 : Int32))])
    refine own_step (g' := (mkF m 73 #[.val (.int p1), .val (.int ((p1 &&& (2147483647 : Int32)) % (3 : Int32))), .val (.ref w_OPTIMISTIC), .val (.int (0 : Int32)), .val (.ref b3), .val (.int (0 : Int32)), .val (.int (0 : Int32)), .val (.int (0 : Int32))] [])) (fun _ k => XS.istore X12.here hx rfl (hb hby at_71) rfl (l' := #[.val (.int p1), .val (.int ((p1 &&& (2147483647 : Int32)) % (3 : Int32))), .val (.ref w_OPTIMISTIC), .val (.int (0 : Int32)), .val (.ref b3), .val (.int (0 : Int32)), .val (.int (0 : Int32)), .val (.int (0 : Int32))]) rfl k) ?_
    refine own_step (g' := (mkF m 75 #[.val (.int p1), .val (.int ((p1 &&& (2147483647 : Int32)) % (3 : Int32))), .val (.ref w_OPTIMISTIC), .val (.int (0 : Int32)), .val (.ref b3), .val (.int (0 : Int32)), .val (.int (0 : Int32)), .val (.int (0 : Int32))] [(.int (0 : Int32))])) (fun _ k => XS.iload X12.here hx rfl (hb hby at_73) rfl k) ?_
    refine own_step (g' := (mkF m 76 #[.val (.int p1), .val (.int ((p1 &&& (2147483647 : Int32)) % (3 : Int32))), .val (.ref w_OPTIMISTIC), .val (.int (0 : Int32)), .val (.ref b3), .val (.int (0 : Int32)), .val (.int (0 : Int32)), .val (.int (0 : Int32))] [(.int (0 : Int32)), (.int (0 : Int32))])) (fun _ k => XS.iloadN X12.here hx rfl (hb hby at_75) rfl k) ?_
    refine own_step (g' := (mkF m 79 #[.val (.int p1), .val (.int ((p1 &&& (2147483647 : Int32)) % (3 : Int32))), .val (.ref w_OPTIMISTIC), .val (.int (0 : Int32)), .val (.ref b3), .val (.int (0 : Int32)), .val (.int (0 : Int32)), .val (.int (0 : Int32))] [])) (fun _ k => XS.icmpNo X12.here hx rfl (hb hby at_76) rfl (teq (by decide : (0 : Int32) = (0 : Int32))).2 k) ?_
    refine own_step (g' := (mkF m 81 #[.val (.int p1), .val (.int ((p1 &&& (2147483647 : Int32)) % (3 : Int32))), .val (.ref w_OPTIMISTIC), .val (.int (0 : Int32)), .val (.ref b3), .val (.int (0 : Int32)), .val (.int (0 : Int32)), .val (.int (0 : Int32))] [(.int (0 : Int32))])) (fun _ k => XS.iload X12.here hx rfl (hb hby at_79) rfl k) ?_
    refine own_step (g' := (mkF m 83 #[.val (.int p1), .val (.int ((p1 &&& (2147483647 : Int32)) % (3 : Int32))), .val (.ref w_OPTIMISTIC), .val (.int (0 : Int32)), .val (.ref b3), .val (.int (0 : Int32)), .val (.int (0 : Int32)), .val (.int (0 : Int32))] [(.int (0 : Int32)), (.int (0 : Int32))])) (fun _ k => XS.iload X12.here hx rfl (hb hby at_81) rfl k) ?_
    refine own_step (g' := (mkF m 85 #[.val (.int p1), .val (.int ((p1 &&& (2147483647 : Int32)) % (3 : Int32))), .val (.ref w_OPTIMISTIC), .val (.int (0 : Int32)), .val (.ref b3), .val (.int (0 : Int32)), .val (.int (0 : Int32)), .val (.int (0 : Int32))] [(.int (0 : Int32)), (.int (0 : Int32)), (.int (0 : Int32))])) (fun _ k => XS.iload X12.here hx rfl (hb hby at_83) rfl k) ?_
    refine own_step (g' := (mkF m 92 #[.val (.int p1), .val (.int ((p1 &&& (2147483647 : Int32)) % (3 : Int32))), .val (.ref w_OPTIMISTIC), .val (.int (0 : Int32)), .val (.ref b3), .val (.int (0 : Int32)), .val (.int (0 : Int32)), .val (.int (0 : Int32))] [(.int (0 : Int32))])) (fun _ k => XS.icmpYes X12.here hx rfl (pc0 := 85) (pc' := 92) rfl (hb hby at_85) rfl (teq (by decide : (0 : Int32) = (0 : Int32))).1 (by decide) (by decide) k) ?_
    refine own_step (g' := (mkF m 93 #[.val (.int p1), .val (.int ((p1 &&& (2147483647 : Int32)) % (3 : Int32))), .val (.ref w_OPTIMISTIC), .val (.int (0 : Int32)), .val (.ref b3), .val (.int (0 : Int32)), .val (.int (0 : Int32)), .val (.int (0 : Int32))] [(.int (0 : Int32)), (.int (0 : Int32))])) (fun _ k => XS.iconst X12.here hx rfl (hb hby at_92) k) ?_
    refine own_step (g' := (mkF m 96 #[.val (.int p1), .val (.int ((p1 &&& (2147483647 : Int32)) % (3 : Int32))), .val (.ref w_OPTIMISTIC), .val (.int (0 : Int32)), .val (.ref b3), .val (.int (0 : Int32)), .val (.int (0 : Int32)), .val (.int (0 : Int32))] [])) (fun _ k => XS.icmpNo X12.here hx rfl (hb hby at_93) rfl (teq (by decide : (0 : Int32) = (0 : Int32))).2 k) ?_
    refine own_step (g' := (mkF m 97 #[.val (.int p1), .val (.int ((p1 &&& (2147483647 : Int32)) % (3 : Int32))), .val (.ref w_OPTIMISTIC), .val (.int (0 : Int32)), .val (.ref b3), .val (.int (0 : Int32)), .val (.int (0 : Int32)), .val (.int (0 : Int32))] [(.int (1 : Int32))])) (fun _ k => XS.iconst X12.here hx rfl (hb hby at_96) k) ?_
    refine own_step (g' := (mkF m 101 #[.val (.int p1), .val (.int ((p1 &&& (2147483647 : Int32)) % (3 : Int32))), .val (.ref w_OPTIMISTIC), .val (.int (0 : Int32)), .val (.ref b3), .val (.int (0 : Int32)), .val (.int (0 : Int32)), .val (.int (0 : Int32))] [(.int (1 : Int32))])) (fun _ k => XS.goto X12.here hx rfl (pc0 := 97) (pc' := 101) rfl (hb hby at_97) (by decide) (by decide) k) ?_
    exact own_retN X12 hx (t := .boolean) hret (by simp) hlk (hb hby at_101) e12 (by exact ⟨rfl, N5⟩) (by decide) (by decide)
  · refine own_step (g' := (mkF m 20 #[.val (.int p1), .val (.int ((p1 &&& (2147483647 : Int32)) % (3 : Int32))), .unset, .unset, .unset, .unset, .unset, .unset] [])) (fun _ k => XS.ifYes X0.here hx rfl (pc0 := 8) (pc' := 20) rfl (hb hby at_8) rfl ((if0 _ _).trans (feq hc1).2) (by decide) (by decide) k) ?_
    refine own_step (g' := (mkF m 21 #[.val (.int p1), .val (.int ((p1 &&& (2147483647 : Int32)) % (3 : Int32))), .unset, .unset, .unset, .unset, .unset, .unset] [(.int ((p1 &&& (2147483647 : Int32)) % (3 : Int32)))])) (fun _ k => XS.iloadN X0.here hx rfl (hb hby at_20) rfl k) ?_
    refine own_step (g' := (mkF m 22 #[.val (.int p1), .val (.int ((p1 &&& (2147483647 : Int32)) % (3 : Int32))), .unset, .unset, .unset, .unset, .unset, .unset] [(.int (1 : Int32)), (.int ((p1 &&& (2147483647 : Int32)) % (3 : Int32)))])) (fun _ k => XS.iconst X0.here hx rfl (hb hby at_21) k) ?_
    by_cases hc13 : ((p1 &&& (2147483647 : Int32)) % (3 : Int32)) = (1 : Int32)
    · refine own_step (g' := (mkF m 25 #[.val (.int p1), .val (.int ((p1 &&& (2147483647 : Int32)) % (3 : Int32))), .unset, .unset, .unset, .unset, .unset, .unset] [])) (fun _ k => XS.icmpNo X0.here hx rfl (hb hby at_22) rfl (teq hc13).2 k) ?_
      obtain ⟨T14, X14, e14, st14⟩ := getS2 X0 hx hZ hown (host := "") (Or.inl (hw _ (List.mem_of_getElem? (i := 70) rfl))) Via.refl e0 S_PESSIMISTIC (g := (mkF m 25 #[.val (.int p1), .val (.int ((p1 &&& (2147483647 : Int32)) % (3 : Int32))), .unset, .unset, .unset, .unset, .unset, .unset] [])) rfl (hb hby at_25)
      refine own_via (g' := (mkF m 28 #[.val (.int p1), .val (.int ((p1 &&& (2147483647 : Int32)) % (3 : Int32))), .unset, .unset, .unset, .unset, .unset, .unset] [(.ref w_PESSIMISTIC)])) st14 ?_
      refine own_step (g' := (mkF m 29 #[.val (.int p1), .val (.int ((p1 &&& (2147483647 : Int32)) % (3 : Int32))), .val (.ref w_PESSIMISTIC), .unset, .unset, .unset, .unset, .unset] [])) (fun _ k => XS.astoreN X14.here hx rfl (hb hby at_28) rfl rfl (l' := #[.val (.int p1), .val (.int ((p1 &&& (2147483647 : Int32)) % (3 : Int32))), .val (.ref w_PESSIMISTIC), .unset, .unset, .unset, .unset, .unset]) rfl k) ?_
      refine own_step (g' := (mkF m 30 #[.val (.int p1), .val (.int ((p1 &&& (2147483647 : Int32)) % (3 : Int32))), .val (.ref w_PESSIMISTIC), .unset, .unset, .unset, .unset, .unset] [(.int (0 : Int32))])) (fun _ k => XS.iconst X14.here hx rfl (hb hby at_29) k) ?_
      refine own_step (g' := (mkF m 31 #[.val (.int p1), .val (.int ((p1 &&& (2147483647 : Int32)) % (3 : Int32))), .val (.ref w_PESSIMISTIC), .val (.int (0 : Int32)), .unset, .unset, .unset, .unset] [])) (fun _ k => XS.istoreN X14.here hx rfl (hb hby at_30) rfl (l' := #[.val (.int p1), .val (.int ((p1 &&& (2147483647 : Int32)) % (3 : Int32))), .val (.ref w_PESSIMISTIC), .val (.int (0 : Int32)), .unset, .unset, .unset, .unset]) rfl k) ?_
      refine own_step (g' := (mkF m 40 #[.val (.int p1), .val (.int ((p1 &&& (2147483647 : Int32)) % (3 : Int32))), .val (.ref w_PESSIMISTIC), .val (.int (0 : Int32)), .unset, .unset, .unset, .unset] [])) (fun _ k => XS.goto X14.here hx rfl (pc0 := 31) (pc' := 40) rfl (hb hby at_31) (by decide) (by decide) k) ?_
      obtain ⟨T15, h15, X15, e15, E15, A15, D15, -, st15⟩ := newO X14 hx hZ hown (hw _ (List.mem_of_getElem? (i := 4) rfl)) (hw _ (List.mem_of_getElem? (i := 5) rfl)) (hw _ (List.mem_of_getElem? (i := 6) rfl)) e14 (g := (mkF m 40 #[.val (.int p1), .val (.int ((p1 &&& (2147483647 : Int32)) % (3 : Int32))), .val (.ref w_PESSIMISTIC), .val (.int (0 : Int32)), .unset, .unset, .unset, .unset] [])) rfl (hb hby at_40) (by decide) (by decide)
      obtain ⟨b15, g15⟩ : ∃ z, z = h0.size := ⟨_, rfl⟩
      rw [← g15] at A15 D15 st15
      have g_b15 : n0 ≤ b15 := Nat.le_trans Z0 (Nat.le_of_eq g15.symm)
      have ne_w_OPTIMISTIC_b15 : w_OPTIMISTIC ≠ b15 := Nat.ne_of_lt (Nat.lt_of_lt_of_le C_OPTIMISTIC.lt (Nat.le_of_eq g15.symm))
      have ne_w_PESSIMISTIC_b15 : w_PESSIMISTIC ≠ b15 := Nat.ne_of_lt (Nat.lt_of_lt_of_le C_PESSIMISTIC.lt (Nat.le_of_eq g15.symm))
      have ne_w_ADAPTIVE_b15 : w_ADAPTIVE ≠ b15 := Nat.ne_of_lt (Nat.lt_of_lt_of_le C_ADAPTIVE.lt (Nat.le_of_eq g15.symm))
      have F15_modCount : Fld Z h15 b15 "java/util/AbstractList" "modCount" "I" (.int (0 : Int32)) := D15 (Or.inl (hw _ (List.mem_of_getElem? (i := 26) rfl))) (ty := .int) (by decide)
      have F15_elementData : Fld Z h15 b15 "java/util/ArrayList" "elementData" "[Ljava/lang/Object;" .null := D15 (Or.inl (hw _ (List.mem_of_getElem? (i := 29) rfl))) (ty := (.array (.object "java/lang/Object"))) (by decide)
      have F15_size : Fld Z h15 b15 "java/util/ArrayList" "size" "I" (.int (0 : Int32)) := D15 (Or.inl (hw _ (List.mem_of_getElem? (i := 55) rfl))) (ty := .int) (by decide)
      refine own_via (g' := (mkF m 43 #[.val (.int p1), .val (.int ((p1 &&& (2147483647 : Int32)) % (3 : Int32))), .val (.ref w_PESSIMISTIC), .val (.int (0 : Int32)), .unset, .unset, .unset, .unset] [(.ref b15)])) st15 ?_
      refine own_step (g' := (mkF m 44 #[.val (.int p1), .val (.int ((p1 &&& (2147483647 : Int32)) % (3 : Int32))), .val (.ref w_PESSIMISTIC), .val (.int (0 : Int32)), .unset, .unset, .unset, .unset] [(.ref b15), (.ref b15)])) (fun _ k => XS.dup X15.here hx rfl (hb hby at_43) rfl rfl k) ?_
      have S_16 : Sta Z h15 "java/util/ArrayList" "DEFAULTCAPACITY_EMPTY_ELEMENTDATA" "[Ljava/lang/Object;" (.ref ed) := (Sta.ext E15 S_DC)
      refine own_init X15 hx hZ (W := 1) hown e15 (rm1 l Z a0 hw [] b15 ed h15 n0 (Nat.le_trans Z0 E15.1) S_16 g_b15 A15 F15_modCount F15_elementData F15_size) rfl (hw _ (List.mem_of_getElem? (i := 7) rfl)) (hw _ (List.mem_of_getElem? (i := 8) rfl)) (hw _ (List.mem_of_getElem? (i := 9) rfl)) (hw _ (List.mem_of_getElem? (i := 6) rfl)) (by decide) (by decide) (by decide) (g := (mkF m 44 #[.val (.int p1), .val (.int ((p1 &&& (2147483647 : Int32)) % (3 : Int32))), .val (.ref w_PESSIMISTIC), .val (.int (0 : Int32)), .unset, .unset, .unset, .unset] [(.ref b15), (.ref b15)])) rfl (by rw [hml]; rfl) (argsL := []) (rest := [(.ref b15)]) rfl (lenOf pd_0 rfl) rfl (by show 2 * 0 + _ ≤ _; exact Nat.le_of_eq rfl) (hb hby at_44) (by decide) (by decide) ?_
      intro v17 T17 L17 X17 hQ17
      obtain ⟨rfl, Nq17, Kq17, Ci, Fi1, Fi2, Fi3⟩ := hQ17
      have N17 := Fr.app N0 Nq17
      show OGo p e below _ T17 (mkF m 47 #[.val (.int p1), .val (.int ((p1 &&& (2147483647 : Int32)) % (3 : Int32))), .val (.ref w_PESSIMISTIC), .val (.int (0 : Int32)), .unset, .unset, .unset, .unset] [(.ref b15)])
      refine own_step (g' := (mkF m 49 #[.val (.int p1), .val (.int ((p1 &&& (2147483647 : Int32)) % (3 : Int32))), .val (.ref w_PESSIMISTIC), .val (.int (0 : Int32)), .val (.ref b15), .unset, .unset, .unset] [])) (fun _ k => XS.astore X17.here hx rfl (hb hby at_47) rfl rfl (l' := #[.val (.int p1), .val (.int ((p1 &&& (2147483647 : Int32)) % (3 : Int32))), .val (.ref w_PESSIMISTIC), .val (.int (0 : Int32)), .val (.ref b15), .unset, .unset, .unset]) rfl k) ?_
      refine own_step (g' := (mkF m 50 #[.val (.int p1), .val (.int ((p1 &&& (2147483647 : Int32)) % (3 : Int32))), .val (.ref w_PESSIMISTIC), .val (.int (0 : Int32)), .val (.ref b15), .unset, .unset, .unset] [(.ref w_PESSIMISTIC)])) (fun _ k => XS.aloadN X17.here hx rfl (hb hby at_49) rfl rfl k) ?_
      refine own_step (g' := (mkF m 52 #[.val (.int p1), .val (.int ((p1 &&& (2147483647 : Int32)) % (3 : Int32))), .val (.ref w_PESSIMISTIC), .val (.int (0 : Int32)), .val (.ref b15), .unset, .unset, .unset] [(.ref b15), (.ref w_PESSIMISTIC)])) (fun _ k => XS.aload X17.here hx rfl (hb hby at_50) rfl rfl k) ?_
      refine own_step (g' := (mkF m 53 #[.val (.int p1), .val (.int ((p1 &&& (2147483647 : Int32)) % (3 : Int32))), .val (.ref w_PESSIMISTIC), .val (.int (0 : Int32)), .val (.ref b15), .unset, .unset, .unset] [(.int (1 : Int32)), (.ref b15), (.ref w_PESSIMISTIC)])) (fun _ k => XS.iconst X17.here hx rfl (hb hby at_52) k) ?_
      have F_18 : Fld Z T17.heap w_PESSIMISTIC "com/example/nowait/nowait/Strategy" "locksAfterConflict" "Z" (.int (1 : Int32)) := ((Fld.ext E15 Fa_PESSIMISTIC).keep Kq17 (ninS ne_w_PESSIMISTIC_b15 nin0))
      have F_19 : Fld Z T17.heap w_PESSIMISTIC "com/example/nowait/nowait/Strategy" "locksBeforeConflict" "Z" (.int (1 : Int32)) := ((Fld.ext E15 Fb_PESSIMISTIC).keep Kq17 (ninS ne_w_PESSIMISTIC_b15 nin0))
      have S_20 : Sta Z T17.heap "com/example/nowait/nowait/FailureKind" "CONFLICT" "Lcom/example/nowait/nowait/FailureKind;" (.ref o2) := (own_sta_keep (Sta.ext E15 S_CONFLICT) Kq17 (allS (own_nsE A15) all0))
      have C_22 : Exa Z T17.heap w_PESSIMISTIC "com/example/nowait/nowait/Strategy" := ((Exa.ext E15 C_PESSIMISTIC).keep Kq17)
      refine own_callV X17 hx hZ (W := 0) hown rfl (rm5_11_1 l Z a0 hw [] w_PESSIMISTIC b15 o2 ed T17.heap n0 (Nat.le_trans (Nat.le_trans Z0 E15.1) Kq17.1) F_18 F_19 Ci Fi2 Fi3 S_20) C_22 (hw _ (List.mem_of_getElem? (i := 30) rfl)) (hw _ (List.mem_of_getElem? (i := 31) rfl)) (notFace_of_selects (args := #[]) (mvT hZ (hw _ (List.mem_of_getElem? (i := 33) rfl)))) (hw _ (List.mem_of_getElem? (i := 33) rfl)) (hw _ (List.mem_of_getElem? (i := 32) rfl)) (hw _ (List.mem_of_getElem? (i := 34) rfl)) (hw _ (List.mem_of_getElem? (i := 2) rfl)) (by decide) (by decide) (by decide) (g := (mkF m 53 #[.val (.int p1), .val (.int ((p1 &&& (2147483647 : Int32)) % (3 : Int32))), .val (.ref w_PESSIMISTIC), .val (.int (0 : Int32)), .val (.ref b15), .unset, .unset, .unset] [(.int (1 : Int32)), (.ref b15), (.ref w_PESSIMISTIC)])) rfl (by rw [hml]; rfl) (argsL := [(.ref b15), (.int (1 : Int32))]) (rest := []) rfl (lenOf pd_4 rfl) rfl (by show 2 * 0 + _ ≤ _; exact Nat.le_of_eq rfl) (hb hby at_53) (by decide) (by decide) ?_
      intro v21 T21 L21 X21 hQ21
      obtain ⟨rfl, rfl, e21⟩ := hQ21
      replace X21 := own_pureX X21
      show OGo p e below _ T21 (mkF m 56 #[.val (.int p1), .val (.int ((p1 &&& (2147483647 : Int32)) % (3 : Int32))), .val (.ref w_PESSIMISTIC), .val (.int (0 : Int32)), .val (.ref b15), .unset, .unset, .unset] [(.int (1 : Int32))])
      refine own_step (g' := (mkF m 58 #[.val (.int p1), .val (.int ((p1 &&& (2147483647 : Int32)) % (3 : Int32))), .val (.ref w_PESSIMISTIC), .val (.int (0 : Int32)), .val (.ref b15), .val (.int (1 : Int32)), .unset, .unset] [])) (fun _ k => XS.istore X21.here hx rfl (hb hby at_56) rfl (l' := #[.val (.int p1), .val (.int ((p1 &&& (2147483647 : Int32)) % (3 : Int32))), .val (.ref w_PESSIMISTIC), .val (.int (0 : Int32)), .val (.ref b15), .val (.int (1 : Int32)), .unset, .unset]) rfl k) ?_
      refine own_step (g' := (mkF m 59 #[.val (.int p1), .val (.int ((p1 &&& (2147483647 : Int32)) % (3 : Int32))), .val (.ref w_PESSIMISTIC), .val (.int (0 : Int32)), .val (.ref b15), .val (.int (1 : Int32)), .unset, .unset] [(.ref w_PESSIMISTIC)])) (fun _ k => XS.aloadN X21.here hx rfl (hb hby at_58) rfl rfl k) ?_
      refine own_step (g' := (mkF m 61 #[.val (.int p1), .val (.int ((p1 &&& (2147483647 : Int32)) % (3 : Int32))), .val (.ref w_PESSIMISTIC), .val (.int (0 : Int32)), .val (.ref b15), .val (.int (1 : Int32)), .unset, .unset] [(.ref b15), (.ref w_PESSIMISTIC)])) (fun _ k => XS.aload X21.here hx rfl (hb hby at_59) rfl rfl k) ?_
      refine own_step (g' := (mkF m 62 #[.val (.int p1), .val (.int ((p1 &&& (2147483647 : Int32)) % (3 : Int32))), .val (.ref w_PESSIMISTIC), .val (.int (0 : Int32)), .val (.ref b15), .val (.int (1 : Int32)), .unset, .unset] [(.int (0 : Int32)), (.ref b15), (.ref w_PESSIMISTIC)])) (fun _ k => XS.iconst X21.here hx rfl (hb hby at_61) k) ?_
      refine own_callV X21 hx hZ (W := 0) hown e21 (rm5_11_0 l Z a0 hw [] w_PESSIMISTIC b15 o2 ed T17.heap n0 (Nat.le_trans (Nat.le_trans Z0 E15.1) Kq17.1) F_18 F_19 Ci Fi2 Fi3 S_20) C_22 (hw _ (List.mem_of_getElem? (i := 30) rfl)) (hw _ (List.mem_of_getElem? (i := 31) rfl)) (notFace_of_selects (args := #[]) (mvT hZ (hw _ (List.mem_of_getElem? (i := 33) rfl)))) (hw _ (List.mem_of_getElem? (i := 33) rfl)) (hw _ (List.mem_of_getElem? (i := 32) rfl)) (hw _ (List.mem_of_getElem? (i := 34) rfl)) (hw _ (List.mem_of_getElem? (i := 2) rfl)) (by decide) (by decide) (by decide) (g := (mkF m 62 #[.val (.int p1), .val (.int ((p1 &&& (2147483647 : Int32)) % (3 : Int32))), .val (.ref w_PESSIMISTIC), .val (.int (0 : Int32)), .val (.ref b15), .val (.int (1 : Int32)), .unset, .unset] [(.int (0 : Int32)), (.ref b15), (.ref w_PESSIMISTIC)])) rfl (by rw [hml]; rfl) (argsL := [(.ref b15), (.int (0 : Int32))]) (rest := []) rfl (lenOf pd_4 rfl) rfl (by show 2 * 0 + _ ≤ _; exact Nat.le_of_eq rfl) (hb hby at_62) (by decide) (by decide) ?_
      intro v23 T23 L23 X23 hQ23
      obtain ⟨rfl, rfl, e23⟩ := hQ23
      replace X23 := own_pureX X23
      show OGo p e below _ T23 (mkF m 65 #[.val (.int p1), .val (.int ((p1 &&& (2147483647 : Int32)) % (3 : Int32))), .val (.ref w_PESSIMISTIC), .val (.int (0 : Int32)), .val (.ref b15), .val (.int (1 : Int32)), .unset, .unset] [(.int (1 : Int32))])
      refine own_step (g' := (mkF m 67 #[.val (.int p1), .val (.int ((p1 &&& (2147483647 : Int32)) % (3 : Int32))), .val (.ref w_PESSIMISTIC), .val (.int (0 : Int32)), .val (.ref b15), .val (.int (1 : Int32)), .val (.int (1 : Int32)), .unset] [])) (fun _ k => XS.istore X23.here hx rfl (hb hby at_65) rfl (l' := #[.val (.int p1), .val (.int ((p1 &&& (2147483647 : Int32)) % (3 : Int32))), .val (.ref w_PESSIMISTIC), .val (.int (0 : Int32)), .val (.ref b15), .val (.int (1 : Int32)), .val (.int (1 : Int32)), .unset]) rfl k) ?_
      refine own_step (g' := (mkF m 68 #[.val (.int p1), .val (.int ((p1 &&& (2147483647 : Int32)) % (3 : Int32))), .val (.ref w_PESSIMISTIC), .val (.int (0 : Int32)), .val (.ref b15), .val (.int (1 : Int32)), .val (.int (1 : Int32)), .unset] [(.ref w_PESSIMISTIC)])) (fun _ k => XS.aloadN X23.here hx rfl (hb hby at_67) rfl rfl k) ?_
      refine own_callV X23 hx hZ (W := 0) hown e23 (rm9_11 l Z a0 hw [] w_PESSIMISTIC T17.heap n0 (Nat.le_trans (Nat.le_trans Z0 E15.1) Kq17.1) F_18 F_19) C_22 (hw _ (List.mem_of_getElem? (i := 63) rfl)) (hw _ (List.mem_of_getElem? (i := 64) rfl)) (notFace_of_selects (args := #[]) (mvT hZ (hw _ (List.mem_of_getElem? (i := 66) rfl)))) (hw _ (List.mem_of_getElem? (i := 66) rfl)) (hw _ (List.mem_of_getElem? (i := 65) rfl)) (hw _ (List.mem_of_getElem? (i := 67) rfl)) (hw _ (List.mem_of_getElem? (i := 2) rfl)) (by decide) (by decide) (by decide) (g := (mkF m 68 #[.val (.int p1), .val (.int ((p1 &&& (2147483647 : Int32)) % (3 : Int32))), .val (.ref w_PESSIMISTIC), .val (.int (0 : Int32)), .val (.ref b15), .val (.int (1 : Int32)), .val (.int (1 : Int32)), .unset] [(.ref w_PESSIMISTIC)])) rfl (by rw [hml]; rfl) (argsL := []) (rest := []) rfl (lenOf pd_5 rfl) rfl (by show 2 * 0 + _ ≤ _; exact Nat.le_of_eq rfl) (hb hby at_68) (by decide) (by decide) ?_
      intro v24 T24 L24 X24 hQ24
      obtain ⟨rfl, rfl, e24⟩ := hQ24
      replace X24 := own_pureX X24
      show OGo p e below _ T24 (mkF m 71 #[.val (.int p1), .val (.int ((p1 &&& (2147483647 : Int32)) % (3 : Int32))), .val (.ref w_PESSIMISTIC), .val (.int (0 : Int32)), .val (.ref b15), .val (.int (1 : Int32)), .val (.int (1 : Int32)), .unset] [(.int (0 : Int32))])
      refine own_step (g' := (mkF m 73 #[.val (.int p1), .val (.int ((p1 &&& (2147483647 : Int32)) % (3 : Int32))), .val (.ref w_PESSIMISTIC), .val (.int (0 : Int32)), .val (.ref b15), .val (.int (1 : Int32)), .val (.int (1 : Int32)), .val (.int (0 : Int32))] [])) (fun _ k => XS.istore X24.here hx rfl (hb hby at_71) rfl (l' := #[.val (.int p1), .val (.int ((p1 &&& (2147483647 : Int32)) % (3 : Int32))), .val (.ref w_PESSIMISTIC), .val (.int (0 : Int32)), .val (.ref b15), .val (.int (1 : Int32)), .val (.int (1 : Int32)), .val (.int (0 : Int32))]) rfl k) ?_
      refine own_step (g' := (mkF m 75 #[.val (.int p1), .val (.int ((p1 &&& (2147483647 : Int32)) % (3 : Int32))), .val (.ref w_PESSIMISTIC), .val (.int (0 : Int32)), .val (.ref b15), .val (.int (1 : Int32)), .val (.int (1 : Int32)), .val (.int (0 : Int32))] [(.int (0 : Int32))])) (fun _ k => XS.iload X24.here hx rfl (hb hby at_73) rfl k) ?_
      refine own_step (g' := (mkF m 76 #[.val (.int p1), .val (.int ((p1 &&& (2147483647 : Int32)) % (3 : Int32))), .val (.ref w_PESSIMISTIC), .val (.int (0 : Int32)), .val (.ref b15), .val (.int (1 : Int32)), .val (.int (1 : Int32)), .val (.int (0 : Int32))] [(.int (0 : Int32)), (.int (0 : Int32))])) (fun _ k => XS.iloadN X24.here hx rfl (hb hby at_75) rfl k) ?_
      refine own_step (g' := (mkF m 79 #[.val (.int p1), .val (.int ((p1 &&& (2147483647 : Int32)) % (3 : Int32))), .val (.ref w_PESSIMISTIC), .val (.int (0 : Int32)), .val (.ref b15), .val (.int (1 : Int32)), .val (.int (1 : Int32)), .val (.int (0 : Int32))] [])) (fun _ k => XS.icmpNo X24.here hx rfl (hb hby at_76) rfl (teq (by decide : (0 : Int32) = (0 : Int32))).2 k) ?_
      refine own_step (g' := (mkF m 81 #[.val (.int p1), .val (.int ((p1 &&& (2147483647 : Int32)) % (3 : Int32))), .val (.ref w_PESSIMISTIC), .val (.int (0 : Int32)), .val (.ref b15), .val (.int (1 : Int32)), .val (.int (1 : Int32)), .val (.int (0 : Int32))] [(.int (0 : Int32))])) (fun _ k => XS.iload X24.here hx rfl (hb hby at_79) rfl k) ?_
      refine own_step (g' := (mkF m 83 #[.val (.int p1), .val (.int ((p1 &&& (2147483647 : Int32)) % (3 : Int32))), .val (.ref w_PESSIMISTIC), .val (.int (0 : Int32)), .val (.ref b15), .val (.int (1 : Int32)), .val (.int (1 : Int32)), .val (.int (0 : Int32))] [(.int (1 : Int32)), (.int (0 : Int32))])) (fun _ k => XS.iload X24.here hx rfl (hb hby at_81) rfl k) ?_
      refine own_step (g' := (mkF m 85 #[.val (.int p1), .val (.int ((p1 &&& (2147483647 : Int32)) % (3 : Int32))), .val (.ref w_PESSIMISTIC), .val (.int (0 : Int32)), .val (.ref b15), .val (.int (1 : Int32)), .val (.int (1 : Int32)), .val (.int (0 : Int32))] [(.int (1 : Int32)), (.int (1 : Int32)), (.int (0 : Int32))])) (fun _ k => XS.iload X24.here hx rfl (hb hby at_83) rfl k) ?_
      refine own_step (g' := (mkF m 92 #[.val (.int p1), .val (.int ((p1 &&& (2147483647 : Int32)) % (3 : Int32))), .val (.ref w_PESSIMISTIC), .val (.int (0 : Int32)), .val (.ref b15), .val (.int (1 : Int32)), .val (.int (1 : Int32)), .val (.int (0 : Int32))] [(.int (0 : Int32))])) (fun _ k => XS.icmpYes X24.here hx rfl (pc0 := 85) (pc' := 92) rfl (hb hby at_85) rfl (teq (by decide : (1 : Int32) = (1 : Int32))).1 (by decide) (by decide) k) ?_
      refine own_step (g' := (mkF m 93 #[.val (.int p1), .val (.int ((p1 &&& (2147483647 : Int32)) % (3 : Int32))), .val (.ref w_PESSIMISTIC), .val (.int (0 : Int32)), .val (.ref b15), .val (.int (1 : Int32)), .val (.int (1 : Int32)), .val (.int (0 : Int32))] [(.int (0 : Int32)), (.int (0 : Int32))])) (fun _ k => XS.iconst X24.here hx rfl (hb hby at_92) k) ?_
      refine own_step (g' := (mkF m 96 #[.val (.int p1), .val (.int ((p1 &&& (2147483647 : Int32)) % (3 : Int32))), .val (.ref w_PESSIMISTIC), .val (.int (0 : Int32)), .val (.ref b15), .val (.int (1 : Int32)), .val (.int (1 : Int32)), .val (.int (0 : Int32))] [])) (fun _ k => XS.icmpNo X24.here hx rfl (hb hby at_93) rfl (teq (by decide : (0 : Int32) = (0 : Int32))).2 k) ?_
      refine own_step (g' := (mkF m 97 #[.val (.int p1), .val (.int ((p1 &&& (2147483647 : Int32)) % (3 : Int32))), .val (.ref w_PESSIMISTIC), .val (.int (0 : Int32)), .val (.ref b15), .val (.int (1 : Int32)), .val (.int (1 : Int32)), .val (.int (0 : Int32))] [(.int (1 : Int32))])) (fun _ k => XS.iconst X24.here hx rfl (hb hby at_96) k) ?_
      refine own_step (g' := (mkF m 101 #[.val (.int p1), .val (.int ((p1 &&& (2147483647 : Int32)) % (3 : Int32))), .val (.ref w_PESSIMISTIC), .val (.int (0 : Int32)), .val (.ref b15), .val (.int (1 : Int32)), .val (.int (1 : Int32)), .val (.int (0 : Int32))] [(.int (1 : Int32))])) (fun _ k => XS.goto X24.here hx rfl (pc0 := 97) (pc' := 101) rfl (hb hby at_97) (by decide) (by decide) k) ?_
      exact own_retN X24 hx (t := .boolean) hret (by simp) hlk (hb hby at_101) e24 (by exact ⟨rfl, N17⟩) (by decide) (by decide)
    · refine own_step (g' := (mkF m 34 #[.val (.int p1), .val (.int ((p1 &&& (2147483647 : Int32)) % (3 : Int32))), .unset, .unset, .unset, .unset, .unset, .unset] [])) (fun _ k => XS.icmpYes X0.here hx rfl (pc0 := 22) (pc' := 34) rfl (hb hby at_22) rfl (feq hc13).2 (by decide) (by decide) k) ?_
      obtain ⟨T25, X25, e25, st25⟩ := getS2 X0 hx hZ hown (host := "") (Or.inl (hw _ (List.mem_of_getElem? (i := 68) rfl))) Via.refl e0 S_ADAPTIVE (g := (mkF m 34 #[.val (.int p1), .val (.int ((p1 &&& (2147483647 : Int32)) % (3 : Int32))), .unset, .unset, .unset, .unset, .unset, .unset] [])) rfl (hb hby at_34)
      refine own_via (g' := (mkF m 37 #[.val (.int p1), .val (.int ((p1 &&& (2147483647 : Int32)) % (3 : Int32))), .unset, .unset, .unset, .unset, .unset, .unset] [(.ref w_ADAPTIVE)])) st25 ?_
      refine own_step (g' := (mkF m 38 #[.val (.int p1), .val (.int ((p1 &&& (2147483647 : Int32)) % (3 : Int32))), .val (.ref w_ADAPTIVE), .unset, .unset, .unset, .unset, .unset] [])) (fun _ k => XS.astoreN X25.here hx rfl (hb hby at_37) rfl rfl (l' := #[.val (.int p1), .val (.int ((p1 &&& (2147483647 : Int32)) % (3 : Int32))), .val (.ref w_ADAPTIVE), .unset, .unset, .unset, .unset, .unset]) rfl k) ?_
      refine own_step (g' := (mkF m 39 #[.val (.int p1), .val (.int ((p1 &&& (2147483647 : Int32)) % (3 : Int32))), .val (.ref w_ADAPTIVE), .unset, .unset, .unset, .unset, .unset] [(.int (1 : Int32))])) (fun _ k => XS.iconst X25.here hx rfl (hb hby at_38) k) ?_
      refine own_step (g' := (mkF m 40 #[.val (.int p1), .val (.int ((p1 &&& (2147483647 : Int32)) % (3 : Int32))), .val (.ref w_ADAPTIVE), .val (.int (1 : Int32)), .unset, .unset, .unset, .unset] [])) (fun _ k => XS.istoreN X25.here hx rfl (hb hby at_39) rfl (l' := #[.val (.int p1), .val (.int ((p1 &&& (2147483647 : Int32)) % (3 : Int32))), .val (.ref w_ADAPTIVE), .val (.int (1 : Int32)), .unset, .unset, .unset, .unset]) rfl k) ?_
      obtain ⟨T26, h26, X26, e26, E26, A26, D26, -, st26⟩ := newO X25 hx hZ hown (hw _ (List.mem_of_getElem? (i := 4) rfl)) (hw _ (List.mem_of_getElem? (i := 5) rfl)) (hw _ (List.mem_of_getElem? (i := 6) rfl)) e25 (g := (mkF m 40 #[.val (.int p1), .val (.int ((p1 &&& (2147483647 : Int32)) % (3 : Int32))), .val (.ref w_ADAPTIVE), .val (.int (1 : Int32)), .unset, .unset, .unset, .unset] [])) rfl (hb hby at_40) (by decide) (by decide)
      obtain ⟨b26, g26⟩ : ∃ z, z = h0.size := ⟨_, rfl⟩
      rw [← g26] at A26 D26 st26
      have g_b26 : n0 ≤ b26 := Nat.le_trans Z0 (Nat.le_of_eq g26.symm)
      have ne_w_OPTIMISTIC_b26 : w_OPTIMISTIC ≠ b26 := Nat.ne_of_lt (Nat.lt_of_lt_of_le C_OPTIMISTIC.lt (Nat.le_of_eq g26.symm))
      have ne_w_PESSIMISTIC_b26 : w_PESSIMISTIC ≠ b26 := Nat.ne_of_lt (Nat.lt_of_lt_of_le C_PESSIMISTIC.lt (Nat.le_of_eq g26.symm))
      have ne_w_ADAPTIVE_b26 : w_ADAPTIVE ≠ b26 := Nat.ne_of_lt (Nat.lt_of_lt_of_le C_ADAPTIVE.lt (Nat.le_of_eq g26.symm))
      have F26_modCount : Fld Z h26 b26 "java/util/AbstractList" "modCount" "I" (.int (0 : Int32)) := D26 (Or.inl (hw _ (List.mem_of_getElem? (i := 26) rfl))) (ty := .int) (by decide)
      have F26_elementData : Fld Z h26 b26 "java/util/ArrayList" "elementData" "[Ljava/lang/Object;" .null := D26 (Or.inl (hw _ (List.mem_of_getElem? (i := 29) rfl))) (ty := (.array (.object "java/lang/Object"))) (by decide)
      have F26_size : Fld Z h26 b26 "java/util/ArrayList" "size" "I" (.int (0 : Int32)) := D26 (Or.inl (hw _ (List.mem_of_getElem? (i := 55) rfl))) (ty := .int) (by decide)
      refine own_via (g' := (mkF m 43 #[.val (.int p1), .val (.int ((p1 &&& (2147483647 : Int32)) % (3 : Int32))), .val (.ref w_ADAPTIVE), .val (.int (1 : Int32)), .unset, .unset, .unset, .unset] [(.ref b26)])) st26 ?_
      refine own_step (g' := (mkF m 44 #[.val (.int p1), .val (.int ((p1 &&& (2147483647 : Int32)) % (3 : Int32))), .val (.ref w_ADAPTIVE), .val (.int (1 : Int32)), .unset, .unset, .unset, .unset] [(.ref b26), (.ref b26)])) (fun _ k => XS.dup X26.here hx rfl (hb hby at_43) rfl rfl k) ?_
      have S_27 : Sta Z h26 "java/util/ArrayList" "DEFAULTCAPACITY_EMPTY_ELEMENTDATA" "[Ljava/lang/Object;" (.ref ed) := (Sta.ext E26 S_DC)
      refine own_init X26 hx hZ (W := 1) hown e26 (rm1 l Z a0 hw [] b26 ed h26 n0 (Nat.le_trans Z0 E26.1) S_27 g_b26 A26 F26_modCount F26_elementData F26_size) rfl (hw _ (List.mem_of_getElem? (i := 7) rfl)) (hw _ (List.mem_of_getElem? (i := 8) rfl)) (hw _ (List.mem_of_getElem? (i := 9) rfl)) (hw _ (List.mem_of_getElem? (i := 6) rfl)) (by decide) (by decide) (by decide) (g := (mkF m 44 #[.val (.int p1), .val (.int ((p1 &&& (2147483647 : Int32)) % (3 : Int32))), .val (.ref w_ADAPTIVE), .val (.int (1 : Int32)), .unset, .unset, .unset, .unset] [(.ref b26), (.ref b26)])) rfl (by rw [hml]; rfl) (argsL := []) (rest := [(.ref b26)]) rfl (lenOf pd_0 rfl) rfl (by show 2 * 0 + _ ≤ _; exact Nat.le_of_eq rfl) (hb hby at_44) (by decide) (by decide) ?_
      intro v28 T28 L28 X28 hQ28
      obtain ⟨rfl, Nq28, Kq28, Ci, Fi1, Fi2, Fi3⟩ := hQ28
      have N28 := Fr.app N0 Nq28
      show OGo p e below _ T28 (mkF m 47 #[.val (.int p1), .val (.int ((p1 &&& (2147483647 : Int32)) % (3 : Int32))), .val (.ref w_ADAPTIVE), .val (.int (1 : Int32)), .unset, .unset, .unset, .unset] [(.ref b26)])
      refine own_step (g' := (mkF m 49 #[.val (.int p1), .val (.int ((p1 &&& (2147483647 : Int32)) % (3 : Int32))), .val (.ref w_ADAPTIVE), .val (.int (1 : Int32)), .val (.ref b26), .unset, .unset, .unset] [])) (fun _ k => XS.astore X28.here hx rfl (hb hby at_47) rfl rfl (l' := #[.val (.int p1), .val (.int ((p1 &&& (2147483647 : Int32)) % (3 : Int32))), .val (.ref w_ADAPTIVE), .val (.int (1 : Int32)), .val (.ref b26), .unset, .unset, .unset]) rfl k) ?_
      refine own_step (g' := (mkF m 50 #[.val (.int p1), .val (.int ((p1 &&& (2147483647 : Int32)) % (3 : Int32))), .val (.ref w_ADAPTIVE), .val (.int (1 : Int32)), .val (.ref b26), .unset, .unset, .unset] [(.ref w_ADAPTIVE)])) (fun _ k => XS.aloadN X28.here hx rfl (hb hby at_49) rfl rfl k) ?_
      refine own_step (g' := (mkF m 52 #[.val (.int p1), .val (.int ((p1 &&& (2147483647 : Int32)) % (3 : Int32))), .val (.ref w_ADAPTIVE), .val (.int (1 : Int32)), .val (.ref b26), .unset, .unset, .unset] [(.ref b26), (.ref w_ADAPTIVE)])) (fun _ k => XS.aload X28.here hx rfl (hb hby at_50) rfl rfl k) ?_
      refine own_step (g' := (mkF m 53 #[.val (.int p1), .val (.int ((p1 &&& (2147483647 : Int32)) % (3 : Int32))), .val (.ref w_ADAPTIVE), .val (.int (1 : Int32)), .val (.ref b26), .unset, .unset, .unset] [(.int (1 : Int32)), (.ref b26), (.ref w_ADAPTIVE)])) (fun _ k => XS.iconst X28.here hx rfl (hb hby at_52) k) ?_
      have F_29 : Fld Z T28.heap w_ADAPTIVE "com/example/nowait/nowait/Strategy" "locksAfterConflict" "Z" (.int (1 : Int32)) := ((Fld.ext E26 Fa_ADAPTIVE).keep Kq28 (ninS ne_w_ADAPTIVE_b26 nin0))
      have F_30 : Fld Z T28.heap w_ADAPTIVE "com/example/nowait/nowait/Strategy" "locksBeforeConflict" "Z" (.int (0 : Int32)) := ((Fld.ext E26 Fb_ADAPTIVE).keep Kq28 (ninS ne_w_ADAPTIVE_b26 nin0))
      have S_31 : Sta Z T28.heap "com/example/nowait/nowait/FailureKind" "CONFLICT" "Lcom/example/nowait/nowait/FailureKind;" (.ref o2) := (own_sta_keep (Sta.ext E26 S_CONFLICT) Kq28 (allS (own_nsE A26) all0))
      have C_33 : Exa Z T28.heap w_ADAPTIVE "com/example/nowait/nowait/Strategy" := ((Exa.ext E26 C_ADAPTIVE).keep Kq28)
      refine own_callV X28 hx hZ (W := 0) hown rfl (rm5_10_1 l Z a0 hw [] w_ADAPTIVE b26 o2 ed T28.heap n0 (Nat.le_trans (Nat.le_trans Z0 E26.1) Kq28.1) F_29 F_30 Ci Fi2 Fi3 S_31) C_33 (hw _ (List.mem_of_getElem? (i := 30) rfl)) (hw _ (List.mem_of_getElem? (i := 31) rfl)) (notFace_of_selects (args := #[]) (mvT hZ (hw _ (List.mem_of_getElem? (i := 33) rfl)))) (hw _ (List.mem_of_getElem? (i := 33) rfl)) (hw _ (List.mem_of_getElem? (i := 32) rfl)) (hw _ (List.mem_of_getElem? (i := 34) rfl)) (hw _ (List.mem_of_getElem? (i := 2) rfl)) (by decide) (by decide) (by decide) (g := (mkF m 53 #[.val (.int p1), .val (.int ((p1 &&& (2147483647 : Int32)) % (3 : Int32))), .val (.ref w_ADAPTIVE), .val (.int (1 : Int32)), .val (.ref b26), .unset, .unset, .unset] [(.int (1 : Int32)), (.ref b26), (.ref w_ADAPTIVE)])) rfl (by rw [hml]; rfl) (argsL := [(.ref b26), (.int (1 : Int32))]) (rest := []) rfl (lenOf pd_4 rfl) rfl (by show 2 * 0 + _ ≤ _; exact Nat.le_of_eq rfl) (hb hby at_53) (by decide) (by decide) ?_
      intro v32 T32 L32 X32 hQ32
      obtain ⟨rfl, rfl, e32⟩ := hQ32
      replace X32 := own_pureX X32
      show OGo p e below _ T32 (mkF m 56 #[.val (.int p1), .val (.int ((p1 &&& (2147483647 : Int32)) % (3 : Int32))), .val (.ref w_ADAPTIVE), .val (.int (1 : Int32)), .val (.ref b26), .unset, .unset, .unset] [(.int (1 : Int32))])
      refine own_step (g' := (mkF m 58 #[.val (.int p1), .val (.int ((p1 &&& (2147483647 : Int32)) % (3 : Int32))), .val (.ref w_ADAPTIVE), .val (.int (1 : Int32)), .val (.ref b26), .val (.int (1 : Int32)), .unset, .unset] [])) (fun _ k => XS.istore X32.here hx rfl (hb hby at_56) rfl (l' := #[.val (.int p1), .val (.int ((p1 &&& (2147483647 : Int32)) % (3 : Int32))), .val (.ref w_ADAPTIVE), .val (.int (1 : Int32)), .val (.ref b26), .val (.int (1 : Int32)), .unset, .unset]) rfl k) ?_
      refine own_step (g' := (mkF m 59 #[.val (.int p1), .val (.int ((p1 &&& (2147483647 : Int32)) % (3 : Int32))), .val (.ref w_ADAPTIVE), .val (.int (1 : Int32)), .val (.ref b26), .val (.int (1 : Int32)), .unset, .unset] [(.ref w_ADAPTIVE)])) (fun _ k => XS.aloadN X32.here hx rfl (hb hby at_58) rfl rfl k) ?_
      refine own_step (g' := (mkF m 61 #[.val (.int p1), .val (.int ((p1 &&& (2147483647 : Int32)) % (3 : Int32))), .val (.ref w_ADAPTIVE), .val (.int (1 : Int32)), .val (.ref b26), .val (.int (1 : Int32)), .unset, .unset] [(.ref b26), (.ref w_ADAPTIVE)])) (fun _ k => XS.aload X32.here hx rfl (hb hby at_59) rfl rfl k) ?_
      refine own_step (g' := (mkF m 62 #[.val (.int p1), .val (.int ((p1 &&& (2147483647 : Int32)) % (3 : Int32))), .val (.ref w_ADAPTIVE), .val (.int (1 : Int32)), .val (.ref b26), .val (.int (1 : Int32)), .unset, .unset] [(.int (0 : Int32)), (.ref b26), (.ref w_ADAPTIVE)])) (fun _ k => XS.iconst X32.here hx rfl (hb hby at_61) k) ?_
      refine own_callV X32 hx hZ (W := 0) hown e32 (rm5_10_0 l Z a0 hw [] w_ADAPTIVE b26 o2 ed T28.heap n0 (Nat.le_trans (Nat.le_trans Z0 E26.1) Kq28.1) F_29 F_30 Ci Fi2 Fi3 S_31) C_33 (hw _ (List.mem_of_getElem? (i := 30) rfl)) (hw _ (List.mem_of_getElem? (i := 31) rfl)) (notFace_of_selects (args := #[]) (mvT hZ (hw _ (List.mem_of_getElem? (i := 33) rfl)))) (hw _ (List.mem_of_getElem? (i := 33) rfl)) (hw _ (List.mem_of_getElem? (i := 32) rfl)) (hw _ (List.mem_of_getElem? (i := 34) rfl)) (hw _ (List.mem_of_getElem? (i := 2) rfl)) (by decide) (by decide) (by decide) (g := (mkF m 62 #[.val (.int p1), .val (.int ((p1 &&& (2147483647 : Int32)) % (3 : Int32))), .val (.ref w_ADAPTIVE), .val (.int (1 : Int32)), .val (.ref b26), .val (.int (1 : Int32)), .unset, .unset] [(.int (0 : Int32)), (.ref b26), (.ref w_ADAPTIVE)])) rfl (by rw [hml]; rfl) (argsL := [(.ref b26), (.int (0 : Int32))]) (rest := []) rfl (lenOf pd_4 rfl) rfl (by show 2 * 0 + _ ≤ _; exact Nat.le_of_eq rfl) (hb hby at_62) (by decide) (by decide) ?_
      intro v34 T34 L34 X34 hQ34
      obtain ⟨rfl, rfl, e34⟩ := hQ34
      replace X34 := own_pureX X34
      show OGo p e below _ T34 (mkF m 65 #[.val (.int p1), .val (.int ((p1 &&& (2147483647 : Int32)) % (3 : Int32))), .val (.ref w_ADAPTIVE), .val (.int (1 : Int32)), .val (.ref b26), .val (.int (1 : Int32)), .unset, .unset] [(.int (0 : Int32))])
      refine own_step (g' := (mkF m 67 #[.val (.int p1), .val (.int ((p1 &&& (2147483647 : Int32)) % (3 : Int32))), .val (.ref w_ADAPTIVE), .val (.int (1 : Int32)), .val (.ref b26), .val (.int (1 : Int32)), .val (.int (0 : Int32)), .unset] [])) (fun _ k => XS.istore X34.here hx rfl (hb hby at_65) rfl (l' := #[.val (.int p1), .val (.int ((p1 &&& (2147483647 : Int32)) % (3 : Int32))), .val (.ref w_ADAPTIVE), .val (.int (1 : Int32)), .val (.ref b26), .val (.int (1 : Int32)), .val (.int (0 : Int32)), .unset]) rfl k) ?_
      refine own_step (g' := (mkF m 68 #[.val (.int p1), .val (.int ((p1 &&& (2147483647 : Int32)) % (3 : Int32))), .val (.ref w_ADAPTIVE), .val (.int (1 : Int32)), .val (.ref b26), .val (.int (1 : Int32)), .val (.int (0 : Int32)), .unset] [(.ref w_ADAPTIVE)])) (fun _ k => XS.aloadN X34.here hx rfl (hb hby at_67) rfl rfl k) ?_
      refine own_callV X34 hx hZ (W := 0) hown e34 (rm9_10 l Z a0 hw [] w_ADAPTIVE T28.heap n0 (Nat.le_trans (Nat.le_trans Z0 E26.1) Kq28.1) F_29 F_30) C_33 (hw _ (List.mem_of_getElem? (i := 63) rfl)) (hw _ (List.mem_of_getElem? (i := 64) rfl)) (notFace_of_selects (args := #[]) (mvT hZ (hw _ (List.mem_of_getElem? (i := 66) rfl)))) (hw _ (List.mem_of_getElem? (i := 66) rfl)) (hw _ (List.mem_of_getElem? (i := 65) rfl)) (hw _ (List.mem_of_getElem? (i := 67) rfl)) (hw _ (List.mem_of_getElem? (i := 2) rfl)) (by decide) (by decide) (by decide) (g := (mkF m 68 #[.val (.int p1), .val (.int ((p1 &&& (2147483647 : Int32)) % (3 : Int32))), .val (.ref w_ADAPTIVE), .val (.int (1 : Int32)), .val (.ref b26), .val (.int (1 : Int32)), .val (.int (0 : Int32)), .unset] [(.ref w_ADAPTIVE)])) rfl (by rw [hml]; rfl) (argsL := []) (rest := []) rfl (lenOf pd_5 rfl) rfl (by show 2 * 0 + _ ≤ _; exact Nat.le_of_eq rfl) (hb hby at_68) (by decide) (by decide) ?_
      intro v35 T35 L35 X35 hQ35
      obtain ⟨rfl, rfl, e35⟩ := hQ35
      replace X35 := own_pureX X35
      show OGo p e below _ T35 (mkF m 71 #[.val (.int p1), .val (.int ((p1 &&& (2147483647 : Int32)) % (3 : Int32))), .val (.ref w_ADAPTIVE), .val (.int (1 : Int32)), .val (.ref b26), .val (.int (1 : Int32)), .val (.int (0 : Int32)), .unset] [(.int (1 : Int32))])
      refine own_step (g' := (mkF m 73 #[.val (.int p1), .val (.int ((p1 &&& (2147483647 : Int32)) % (3 : Int32))), .val (.ref w_ADAPTIVE), .val (.int (1 : Int32)), .val (.ref b26), .val (.int (1 : Int32)), .val (.int (0 : Int32)), .val (.int (1 : Int32))] [])) (fun _ k => XS.istore X35.here hx rfl (hb hby at_71) rfl (l' := #[.val (.int p1), .val (.int ((p1 &&& (2147483647 : Int32)) % (3 : Int32))), .val (.ref w_ADAPTIVE), .val (.int (1 : Int32)), .val (.ref b26), .val (.int (1 : Int32)), .val (.int (0 : Int32)), .val (.int (1 : Int32))]) rfl k) ?_
      refine own_step (g' := (mkF m 75 #[.val (.int p1), .val (.int ((p1 &&& (2147483647 : Int32)) % (3 : Int32))), .val (.ref w_ADAPTIVE), .val (.int (1 : Int32)), .val (.ref b26), .val (.int (1 : Int32)), .val (.int (0 : Int32)), .val (.int (1 : Int32))] [(.int (1 : Int32))])) (fun _ k => XS.iload X35.here hx rfl (hb hby at_73) rfl k) ?_
      refine own_step (g' := (mkF m 76 #[.val (.int p1), .val (.int ((p1 &&& (2147483647 : Int32)) % (3 : Int32))), .val (.ref w_ADAPTIVE), .val (.int (1 : Int32)), .val (.ref b26), .val (.int (1 : Int32)), .val (.int (0 : Int32)), .val (.int (1 : Int32))] [(.int (1 : Int32)), (.int (1 : Int32))])) (fun _ k => XS.iloadN X35.here hx rfl (hb hby at_75) rfl k) ?_
      refine own_step (g' := (mkF m 79 #[.val (.int p1), .val (.int ((p1 &&& (2147483647 : Int32)) % (3 : Int32))), .val (.ref w_ADAPTIVE), .val (.int (1 : Int32)), .val (.ref b26), .val (.int (1 : Int32)), .val (.int (0 : Int32)), .val (.int (1 : Int32))] [])) (fun _ k => XS.icmpNo X35.here hx rfl (hb hby at_76) rfl (teq (by decide : (1 : Int32) = (1 : Int32))).2 k) ?_
      refine own_step (g' := (mkF m 81 #[.val (.int p1), .val (.int ((p1 &&& (2147483647 : Int32)) % (3 : Int32))), .val (.ref w_ADAPTIVE), .val (.int (1 : Int32)), .val (.ref b26), .val (.int (1 : Int32)), .val (.int (0 : Int32)), .val (.int (1 : Int32))] [(.int (1 : Int32))])) (fun _ k => XS.iload X35.here hx rfl (hb hby at_79) rfl k) ?_
      refine own_step (g' := (mkF m 83 #[.val (.int p1), .val (.int ((p1 &&& (2147483647 : Int32)) % (3 : Int32))), .val (.ref w_ADAPTIVE), .val (.int (1 : Int32)), .val (.ref b26), .val (.int (1 : Int32)), .val (.int (0 : Int32)), .val (.int (1 : Int32))] [(.int (1 : Int32)), (.int (1 : Int32))])) (fun _ k => XS.iload X35.here hx rfl (hb hby at_81) rfl k) ?_
      refine own_step (g' := (mkF m 85 #[.val (.int p1), .val (.int ((p1 &&& (2147483647 : Int32)) % (3 : Int32))), .val (.ref w_ADAPTIVE), .val (.int (1 : Int32)), .val (.ref b26), .val (.int (1 : Int32)), .val (.int (0 : Int32)), .val (.int (1 : Int32))] [(.int (0 : Int32)), (.int (1 : Int32)), (.int (1 : Int32))])) (fun _ k => XS.iload X35.here hx rfl (hb hby at_83) rfl k) ?_
      refine own_step (g' := (mkF m 88 #[.val (.int p1), .val (.int ((p1 &&& (2147483647 : Int32)) % (3 : Int32))), .val (.ref w_ADAPTIVE), .val (.int (1 : Int32)), .val (.ref b26), .val (.int (1 : Int32)), .val (.int (0 : Int32)), .val (.int (1 : Int32))] [(.int (1 : Int32))])) (fun _ k => XS.icmpNo X35.here hx rfl (hb hby at_85) rfl (feq (by decide : ¬ ((1 : Int32) = (0 : Int32)))).1 k) ?_
      refine own_step (g' := (mkF m 89 #[.val (.int p1), .val (.int ((p1 &&& (2147483647 : Int32)) % (3 : Int32))), .val (.ref w_ADAPTIVE), .val (.int (1 : Int32)), .val (.ref b26), .val (.int (1 : Int32)), .val (.int (0 : Int32)), .val (.int (1 : Int32))] [(.int (1 : Int32)), (.int (1 : Int32))])) (fun _ k => XS.iconst X35.here hx rfl (hb hby at_88) k) ?_
      refine own_step (g' := (mkF m 93 #[.val (.int p1), .val (.int ((p1 &&& (2147483647 : Int32)) % (3 : Int32))), .val (.ref w_ADAPTIVE), .val (.int (1 : Int32)), .val (.ref b26), .val (.int (1 : Int32)), .val (.int (0 : Int32)), .val (.int (1 : Int32))] [(.int (1 : Int32)), (.int (1 : Int32))])) (fun _ k => XS.goto X35.here hx rfl (pc0 := 89) (pc' := 93) rfl (hb hby at_89) (by decide) (by decide) k) ?_
      refine own_step (g' := (mkF m 96 #[.val (.int p1), .val (.int ((p1 &&& (2147483647 : Int32)) % (3 : Int32))), .val (.ref w_ADAPTIVE), .val (.int (1 : Int32)), .val (.ref b26), .val (.int (1 : Int32)), .val (.int (0 : Int32)), .val (.int (1 : Int32))] [])) (fun _ k => XS.icmpNo X35.here hx rfl (hb hby at_93) rfl (teq (by decide : (1 : Int32) = (1 : Int32))).2 k) ?_
      refine own_step (g' := (mkF m 97 #[.val (.int p1), .val (.int ((p1 &&& (2147483647 : Int32)) % (3 : Int32))), .val (.ref w_ADAPTIVE), .val (.int (1 : Int32)), .val (.ref b26), .val (.int (1 : Int32)), .val (.int (0 : Int32)), .val (.int (1 : Int32))] [(.int (1 : Int32))])) (fun _ k => XS.iconst X35.here hx rfl (hb hby at_96) k) ?_
      refine own_step (g' := (mkF m 101 #[.val (.int p1), .val (.int ((p1 &&& (2147483647 : Int32)) % (3 : Int32))), .val (.ref w_ADAPTIVE), .val (.int (1 : Int32)), .val (.ref b26), .val (.int (1 : Int32)), .val (.int (0 : Int32)), .val (.int (1 : Int32))] [(.int (1 : Int32))])) (fun _ k => XS.goto X35.here hx rfl (pc0 := 97) (pc' := 101) rfl (hb hby at_97) (by decide) (by decide) k) ?_
      exact own_retN X35 hx (t := .boolean) hret (by simp) hlk (hb hby at_101) e35 (by exact ⟨rfl, N28⟩) (by decide) (by decide)
set_option maxRecDepth 65536 in
set_option maxHeartbeats 40000000 in
theorem comes_1 {Post : Tables → Env → Array Value → State → Outcome → State → Prop} (hpost : ∀ tb e args s v u, (limb_1_1.after args s (.returned v) u = true ∧ limb_1_2.after args s (.returned v) u = true ∧ True) → FrameEnd s (.returned v) u (Jvm.fieldLocs frame_1_writes args s ++ Jvm.arrayLocs frame_1_arrays args s ++ Jvm.staticLocs frame_1_statics s) 16 128 → Post tb e args s (.returned v) u) :
    ArmFor flags0 classFile x code maxLocals ret World_1 tables_1 room_1 Calls_1 rest_1 Pre_1 Post := by
  intro l hfl _ _ p e ha hc hk s m args below hf hA hF happ hP
  obtain ⟨hcalls, hrest, hpre⟩ := hP
  obtain ⟨-, -, -, hnamed, -, -, -, hat⟩ := (Spec.applies_iff hf).mp happ
  obtain ⟨hg, hn⟩ := and_e (Cond.before_iff.mp (show (Jvm.Cond.and given_1 narrow_1).before args s = true from hpre))
  obtain ⟨g1, g2⟩ := and_e hg
  obtain ⟨w0, rfl⟩ : ∃ w0 : Value, args = #[w0] := by
    have hs : args.size = 1 := by simpa [Cond.value, given_1] using g1
    obtain ⟨L⟩ := args
    match L, hs with
    | [w0], _ => exact ⟨w0, rfl⟩
  have hw := fun d (hd : d ∈ tables_1) => atoms_spec (ws := Jvm.Cond.code x code maxLocals ret :: tables_1) hat d (List.mem_cons_of_mem _ hd)
  have hfit : Fit s := fun {y c} hc i hi => by
    obtain ⟨ha, rfl⟩ := Array.getElem?_eq_some_iff.mp hc
    have q := List.all_eq_true.mp ((Array.all_eq_true_iff_forall_mem.mp hF) _ (Array.getElem_mem ha)) i (List.mem_range.mpr hi)
    simpa [Array.getElem?_eq_getElem hi] using q
  obtain ⟨hsets, hown0⟩ := atoms_of _ (rest_1_c_eq ▸ (show rest_1_c.before _ s = true from hrest))
  obtain ⟨i0, ei0⟩ := is_v g2
  obtain rfl : w0 = (.int i0) := Option.some.inj ei0
  obtain ⟨g3, g4⟩ := and_e hn
  obtain ⟨g5, g6⟩ := and_e g4
  obtain ⟨g7, g8⟩ := and_e g6
  obtain ⟨g9, g10⟩ := and_e g8
  obtain ⟨g11, g12⟩ := and_e g10
  obtain ⟨g13, g14⟩ := and_e g12
  obtain ⟨g15, g16⟩ := and_e g14
  obtain ⟨g17, g18⟩ := and_e g16
  obtain ⟨g19, g20⟩ := and_e g18
  obtain ⟨w_OPTIMISTIC, ev_OPTIMISTIC⟩ := exa_v g3
  have S_OPTIMISTIC := Sta.start ev_OPTIMISTIC (Or.inr ⟨(hw _ (List.mem_of_getElem? (i := 2) rfl)), (hw _ (List.mem_of_getElem? (i := 3) rfl))⟩)
  have C_OPTIMISTIC := Exa.start ev_OPTIMISTIC g3
  obtain ⟨w_CONFLICT, ev_CONFLICT⟩ := exa_v g7
  have S_CONFLICT := Sta.start ev_CONFLICT (Or.inr ⟨(hw _ (List.mem_of_getElem? (i := 38) rfl)), (hw _ (List.mem_of_getElem? (i := 39) rfl))⟩)
  have C_CONFLICT := Exa.start ev_CONFLICT g7
  obtain ⟨w_ADAPTIVE, ev_ADAPTIVE⟩ := exa_v g11
  have S_ADAPTIVE := Sta.start ev_ADAPTIVE (Or.inr ⟨(hw _ (List.mem_of_getElem? (i := 2) rfl)), (hw _ (List.mem_of_getElem? (i := 69) rfl))⟩)
  have C_ADAPTIVE := Exa.start ev_ADAPTIVE g11
  obtain ⟨w_PESSIMISTIC, ev_PESSIMISTIC⟩ := exa_v g17
  have S_PESSIMISTIC := Sta.start ev_PESSIMISTIC (Or.inr ⟨(hw _ (List.mem_of_getElem? (i := 2) rfl)), (hw _ (List.mem_of_getElem? (i := 71) rfl))⟩)
  have C_PESSIMISTIC := Exa.start ev_PESSIMISTIC g17
  have Fa_OPTIMISTIC := own_fldI ev_OPTIMISTIC g5
  have Fb_OPTIMISTIC := own_fldI ev_OPTIMISTIC g9
  have Fa_ADAPTIVE := own_fldI ev_ADAPTIVE g13
  have Fb_ADAPTIVE := own_fldI ev_ADAPTIVE g15
  have Fa_PESSIMISTIC := own_fldI ev_PESSIMISTIC g19
  have Fb_PESSIMISTIC := own_fldI ev_PESSIMISTIC g20
  obtain ⟨ed, ev_DC⟩ := arr_v (Cond.before_iff.mp (hsets _ (List.mem_of_getElem? (i := 6) rfl)))
  have S_DC := Sta.start ev_DC (Or.inr ⟨(hw _ (List.mem_of_getElem? (i := 6) rfl)), hsets _ (List.mem_of_getElem? (i := 2) rfl)⟩)
  obtain ⟨n, o, h1, h2, h3, _, L, rfl, ⟨rfl, N⟩, hq⟩ := rm0 l s _ hw tables_1 i0 w_OPTIMISTIC w_PESSIMISTIC w_ADAPTIVE w_CONFLICT ed s.heap s.heap.size (Nat.le_refl _) S_OPTIMISTIC C_OPTIMISTIC Fa_OPTIMISTIC Fb_OPTIMISTIC S_PESSIMISTIC C_PESSIMISTIC Fa_PESSIMISTIC Fb_PESSIMISTIC S_ADAPTIVE C_ADAPTIVE Fa_ADAPTIVE Fb_ADAPTIVE S_CONFLICT S_DC p e ha hc hk s m _ below hf ((Spec.applies_iff_loose hf).mp happ).1 ⟨rfl, State.Warmed39.refl s, rfl⟩ trivial
  refine ⟨n, _, h1, h2, h3, hpost _ _ _ _ _ _ ⟨Cond.after_iff.mpr rfl, Cond.after_iff.mpr (eq_i res_at (Term.int_eval (1)) rfl), trivial⟩ ⟨hq.1, hq.2.1, (hq.2.2.sift fun y hy => Or.inr (N y hy)).mono (by decide) (by decide)⟩⟩
theorem main_1_1 : Claimed_1_1 := comes_1 fun _ _ _ _ _ _ h hF => ⟨h.1, hF⟩
theorem main_1_2 : Claimed_1_2 := comes_1 fun _ _ _ _ _ _ h hF => ⟨h.2.1, hF⟩
end Jvm.Pilot.@@N@@
namespace Jvm.Pilot.@@N@@
open Jvm Jvm.ClassFile Sem Op Lib Jvm.Free Jvm.Stand Jvm.Pilot.@@N@@.Jvm.D
/-! MADE BY PROGRAM (witnessworld.py) out of the Statement's table words and the real class files: 22 classes; the members and pool entries that the words name. The judged class is class 1, her method 1. -/
namespace start1
open Jvm.ClassFile
def u (s : String) : CpInfo := .utf8 (stringToUtf16 s)
/-- a pool by its gaps: so many unusable entries, then the entry; so many at the end -/
def gap : Nat → List CpInfo → List CpInfo
  | 0, r => r
  | n + 1, r => .unusable :: gap n r
def poolList (es : List (Nat × CpInfo)) (last : Nat) : List CpInfo := es.foldr (fun e r => gap e.1 (e.2 :: r)) (gap last [])
def pool (es : List (Nat × CpInfo)) (last : Nat) : Array CpInfo := ⟨poolList es last⟩
def fileOf (pool : Array CpInfo) (this : Nat) (attrs : Array Attribute := #[]) (ms : Array MethodInfo := #[]) (fl : Nat := 33) (sup : Nat := 0) (ifs : Array Nat := #[]) (fds : Array FieldInfo := #[]) : ClassFile where
  minorVersion := 0
  majorVersion := 65
  constantPool := pool
  accessFlags := fl
  thisClass := this
  superClass := sup
  interfaces := ifs
  fields := fds
  methods := ms
  attributes := attrs
def plain (name : String) (sup : Option ClassId) : Class where
  name := name
  kind := .ordinary
  loader := none
  accessFlags := 33
  super := sup
  interfaces := #[]
  cf := none
  fields := #[]
  methods := #[]
  instanceTypes := #[]
  staticTypes := #[]
  resolved := #[]
  callSites := []
  init := .initialized
  statics := none
  mirror := none

def pool0 : Array CpInfo := pool [(5, u "<init>"), (0, u "()V"), (1, .class_ 10), (1, u "java/lang/Object")] 113

def k0c0 : Code := { maxStack := 0, maxLocals := 1, code := object_method_1_code, exceptionTable := #[], attributes := #[] }
def k0m0 : Method := { name := "<init>", desc := "()V", sig := { parameters := [], returnType := none }, accessFlags := 1, code := some k0c0 }
/-- java/lang/Object -/
def k0 : Class := { plain "java/lang/Object" none with
  accessFlags := 33
  interfaces := #[]
  cf := some (fileOf pool0 8 #[] #[{ accessFlags := 1, nameIndex := 5, descriptorIndex := 6, attributes := #[] }] 33 0 #[] #[])
  fields := #[]
  methods := #[k0m0]
  instanceTypes := #[]
  staticTypes := #[]
  resolved := Array.replicate 124 none
  statics := none }

def pool1 : Array CpInfo := pool [(2, .class_ 4), (0, .nameAndType 5 6), (0, u "java/lang/Object"), (0, u "<init>"), (0, u "()V"), (0, .integer 2147483647), (0, .fieldref 9 10), (0, .class_ 11), (0, .nameAndType 12 13), (0, u "com/example/nowait/nowait/Strategy"), (0, u "OPTIMISTIC"), (0, u "Lcom/example/nowait/nowait/Strategy;"), (0, .fieldref 9 15), (0, .nameAndType 16 13), (0, u "PESSIMISTIC"), (0, .fieldref 9 18), (0, .nameAndType 19 13), (0, u "ADAPTIVE"), (0, .class_ 21), (0, u "java/util/ArrayList"), (0, .methodref 20 3), (0, .methodref 9 24), (0, .nameAndType 25 26), (0, u "locksRow"), (0, u "(Ljava/util/List;Z)Z"), (0, .methodref 9 28), (0, .nameAndType 29 30), (0, u "heedsRecentConflicts"), (0, u "()Z"), (0, .class_ 32), (0, u "com/example/nowait/nowait/StrategyHeedsRecentConflictsPinLaw"), (2, u "law"), (0, u "(I)Z")] 3

def k1m0 : Method := { name := "<init>", desc := "()V", sig := { parameters := [], returnType := none }, accessFlags := 1, code := none }
def k1c1 : Code := { maxStack := 3, maxLocals := 8, code := code, exceptionTable := #[], attributes := #[] }
def k1m1 : Method := { name := "law", desc := "(I)Z", sig := { parameters := [.int], returnType := some .boolean }, accessFlags := 9, code := some k1c1 }
/-- com/example/nowait/nowait/StrategyHeedsRecentConflictsPinLaw -/
def k1 : Class := { plain "com/example/nowait/nowait/StrategyHeedsRecentConflictsPinLaw" (some 0) with
  accessFlags := 49
  interfaces := #[]
  cf := some (fileOf pool1 31 #[] #[{ accessFlags := 1, nameIndex := 5, descriptorIndex := 6, attributes := #[] }, { accessFlags := 9, nameIndex := 35, descriptorIndex := 36, attributes := #[] }] 49 2 #[] #[])
  fields := #[]
  methods := #[k1m0, k1m1]
  instanceTypes := #[]
  staticTypes := #[]
  resolved := Array.replicate 40 none
  statics := none }

def pool2 : Array CpInfo := pool [(1, .class_ 2), (0, u "java/lang/constant/Constable"), (0, .class_ 4), (0, u "java/lang/Object")] 6

/-- java/lang/constant/Constable -/
def k2 : Class := { plain "java/lang/constant/Constable" (some 0) with
  accessFlags := 1537
  interfaces := #[]
  cf := some (fileOf pool2 1 #[] #[] 1537 3 #[] #[])
  fields := #[]
  methods := #[]
  instanceTypes := #[]
  staticTypes := #[]
  resolved := Array.replicate 11 none
  statics := none }

def pool3 : Array CpInfo := pool [(1, .class_ 2), (0, u "java/lang/Comparable"), (0, .class_ 4), (0, u "java/lang/Object")] 7

/-- java/lang/Comparable -/
def k3 : Class := { plain "java/lang/Comparable" (some 0) with
  accessFlags := 1537
  interfaces := #[]
  cf := some (fileOf pool3 1 #[] #[] 1537 3 #[] #[])
  fields := #[]
  methods := #[]
  instanceTypes := #[]
  staticTypes := #[]
  resolved := Array.replicate 12 none
  statics := none }

def pool4 : Array CpInfo := pool [(1, .class_ 2), (0, u "java/io/Serializable"), (0, .class_ 4), (0, u "java/lang/Object")] 2

/-- java/io/Serializable -/
def k4 : Class := { plain "java/io/Serializable" (some 0) with
  accessFlags := 1537
  interfaces := #[]
  cf := some (fileOf pool4 1 #[] #[] 1537 3 #[] #[])
  fields := #[]
  methods := #[]
  instanceTypes := #[]
  staticTypes := #[]
  resolved := Array.replicate 7 none
  statics := none }

def pool5 : Array CpInfo := pool [(2, .class_ 4), (1, u "java/lang/Enum"), (0, u "name"), (0, u "Ljava/lang/String;"), (2, u "ordinal"), (0, u "I"), (1, .class_ 14), (1, u "java/lang/Object"), (4, u "hash"), (86, .class_ 108), (1, u "java/lang/Enum$EnumDesc"), (2, .class_ 112), (0, u "java/lang/constant/Constable"), (0, .class_ 114), (0, u "java/lang/Comparable"), (0, .class_ 116), (0, u "java/io/Serializable")] 87

/-- java/lang/Enum -/
def k5 : Class := { plain "java/lang/Enum" (some 0) with
  accessFlags := 1057
  interfaces := #[2, 3, 4]
  cf := some (fileOf pool5 2 #[.nestMembers #[106]] #[] 1057 12 #[111, 113, 115] #[{ accessFlags := 18, nameIndex := 5, descriptorIndex := 6, attributes := #[] }, { accessFlags := 18, nameIndex := 9, descriptorIndex := 10, attributes := #[] }, { accessFlags := 2, nameIndex := 19, descriptorIndex := 10, attributes := #[] }])
  fields := #[{ name := "name", type := (.object "java/lang/String"), accessFlags := 18, slot := 0, constantValue := 0 }, { name := "ordinal", type := .int, accessFlags := 18, slot := 1, constantValue := 0 }, { name := "hash", type := .int, accessFlags := 2, slot := 2, constantValue := 0 }]
  methods := #[]
  instanceTypes := #[(.object "java/lang/String"), .int, .int]
  staticTypes := #[]
  resolved := Array.replicate 204 none
  statics := none }

def pool6 : Array CpInfo := pool [(1, .class_ 2), (0, u "com/example/nowait/nowait/Strategy"), (2, u "OPTIMISTIC"), (0, u "Lcom/example/nowait/nowait/Strategy;"), (2, u "PESSIMISTIC"), (2, u "ADAPTIVE"), (2, u "$VALUES"), (0, u "[Lcom/example/nowait/nowait/Strategy;"), (6, .class_ 25), (1, u "java/lang/Enum"), (6, .fieldref 1 33), (0, .nameAndType 34 35), (0, u "locksBeforeConflict"), (0, u "Z"), (0, .fieldref 1 37), (0, .nameAndType 38 35), (0, u "locksAfterConflict"), (0, .fieldref 40 41), (0, .class_ 42), (0, .nameAndType 43 44), (0, u "com/example/nowait/nowait/FailureKind"), (0, u "CONFLICT"), (0, u "Lcom/example/nowait/nowait/FailureKind;"), (0, .interfaceMethodref 46 47), (0, .class_ 48), (0, .nameAndType 49 50), (0, u "java/util/List"), (0, u "contains"), (0, u "(Ljava/lang/Object;)Z"), (17, u "heedsRecentConflicts"), (0, u "()Z"), (1, u "locksRow"), (0, u "(Ljava/util/List;Z)Z")] 6

def k6c0 : Code := { maxStack := 1, maxLocals := 1, code := prog_28_method_4_code, exceptionTable := #[], attributes := #[] }
def k6m0 : Method := { name := "heedsRecentConflicts", desc := "()Z", sig := { parameters := [], returnType := some .boolean }, accessFlags := 0, code := some k6c0 }
def k6c1 : Code := { maxStack := 2, maxLocals := 3, code := prog_28_method_5_code, exceptionTable := #[], attributes := #[] }
def k6m1 : Method := { name := "locksRow", desc := "(Ljava/util/List;Z)Z", sig := { parameters := [(.object "java/util/List"), .boolean], returnType := some .boolean }, accessFlags := 0, code := some k6c1 }
/-- com/example/nowait/nowait/Strategy -/
def k6 : Class := { plain "com/example/nowait/nowait/Strategy" (some 5) with
  accessFlags := 16433
  interfaces := #[]
  cf := some (fileOf pool6 1 #[] #[{ accessFlags := 0, nameIndex := 68, descriptorIndex := 69, attributes := #[] }, { accessFlags := 0, nameIndex := 71, descriptorIndex := 72, attributes := #[] }] 16433 23 #[] #[{ accessFlags := 16409, nameIndex := 5, descriptorIndex := 6, attributes := #[] }, { accessFlags := 16409, nameIndex := 9, descriptorIndex := 6, attributes := #[] }, { accessFlags := 16409, nameIndex := 12, descriptorIndex := 6, attributes := #[] }, { accessFlags := 18, nameIndex := 34, descriptorIndex := 35, attributes := #[] }, { accessFlags := 18, nameIndex := 38, descriptorIndex := 35, attributes := #[] }, { accessFlags := 4122, nameIndex := 15, descriptorIndex := 16, attributes := #[] }])
  fields := #[{ name := "OPTIMISTIC", type := (.object "com/example/nowait/nowait/Strategy"), accessFlags := 16409, slot := 0, constantValue := 0 }, { name := "PESSIMISTIC", type := (.object "com/example/nowait/nowait/Strategy"), accessFlags := 16409, slot := 1, constantValue := 0 }, { name := "ADAPTIVE", type := (.object "com/example/nowait/nowait/Strategy"), accessFlags := 16409, slot := 2, constantValue := 0 }, { name := "locksBeforeConflict", type := .boolean, accessFlags := 18, slot := 3, constantValue := 0 }, { name := "locksAfterConflict", type := .boolean, accessFlags := 18, slot := 4, constantValue := 0 }, { name := "$VALUES", type := (.array (.object "com/example/nowait/nowait/Strategy")), accessFlags := 4122, slot := 3, constantValue := 0 }]
  methods := #[k6m0, k6m1]
  instanceTypes := #[(.object "java/lang/String"), .int, .int, .boolean, .boolean]
  staticTypes := #[(.object "com/example/nowait/nowait/Strategy"), (.object "com/example/nowait/nowait/Strategy"), (.object "com/example/nowait/nowait/Strategy"), (.array (.object "com/example/nowait/nowait/Strategy"))]
  resolved := Array.replicate 79 none
  statics := some 0 }

def pool7 : Array CpInfo := pool [(8, .class_ 10), (1, u "java/lang/Iterable"), (24, .class_ 36), (0, u "java/lang/Object")] 25

/-- java/lang/Iterable -/
def k7 : Class := { plain "java/lang/Iterable" (some 0) with
  accessFlags := 1537
  interfaces := #[]
  cf := some (fileOf pool7 8 #[] #[] 1537 35 #[] #[])
  fields := #[]
  methods := #[]
  instanceTypes := #[]
  staticTypes := #[]
  resolved := Array.replicate 62 none
  statics := none }

def pool8 : Array CpInfo := pool [(10, .class_ 12), (1, u "java/util/Collection"), (47, .class_ 61), (0, u "java/lang/Object"), (0, .class_ 63), (0, u "java/lang/Iterable")] 51

/-- java/util/Collection -/
def k8 : Class := { plain "java/util/Collection" (some 0) with
  accessFlags := 1537
  interfaces := #[7]
  cf := some (fileOf pool8 10 #[] #[] 1537 60 #[62] #[])
  fields := #[]
  methods := #[]
  instanceTypes := #[]
  staticTypes := #[]
  resolved := Array.replicate 115 none
  statics := none }

def pool9 : Array CpInfo := pool [(1, .methodref 2 3), (0, .class_ 4), (0, .nameAndType 5 6), (0, u "java/lang/Object"), (0, u "<init>"), (0, u "()V"), (1, .class_ 10), (1, u "java/util/AbstractCollection"), (66, .class_ 78), (0, u "java/util/Collection")] 81

def k9c0 : Code := { maxStack := 1, maxLocals := 1, code := jdk_22_method_1_code, exceptionTable := #[], attributes := #[] }
def k9m0 : Method := { name := "<init>", desc := "()V", sig := { parameters := [], returnType := none }, accessFlags := 4, code := some k9c0 }
/-- java/util/AbstractCollection -/
def k9 : Class := { plain "java/util/AbstractCollection" (some 0) with
  accessFlags := 1057
  interfaces := #[8]
  cf := some (fileOf pool9 8 #[] #[{ accessFlags := 4, nameIndex := 5, descriptorIndex := 6, attributes := #[] }] 1057 2 #[77] #[])
  fields := #[]
  methods := #[k9m0]
  instanceTypes := #[]
  staticTypes := #[]
  resolved := Array.replicate 160 none
  statics := none }

def pool10 : Array CpInfo := pool [(8, .class_ 10), (1, u "java/util/SequencedCollection"), (15, .class_ 27), (0, u "java/lang/Object"), (0, .class_ 29), (0, u "java/util/Collection")] 27

/-- java/util/SequencedCollection -/
def k10 : Class := { plain "java/util/SequencedCollection" (some 0) with
  accessFlags := 1537
  interfaces := #[8]
  cf := some (fileOf pool10 8 #[] #[] 1537 26 #[28] #[])
  fields := #[]
  methods := #[]
  instanceTypes := #[]
  staticTypes := #[]
  resolved := Array.replicate 57 none
  statics := none }

def pool11 : Array CpInfo := pool [(8, .class_ 10), (1, u "java/util/List"), (53, u "(Ljava/lang/Object;)Z"), (38, .class_ 104), (0, u "java/lang/Object"), (15, .class_ 121), (0, u "java/util/SequencedCollection"), (0, u "contains")] 128

def k11m0 : Method := { name := "contains", desc := "(Ljava/lang/Object;)Z", sig := { parameters := [(.object "java/lang/Object")], returnType := some .boolean }, accessFlags := 1025, code := none }
/-- java/util/List -/
def k11 : Class := { plain "java/util/List" (some 0) with
  accessFlags := 1537
  interfaces := #[10]
  cf := some (fileOf pool11 8 #[] #[{ accessFlags := 1025, nameIndex := 122, descriptorIndex := 64, attributes := #[] }] 1537 103 #[120] #[])
  fields := #[]
  methods := #[k11m0]
  instanceTypes := #[]
  staticTypes := #[]
  resolved := Array.replicate 251 none
  statics := none }

def pool12 : Array CpInfo := pool [(1, .methodref 2 3), (0, .class_ 4), (0, .nameAndType 5 6), (0, u "java/util/AbstractCollection"), (0, u "<init>"), (0, u "()V"), (0, .fieldref 8 9), (0, .class_ 10), (0, .nameAndType 11 12), (0, u "java/util/AbstractList"), (0, u "modCount"), (0, u "I"), (64, .class_ 78), (0, u "java/util/AbstractList$Itr"), (3, .class_ 83), (0, u "java/util/AbstractList$ListItr"), (9, .class_ 94), (0, u "java/util/AbstractList$RandomAccessSubList"), (3, .class_ 99), (0, u "java/util/AbstractList$SubList"), (33, .class_ 134), (0, u "java/util/List"), (73, .class_ 209), (0, u "java/util/AbstractList$SubList$1"), (0, .class_ 211), (0, u "java/util/AbstractList$RandomAccessSpliterator")] 6

def k12c0 : Code := { maxStack := 2, maxLocals := 1, code := jdk_39_method_1_code, exceptionTable := #[], attributes := #[] }
def k12m0 : Method := { name := "<init>", desc := "()V", sig := { parameters := [], returnType := none }, accessFlags := 4, code := some k12c0 }
/-- java/util/AbstractList -/
def k12 : Class := { plain "java/util/AbstractList" (some 9) with
  accessFlags := 1057
  interfaces := #[11]
  cf := some (fileOf pool12 8 #[.nestMembers #[93, 98, 208, 210, 82, 77]] #[{ accessFlags := 4, nameIndex := 5, descriptorIndex := 6, attributes := #[] }] 1057 2 #[133] #[{ accessFlags := 132, nameIndex := 11, descriptorIndex := 12, attributes := #[] }])
  fields := #[{ name := "modCount", type := .int, accessFlags := 132, slot := 0, constantValue := 0 }]
  methods := #[k12m0]
  instanceTypes := #[.int]
  staticTypes := #[]
  resolved := Array.replicate 218 none
  statics := none }

def pool13 : Array CpInfo := pool [(1, .class_ 2), (0, u "java/util/RandomAccess"), (0, .class_ 4), (0, u "java/lang/Object")] 2

/-- java/util/RandomAccess -/
def k13 : Class := { plain "java/util/RandomAccess" (some 0) with
  accessFlags := 1537
  interfaces := #[]
  cf := some (fileOf pool13 1 #[] #[] 1537 3 #[] #[])
  fields := #[]
  methods := #[]
  instanceTypes := #[]
  staticTypes := #[]
  resolved := Array.replicate 7 none
  statics := none }

def pool14 : Array CpInfo := pool [(1, .class_ 2), (0, u "java/lang/Cloneable"), (0, .class_ 4), (0, u "java/lang/Object")] 2

/-- java/lang/Cloneable -/
def k14 : Class := { plain "java/lang/Cloneable" (some 0) with
  accessFlags := 1537
  interfaces := #[]
  cf := some (fileOf pool14 1 #[] #[] 1537 3 #[] #[])
  fields := #[]
  methods := #[]
  instanceTypes := #[]
  staticTypes := #[]
  resolved := Array.replicate 7 none
  statics := none }

def pool15 : Array CpInfo := pool [(1, .methodref 2 3), (0, .class_ 4), (0, .nameAndType 5 6), (0, u "java/util/AbstractList"), (0, u "<init>"), (0, u "()V"), (2, .fieldref 10 11), (0, .class_ 12), (0, .nameAndType 13 14), (0, u "java/util/ArrayList"), (0, u "elementData"), (0, u "[Ljava/lang/Object;"), (2, u "EMPTY_ELEMENTDATA"), (21, .fieldref 10 40), (0, .nameAndType 41 14), (0, u "DEFAULTCAPACITY_EMPTY_ELEMENTDATA"), (6, .fieldref 10 49), (0, .nameAndType 50 51), (0, u "size"), (0, u "I"), (33, .methodref 10 86), (0, .nameAndType 87 88), (0, u "indexOf"), (0, u "(Ljava/lang/Object;)I"), (0, .methodref 10 90), (0, .nameAndType 91 92), (0, u "indexOfRange"), (0, u "(Ljava/lang/Object;II)I"), (3, u "(Ljava/lang/Object;)Z"), (51, .class_ 149), (0, u "java/util/List"), (69, u "contains"), (42, .class_ 263), (0, u "java/util/ArrayList$ListItr"), (3, .class_ 268), (0, u "java/util/ArrayList$Itr"), (7, .class_ 277), (0, u "java/util/ArrayList$SubList"), (12, .class_ 291), (0, u "java/util/ArrayList$ArrayListSpliterator"), (37, .class_ 330), (0, u "java/util/RandomAccess"), (0, .class_ 332), (0, u "java/lang/Cloneable"), (0, .class_ 334), (0, u "java/io/Serializable"), (0, u "serialVersionUID"), (0, u "J"), (3, u "DEFAULT_CAPACITY"), (159, .class_ 501), (0, u "java/util/ArrayList$SubList$2"), (0, .class_ 503), (0, u "java/util/ArrayList$SubList$1")] 5

def k15c0 : Code := { maxStack := 2, maxLocals := 1, code := jdk_38_method_2_code, exceptionTable := #[], attributes := #[] }
def k15m0 : Method := { name := "<init>", desc := "()V", sig := { parameters := [], returnType := none }, accessFlags := 1, code := some k15c0 }
def k15c1 : Code := { maxStack := 2, maxLocals := 2, code := jdk_38_method_10_code, exceptionTable := #[], attributes := #[] }
def k15m1 : Method := { name := "contains", desc := "(Ljava/lang/Object;)Z", sig := { parameters := [(.object "java/lang/Object")], returnType := some .boolean }, accessFlags := 1, code := some k15c1 }
def k15c2 : Code := { maxStack := 4, maxLocals := 2, code := jdk_38_method_11_code, exceptionTable := #[], attributes := #[] }
def k15m2 : Method := { name := "indexOf", desc := "(Ljava/lang/Object;)I", sig := { parameters := [(.object "java/lang/Object")], returnType := some .int }, accessFlags := 1, code := some k15c2 }
def k15c3 : Code := { maxStack := 3, maxLocals := 6, code := jdk_38_method_12_code, exceptionTable := #[], attributes := #[] }
def k15m3 : Method := { name := "indexOfRange", desc := "(Ljava/lang/Object;II)I", sig := { parameters := [(.object "java/lang/Object"), .int, .int], returnType := some .int }, accessFlags := 0, code := some k15c3 }
/-- java/util/ArrayList -/
def k15 : Class := { plain "java/util/ArrayList" (some 12) with
  accessFlags := 33
  interfaces := #[11, 13, 14, 4]
  cf := some (fileOf pool15 10 #[.nestMembers #[290, 276, 500, 502, 262, 267]] #[{ accessFlags := 1, nameIndex := 5, descriptorIndex := 6, attributes := #[] }, { accessFlags := 1, nameIndex := 219, descriptorIndex := 96, attributes := #[] }, { accessFlags := 1, nameIndex := 87, descriptorIndex := 88, attributes := #[] }, { accessFlags := 0, nameIndex := 91, descriptorIndex := 92, attributes := #[] }] 33 2 #[148, 329, 331, 333] #[{ accessFlags := 26, nameIndex := 335, descriptorIndex := 336, attributes := #[] }, { accessFlags := 26, nameIndex := 340, descriptorIndex := 51, attributes := #[] }, { accessFlags := 26, nameIndex := 17, descriptorIndex := 14, attributes := #[] }, { accessFlags := 26, nameIndex := 41, descriptorIndex := 14, attributes := #[] }, { accessFlags := 128, nameIndex := 13, descriptorIndex := 14, attributes := #[] }, { accessFlags := 2, nameIndex := 50, descriptorIndex := 51, attributes := #[] }])
  fields := #[{ name := "serialVersionUID", type := .long, accessFlags := 26, slot := 0, constantValue := 0 }, { name := "DEFAULT_CAPACITY", type := .int, accessFlags := 26, slot := 1, constantValue := 0 }, { name := "EMPTY_ELEMENTDATA", type := (.array (.object "java/lang/Object")), accessFlags := 26, slot := 2, constantValue := 0 }, { name := "DEFAULTCAPACITY_EMPTY_ELEMENTDATA", type := (.array (.object "java/lang/Object")), accessFlags := 26, slot := 3, constantValue := 0 }, { name := "elementData", type := (.array (.object "java/lang/Object")), accessFlags := 128, slot := 1, constantValue := 0 }, { name := "size", type := .int, accessFlags := 2, slot := 2, constantValue := 0 }]
  methods := #[k15m0, k15m1, k15m2, k15m3]
  instanceTypes := #[.int, (.array (.object "java/lang/Object")), .int]
  staticTypes := #[.long, .int, (.array (.object "java/lang/Object")), (.array (.object "java/lang/Object"))]
  resolved := Array.replicate 509 none
  statics := some 1 }

def pool16 : Array CpInfo := pool [(1, .class_ 2), (0, u "com/example/nowait/nowait/FailureKind"), (2, u "CONFLICT"), (0, u "Lcom/example/nowait/nowait/FailureKind;"), (2, u "LOCK_UNAVAILABLE"), (2, u "LOCK_TIMEOUT"), (2, u "DEADLOCK"), (2, u "$VALUES"), (0, u "[Lcom/example/nowait/nowait/FailureKind;"), (6, .class_ 28), (1, u "java/lang/Enum"), (8, u "label"), (0, u "Ljava/lang/String;")] 32

/-- com/example/nowait/nowait/FailureKind -/
def k16 : Class := { plain "com/example/nowait/nowait/FailureKind" (some 5) with
  accessFlags := 16433
  interfaces := #[]
  cf := some (fileOf pool16 1 #[] #[] 16433 26 #[] #[{ accessFlags := 16409, nameIndex := 5, descriptorIndex := 6, attributes := #[] }, { accessFlags := 16409, nameIndex := 9, descriptorIndex := 6, attributes := #[] }, { accessFlags := 16409, nameIndex := 12, descriptorIndex := 6, attributes := #[] }, { accessFlags := 16409, nameIndex := 15, descriptorIndex := 6, attributes := #[] }, { accessFlags := 18, nameIndex := 37, descriptorIndex := 38, attributes := #[] }, { accessFlags := 4122, nameIndex := 18, descriptorIndex := 19, attributes := #[] }])
  fields := #[{ name := "CONFLICT", type := (.object "com/example/nowait/nowait/FailureKind"), accessFlags := 16409, slot := 0, constantValue := 0 }, { name := "LOCK_UNAVAILABLE", type := (.object "com/example/nowait/nowait/FailureKind"), accessFlags := 16409, slot := 1, constantValue := 0 }, { name := "LOCK_TIMEOUT", type := (.object "com/example/nowait/nowait/FailureKind"), accessFlags := 16409, slot := 2, constantValue := 0 }, { name := "DEADLOCK", type := (.object "com/example/nowait/nowait/FailureKind"), accessFlags := 16409, slot := 3, constantValue := 0 }, { name := "label", type := (.object "java/lang/String"), accessFlags := 18, slot := 3, constantValue := 0 }, { name := "$VALUES", type := (.array (.object "com/example/nowait/nowait/FailureKind")), accessFlags := 4122, slot := 4, constantValue := 0 }]
  methods := #[]
  instanceTypes := #[(.object "java/lang/String"), .int, .int, (.object "java/lang/String")]
  staticTypes := #[(.object "com/example/nowait/nowait/FailureKind"), (.object "com/example/nowait/nowait/FailureKind"), (.object "com/example/nowait/nowait/FailureKind"), (.object "com/example/nowait/nowait/FailureKind"), (.array (.object "com/example/nowait/nowait/FailureKind"))]
  resolved := Array.replicate 71 none
  statics := some 2 }

/-- the primitive byte -/
def k17 : Class := { plain "byte" none with kind := .primitive 'B', accessFlags := 0x411 }
/-- [B -/
def k18 : Class := { plain "[B" (some 0) with kind := .array 17 .byte, interfaces := #[14, 4], accessFlags := 1041 }

/-- the primitive int -/
def k19 : Class := { plain "int" none with kind := .primitive 'I', accessFlags := 0x411 }
/-- [I -/
def k20 : Class := { plain "[I" (some 0) with kind := .array 19 .int, interfaces := #[14, 4], accessFlags := 1041 }

/-- [Ljava/lang/Object; -/
def k21 : Class := { plain "[Ljava/lang/Object;" (some 0) with kind := .array 0 (.object "java/lang/Object"), interfaces := #[14, 4], accessFlags := 1041 }

def heap : Heap := #[{ cls := 6, slots := #[.ref 3, .ref 6, .ref 5, .null], vm := .statics 6 },
  { cls := 15, slots := #[.long 0, .int 0, .ref 7, .ref 8], vm := .statics 15 },
  { cls := 16, slots := #[.ref 4, .null, .null, .null, .null], vm := .statics 16 },
  { cls := 6, slots := #[.null, .int 0, .int 0, .int 0, .int 0], vm := .none },
  { cls := 16, slots := #[.null, .int 0, .int 0, .null], vm := .none },
  { cls := 6, slots := #[.null, .int 0, .int 0, .int 0, .int 1], vm := .none },
  { cls := 6, slots := #[.null, .int 0, .int 0, .int 1, .int 1], vm := .none },
  { cls := 21, slots := #[], vm := .none },
  { cls := 21, slots := #[], vm := .none }]
def classes : Array Class := #[k0, k1, k2, k3, k4, k5, k6, k7, k8, k9, k10, k11, k12, k13, k14, k15, k16, k17, k18, k19, k20, k21]
def interned : List (Array UInt16 × Addr) := []
def slotsUsed : Nat := 32
def theMethod : MethodId := ⟨1, 1⟩
def args0 : Array Value := #[.int 5]
def aboutOver (below : List Frame) : State where
  vm := { classes := classes, interned := interned.toArray }
  heap := heap
  slotsUsed := slotsUsed
  threads := #[{ frames := .invoking theMethod args0 :: below }]
def below0 : List Frame := [.native { method := ⟨0, 0⟩, args := #[] }]
def about1 : State := aboutOver below0
def p0 : Program := .bare "" "" ""
def e0 : Env := launch0.env 0 0 0
theorem w_frames : about1.frames = Frame.invoking theMethod args0 :: below0 := rfl
set_option maxRecDepth 65536 in
theorem w_args : argsFit about1.vm theMethod args0 = true := by decide +kernel
set_option maxRecDepth 65536 in
theorem w_heap : heapFits about1 = true := by decide +kernel
set_option maxRecDepth 65536 in
theorem w_runnable : about1.curStatus? = some .runnable := by decide +kernel
set_option maxRecDepth 65536 in
theorem w_alone : about1.alone = true := by decide +kernel
set_option maxRecDepth 65536 in
theorem w_named : about1.methodNamed? x = some theMethod := by decide +kernel
set_option maxRecDepth 65536 in
theorem w_hears : about1.hears theMethod below0 = true := by decide +kernel
set_option maxRecDepth 65536 in
theorem w_ripe : about1.ripe theMethod args0 below0 = true := by decide +kernel
theorem w_running : about1.status = .running := rfl
set_option maxRecDepth 65536 in
theorem w_room : about1.hasRoom e0.platform room_1 = true :=
  launch0.hasRoom_least _ room_1 (by decide +kernel) (by decide +kernel) (by decide +kernel) (by decide +kernel) (by decide +kernel) (by decide +kernel)
theorem allAtoms_all (ts : List Jvm.Cond) (a : Array Jvm.Value) (st : Jvm.State) : (allAtoms ts).before a st = ts.all (fun c => c.before a st) := by
  induction ts with
  | nil => rfl
  | cons c t ih =>
    show (Jvm.Cond.and c (allAtoms t)).before a st = _
    rw [Jvm.Cond.before_and, ih, List.all_cons]
def words1 : List Jvm.Cond := Jvm.Cond.code x code maxLocals ret :: tables_1
/-- a 'code' word, met by the world's own term for the bytes: nothing is compared byte by byte -/
theorem code_word {y : MethodName} {bytes : ByteArray} {mx : Nat} {rt : Option FieldType} {a : Array Value} {s : State} {m : MethodId} {meth : Method} {c : Code} (h1 : s.methodNamed? y = some m) (h2 : s.vm.method? m = some meth) (h3 : meth.code = some c) (h4 : c.code = bytes)
    (h5 : (c.maxLocals == mx && c.exceptionTable.isEmpty && decide (c.maxStack ≤ mostOperands) && decide (meth.sig.returnType = rt) && !meth.locks && decide (parseMethodDescriptor y.desc = some meth.sig)) = true) : (Jvm.Cond.code y bytes mx rt).before a s = true := by
  simp only [Bool.and_eq_true, beq_iff_eq, Bool.not_eq_true', decide_eq_true_eq] at h5
  obtain ⟨⟨⟨⟨⟨g1, g2⟩, g3⟩, g4⟩, g5⟩, g6⟩ := h5
  simp [Cond.before, Cond.holds, Cond.value, h1, h2, h3, h4, g1, g2, g3, g4, g5, g6]
def isCode : Jvm.Cond → Bool
  | .code _ _ _ _ => true
  | _ => false
theorem all_split {L : List Jvm.Cond} {P : Jvm.Cond → Bool} (h1 : L.all (fun c => isCode c || P c) = true) (h2 : ∀ c ∈ L.filter isCode, P c = true) : L.all P = true := by
  refine List.all_eq_true.mpr fun c hc => ?_
  have h := List.all_eq_true.mp h1 c hc
  rcases Bool.eq_false_or_eq_true (isCode c) with hi | hi
  · exact h2 c (List.mem_filter.mpr ⟨hc, hi⟩)
  · simpa [hi] using h
set_option maxRecDepth 65536 in
theorem w_c0 : (Jvm.Cond.code x code maxLocals ret).before args0 about1 = true := code_word (m := ⟨1, 1⟩) (meth := k1m1) (c := k1c1) (by decide +kernel) rfl rfl rfl (by decide +kernel)
set_option maxRecDepth 65536 in
theorem w_c1 : (Jvm.Cond.code ({ cls := "java/util/ArrayList", name := "<init>", desc := "()V" } : Jvm.MethodName) jdk_38_method_2_code (1 : Nat) (Option.none : Option Jvm.ClassFile.FieldType)).before args0 about1 = true := code_word (m := ⟨15, 0⟩) (meth := k15m0) (c := k15c0) (by decide +kernel) rfl rfl rfl (by decide +kernel)
set_option maxRecDepth 65536 in
theorem w_c2 : (Jvm.Cond.code ({ cls := "java/util/AbstractList", name := "<init>", desc := "()V" } : Jvm.MethodName) jdk_39_method_1_code (1 : Nat) (Option.none : Option Jvm.ClassFile.FieldType)).before args0 about1 = true := code_word (m := ⟨12, 0⟩) (meth := k12m0) (c := k12c0) (by decide +kernel) rfl rfl rfl (by decide +kernel)
set_option maxRecDepth 65536 in
theorem w_c3 : (Jvm.Cond.code ({ cls := "java/util/AbstractCollection", name := "<init>", desc := "()V" } : Jvm.MethodName) jdk_22_method_1_code (1 : Nat) (Option.none : Option Jvm.ClassFile.FieldType)).before args0 about1 = true := code_word (m := ⟨9, 0⟩) (meth := k9m0) (c := k9c0) (by decide +kernel) rfl rfl rfl (by decide +kernel)
set_option maxRecDepth 65536 in
theorem w_c4 : (Jvm.Cond.code ({ cls := "java/lang/Object", name := "<init>", desc := "()V" } : Jvm.MethodName) object_method_1_code (1 : Nat) (Option.none : Option Jvm.ClassFile.FieldType)).before args0 about1 = true := code_word (m := ⟨0, 0⟩) (meth := k0m0) (c := k0c0) (by decide +kernel) rfl rfl rfl (by decide +kernel)
set_option maxRecDepth 65536 in
theorem w_c5 : (Jvm.Cond.code ({ cls := "com/example/nowait/nowait/Strategy", name := "locksRow", desc := "(Ljava/util/List;Z)Z" } : Jvm.MethodName) prog_28_method_5_code (3 : Nat) (Option.some Jvm.ClassFile.FieldType.boolean)).before args0 about1 = true := code_word (m := ⟨6, 1⟩) (meth := k6m1) (c := k6c1) (by decide +kernel) rfl rfl rfl (by decide +kernel)
set_option maxRecDepth 65536 in
theorem w_c6 : (Jvm.Cond.code ({ cls := "java/util/ArrayList", name := "contains", desc := "(Ljava/lang/Object;)Z" } : Jvm.MethodName) jdk_38_method_10_code (2 : Nat) (Option.some Jvm.ClassFile.FieldType.boolean)).before args0 about1 = true := code_word (m := ⟨15, 1⟩) (meth := k15m1) (c := k15c1) (by decide +kernel) rfl rfl rfl (by decide +kernel)
set_option maxRecDepth 65536 in
theorem w_c7 : (Jvm.Cond.code ({ cls := "java/util/ArrayList", name := "indexOf", desc := "(Ljava/lang/Object;)I" } : Jvm.MethodName) jdk_38_method_11_code (2 : Nat) (Option.some Jvm.ClassFile.FieldType.int)).before args0 about1 = true := code_word (m := ⟨15, 2⟩) (meth := k15m2) (c := k15c2) (by decide +kernel) rfl rfl rfl (by decide +kernel)
set_option maxRecDepth 65536 in
theorem w_c8 : (Jvm.Cond.code ({ cls := "java/util/ArrayList", name := "indexOfRange", desc := "(Ljava/lang/Object;II)I" } : Jvm.MethodName) jdk_38_method_12_code (6 : Nat) (Option.some Jvm.ClassFile.FieldType.int)).before args0 about1 = true := code_word (m := ⟨15, 3⟩) (meth := k15m3) (c := k15c3) (by decide +kernel) rfl rfl rfl (by decide +kernel)
set_option maxRecDepth 65536 in
theorem w_c9 : (Jvm.Cond.code ({ cls := "com/example/nowait/nowait/Strategy", name := "heedsRecentConflicts", desc := "()Z" } : Jvm.MethodName) prog_28_method_4_code (1 : Nat) (Option.some Jvm.ClassFile.FieldType.boolean)).before args0 about1 = true := code_word (m := ⟨6, 0⟩) (meth := k6m0) (c := k6c0) (by decide +kernel) rfl rfl rfl (by decide +kernel)
def codes1 : List Jvm.Cond := [Jvm.Cond.code x code maxLocals ret, Jvm.Cond.code ({ cls := "java/util/ArrayList", name := "<init>", desc := "()V" } : Jvm.MethodName) jdk_38_method_2_code (1 : Nat) (Option.none : Option Jvm.ClassFile.FieldType), Jvm.Cond.code ({ cls := "java/util/AbstractList", name := "<init>", desc := "()V" } : Jvm.MethodName) jdk_39_method_1_code (1 : Nat) (Option.none : Option Jvm.ClassFile.FieldType), Jvm.Cond.code ({ cls := "java/util/AbstractCollection", name := "<init>", desc := "()V" } : Jvm.MethodName) jdk_22_method_1_code (1 : Nat) (Option.none : Option Jvm.ClassFile.FieldType), Jvm.Cond.code ({ cls := "java/lang/Object", name := "<init>", desc := "()V" } : Jvm.MethodName) object_method_1_code (1 : Nat) (Option.none : Option Jvm.ClassFile.FieldType), Jvm.Cond.code ({ cls := "com/example/nowait/nowait/Strategy", name := "locksRow", desc := "(Ljava/util/List;Z)Z" } : Jvm.MethodName) prog_28_method_5_code (3 : Nat) (Option.some Jvm.ClassFile.FieldType.boolean), Jvm.Cond.code ({ cls := "java/util/ArrayList", name := "contains", desc := "(Ljava/lang/Object;)Z" } : Jvm.MethodName) jdk_38_method_10_code (2 : Nat) (Option.some Jvm.ClassFile.FieldType.boolean), Jvm.Cond.code ({ cls := "java/util/ArrayList", name := "indexOf", desc := "(Ljava/lang/Object;)I" } : Jvm.MethodName) jdk_38_method_11_code (2 : Nat) (Option.some Jvm.ClassFile.FieldType.int), Jvm.Cond.code ({ cls := "java/util/ArrayList", name := "indexOfRange", desc := "(Ljava/lang/Object;II)I" } : Jvm.MethodName) jdk_38_method_12_code (6 : Nat) (Option.some Jvm.ClassFile.FieldType.int), Jvm.Cond.code ({ cls := "com/example/nowait/nowait/Strategy", name := "heedsRecentConflicts", desc := "()Z" } : Jvm.MethodName) prog_28_method_4_code (1 : Nat) (Option.some Jvm.ClassFile.FieldType.boolean)]
set_option maxRecDepth 65536 in
theorem codes_eq : words1.filter isCode = codes1 := rfl
theorem w_codes : ∀ c ∈ words1.filter isCode, c.before args0 about1 = true := by
  rw [codes_eq]
  intro c hc
  simp only [codes1, List.mem_cons, List.not_mem_nil, or_false] at hc
  rcases hc with rfl | rfl | rfl | rfl | rfl | rfl | rfl | rfl | rfl | rfl
  · exact w_c0
  · exact w_c1
  · exact w_c2
  · exact w_c3
  · exact w_c4
  · exact w_c5
  · exact w_c6
  · exact w_c7
  · exact w_c8
  · exact w_c9
set_option maxRecDepth 65536 in
theorem w_t1 : (words1.take 24).all (fun c => isCode c || c.before args0 about1) = true := by decide +kernel
set_option maxRecDepth 65536 in
theorem w_t2 : ((words1.drop 24).take 24).all (fun c => isCode c || c.before args0 about1) = true := by decide +kernel
set_option maxRecDepth 65536 in
theorem w_t3 : (((words1.drop 24).drop 24).take 24).all (fun c => isCode c || c.before args0 about1) = true := by decide +kernel
set_option maxRecDepth 65536 in
theorem w_t4 : (((words1.drop 24).drop 24).drop 24).all (fun c => isCode c || c.before args0 about1) = true := by decide +kernel
theorem w_tables : (allAtoms (Jvm.Cond.code x code maxLocals ret :: tables_1)).before args0 about1 = true := by
  rw [allAtoms_all]
  show words1.all (fun c => c.before args0 about1) = true
  refine all_split ?_ w_codes
  rw [← List.take_append_drop 24 words1, List.all_append, w_t1, ← List.take_append_drop 24 (words1.drop 24), List.all_append, w_t2, ← List.take_append_drop 24 ((words1.drop 24).drop 24), List.all_append, w_t3, w_t4]
  rfl
set_option maxRecDepth 65536 in
theorem w_rest : rest_1_c.before args0 about1 = true := by decide +kernel
set_option maxRecDepth 65536 in
theorem w_case : (Jvm.Cond.and given_1 narrow_1).before args0 about1 = true := by decide +kernel
theorem w_applies : (headSpec (Jvm.Cond.code x code maxLocals ret :: tables_1) room_1).applies x e0.platform about1 = true :=
  (Spec.applies_iff w_frames).mpr ⟨w_running, w_runnable, w_alone, w_named, w_hears, w_ripe, w_room, w_tables⟩
theorem atStart : AtStart classFile x code maxLocals ret World_1 tables_1 room_1 Calls_1 rest_1 Pre_1 launch0 p0 e0 about1 theMethod args0 below0 :=
  ⟨lists_1, trivial, launch0.admits_env _ _ _, launch0.least_env, fairChoices_fair.cas, fairChoices_fair.clock, w_frames, w_args, w_heap, w_applies, trivial, w_rest, w_case⟩
end start1
theorem witness_1 : WitnessClaimed_1 := ⟨start1.p0, start1.e0, start1.about1, start1.theMethod, start1.args0, start1.below0, start1.atStart⟩
end Jvm.Pilot.@@N@@
