import JvmDerived
import JvmDerived.Pilot.@@N@@Statement
import JvmDerived.Pilot.@@N@@Code
set_option linter.unusedVariables false
set_option linter.unusedSimpArgs false
@@BLOCK:LamKit.lean.txt@@
namespace Jvm.Pilot.@@N@@
open Jvm Jvm.ClassFile Sem Op Lib Jvm.Free Jvm.Stand Jvm.LawKit Jvm.RoadKit Bundle Jvm.Pilot.@@N@@.Jvm.D
/-! my own layer: a walk in continuation form. OGo P T g: from the frame g at T the run comes to an end that meets P. -/
section Own
variable {p : Program} {l : Launch} {e : Env} {R : Room} {s : State} {m : MethodId} {args : Array Value} {below : List Frame} {meth : Method} {c : Code} {T : State} {locs : List Loc} {cells slots : Nat} {Z : State} {a0 : Array Value} {h : Heap}
def OGo (p : Program) (e : Env) (below : List Frame) (P : State → Outcome → Prop) (T : State) (g : JFrame) : Prop :=
  ∃ t o, Steps p.tables e below (T.setTop g) t ∧ t.status = .running ∧ Ended t below o ∧ P t o
def OEnd (s : State) (Q : Option Value → Heap → List Loc → Prop) (ck sk : Nat) (t : State) (o : Outcome) : Prop :=
  ∃ v L, o = .returned v ∧ Q v t.heap L ∧ FrameEnd s o t L ck sk
def OMet (l : Launch) (y : MethodName) (bytes : ByteArray) (maxL : Nat) (ret : Option FieldType) (ws : List Jvm.Cond) (rm : Room) (Z : State) (as' : Array Value) (h : Heap) (Q : Option Value → Heap → List Loc → Prop) : Prop :=
  MetFree l y (head1 (Jvm.Cond.code y bytes maxL ret :: ws) rm) (fun a U => a = as' ∧ Z.Warmed39 U.vm ∧ U.heap = h) (fun _ _ _ _ _ => True)
    (fun _ U o U' => ∃ v L, o = .returned v ∧ Q v U'.heap L ∧ FrameEnd U o U' L rm.cells rm.slots)
variable {P : State → Outcome → Prop}
theorem own_step {g g' : JFrame} (k : ∀ target, Steps p.tables e below (T.setTop g') target → Steps p.tables e below (T.setTop g) target) (d : OGo p e below P T g') : OGo p e below P T g := by
  obtain ⟨t, o, h1, h2⟩ := d
  exact ⟨t, o, k t h1, h2⟩
theorem own_via {T' : State} {g g' : JFrame} (k : ∀ target, Steps p.tables e below (T'.setTop g') target → Steps p.tables e below (T.setTop g) target) (d : OGo p e below P T' g') : OGo p e below P T g := by
  obtain ⟨t, o, h1, h2⟩ := d
  exact ⟨t, o, k t h1, h2⟩
theorem own_entry {g g' : JFrame} (q : g = g') (d : OGo p e below P T g') : OGo p e below P T g := q ▸ d
/-- a body by its walk -/
theorem own_body {y : MethodName} {bytes : ByteArray} {maxL : Nat} {ret : Option FieldType} {ws : List Jvm.Cond} {rm : Room} {as' : Array Value} {Q : Option Value → Heap → List Loc → Prop} (hpl : plainFor y = true)
    (body : ∀ (p : Program) (e : Env) (s : State) (m : MethodId) (below : List Frame) (meth : Method) (c : Code) (T : State), Stand p l e rm s m as' below meth c T [] 0 0 → p.tables.exec = Jvm.exec → Z.Warmed39 s.vm → c.code = bytes → c.maxLocals = maxL →
      s.vm.findClass y.cls = some m.cls → meth.name = y.name → meth.sig.returnType = ret → meth.locks = false → T.heap = h → OGo p e below (OEnd s Q rm.cells rm.slots) T (entryFrame m as' maxL)) :
    OMet l y bytes maxL ret ws rm Z as' h Q := by
  refine MetFree.of_bodySF hpl hisR ?_
  intro p e s m args below meth c s₁ Bd hml0 hP hK
  obtain ⟨rfl, hZ, hh⟩ := hP
  exact body p e s m below meth c s₁ (Stand.of_body Bd) Bd.exec hZ Bd.bytes hml0 (findClass_of_methodNamed Bd.named) (name_of_methodNamed Bd.named Bd.method).1 Bd.returns Bd.notSynchronized (by rw [← hh, Bd.state]; rfl)
variable {Q : Option Value → Heap → List Loc → Prop} {ck sk : Nat}
theorem own_retN (X : Stand p l e R s m args below meth c T locs cells slots) (hx : p.tables.exec = Jvm.exec) {pc : Nat} {Ls : Array Slot} {z : Int32} {t : FieldType} {rest : List Value} (hret : meth.sig.returnType = some t) (ht : t = .boolean ∨ t = .byte ∨ t = .char ∨ t = .short)
    (hlk : meth.locks = false) (hd : decode c.code pc = .ok (.ireturn, 1)) (eT : T.heap = h) (hQ : Q (some (.int (nar t z))) h locs) (hc : cells ≤ ck) (hs : slots ≤ sk) :
    OGo p e below (OEnd s Q ck sk) T (mkF m pc Ls (.int z :: rest)) := by
  obtain ⟨fs, hr, hrun, hended, hW, hsame⟩ := X.leave (v := some (.int (nar t z))) (fun h => by rw [hret] at h; cases h) hlk
  exact ⟨_, _, retN X hx hret ht hd hr, hrun, hended, _, locs, rfl, (show Q _ T.heap locs by rw [eT]; exact hQ), ⟨_, rfl⟩, hW, hsame.mono hc hs⟩
theorem own_retO (X : Stand p l e R s m args below meth c T locs cells slots) (hx : p.tables.exec = Jvm.exec) {pc : Nat} {Ls : Array Slot} {w : Value} {t : FieldType} {i : Instr} {rest : List Value} (hret : meth.sig.returnType = some t) (hn : narrow t w = w)
    (hi : (i = .ireturn ∧ (t = .int ∨ t = .boolean ∨ t = .byte ∨ t = .char ∨ t = .short) ∧ ∃ z, w = .int z) ∨ (i = .lreturn ∧ t = .long ∧ ∃ z, w = .long z) ∨ (i = .dreturn ∧ t = .double ∧ ∃ z, w = .double z) ∨ (i = .freturn ∧ t = .float ∧ ∃ z, w = .float z) ∨ (i = .areturn ∧ t.isReference = true ∧ w.isRef = true))
    (hlk : meth.locks = false) (hd : decode c.code pc = .ok (i, 1)) (eT : T.heap = h) (hQ : Q (some w) h locs) (hc : cells ≤ ck) (hs : slots ≤ sk) :
    OGo p e below (OEnd s Q ck sk) T (mkF m pc Ls (w :: rest)) := by
  obtain ⟨fs, hr, hrun, hended, hW, hsame⟩ := X.leave (v := some w) (fun h => by rw [hret] at h; cases h) hlk
  exact ⟨_, _, retOut X hx hret hn hi hd hr, hrun, hended, _, locs, rfl, (show Q _ T.heap locs by rw [eT]; exact hQ), ⟨_, rfl⟩, hW, hsame.mono hc hs⟩
theorem own_retI (X : Stand p l e R s m args below meth c T locs cells slots) (hx : p.tables.exec = Jvm.exec) {pc : Nat} {Ls : Array Slot} {z : Int32} {rest : List Value} (hret : meth.sig.returnType = some .int)
    (hlk : meth.locks = false) (hd : decode c.code pc = .ok (.ireturn, 1)) (eT : T.heap = h) (hQ : Q (some (.int z)) h locs) (hc : cells ≤ ck) (hs : slots ≤ sk) :
    OGo p e below (OEnd s Q ck sk) T (mkF m pc Ls (.int z :: rest)) := own_retO X hx hret rfl (Or.inl ⟨rfl, Or.inl rfl, z, rfl⟩) hlk hd eT hQ hc hs
theorem own_retA (X : Stand p l e R s m args below meth c T locs cells slots) (hx : p.tables.exec = Jvm.exec) {pc : Nat} {Ls : Array Slot} {w : Value} {t : FieldType} {rest : List Value} (hret : meth.sig.returnType = some t) (ht : t.isReference = true) (hw : w.isRef = true)
    (hlk : meth.locks = false) (hd : decode c.code pc = .ok (.areturn, 1)) (eT : T.heap = h) (hQ : Q (some w) h locs) (hc : cells ≤ ck) (hs : slots ≤ sk) :
    OGo p e below (OEnd s Q ck sk) T (mkF m pc Ls (w :: rest)) :=
  own_retO X hx hret (by cases t <;> cases w <;> first | rfl | (cases ht; done) | (cases hw; done)) (Or.inr (Or.inr (Or.inr (Or.inr ⟨rfl, ht, hw⟩)))) hlk hd eT hQ hc hs
theorem own_retV (X : Stand p l e R s m args below meth c T locs cells slots) (hx : p.tables.exec = Jvm.exec) {pc : Nat} {Ls : Array Slot} (hret : meth.sig.returnType = none)
    (hlk : meth.locks = false) (hd : decode c.code pc = .ok (.return_, 1)) (eT : T.heap = h) (hQ : Q none h locs) (hc : cells ≤ ck) (hs : slots ≤ sk) :
    OGo p e below (OEnd s Q ck sk) T (mkF m pc Ls []) := by
  obtain ⟨fs, hr, hrun, hended, hW, hsame⟩ := X.leave (v := none) (fun _ => rfl) hlk
  exact ⟨_, _, X.returnOut hx hret hd hr, hrun, hended, _, locs, rfl, (show Q _ T.heap locs by rw [eT]; exact hQ), ⟨_, rfl⟩, hW, hsame.mono hc hs⟩
variable {y : MethodName} {bytes : ByteArray} {maxL : Nat} {ret : Option FieldType} {rm : Room} {as' : Array Value}
theorem own_callS (X : Stand p l e R s m args below meth c T locs cells slots) (hx : p.tables.exec = Jvm.exec) (hZ : Z.Warmed39 s.vm) {own : String} {index W : Nat} (hown : s.vm.findClass own = some m.cls) (eT : T.heap = h)
    (hM : OMet l y bytes maxL ret [] rm Z as' h Q)
    (w1 : (Cond.methodLink own index y).before a0 Z = true) (w2 : (Cond.static y).before a0 Z = true) (w3 : (Cond.initialized y.cls).before a0 Z = true) (w4 : (Cond.code y bytes maxL ret).before a0 Z = true)
    (hy : y.cls ≠ "java/lang/invoke/MethodHandle" ∧ y.cls ≠ "java/lang/invoke/VarHandle") (hf : rm.frames + 1 ≤ R.frames) (hl : W + (maxL + 11) + rm.locals ≤ R.locals)
    {g : JFrame} (hg : g.method = m) (hsize : g.locals.size = c.maxLocals) {argsL rest : List Value} (has : argsL.toArray = as') (hlen : ∀ sig, parseMethodDescriptor y.desc = some sig → argsL.length = sig.parameters.length)
    (hstack : g.stack = argsL.reverse ++ rest) (hW : 2 * g.monitorRoom + (rest.map fun v => v.category).sum ≤ W) (hdg : decode c.code g.pc = .ok (.invokestatic index, 3))
    (hc : cells + rm.cells ≤ R.cells) (hs : slots + rm.slots ≤ R.slots)
    (k : ∀ (v : Option Value) (T' : State) (L : List Loc), Stand p l e R s m args below meth c T' (locs ++ L) (cells + rm.cells) (slots + rm.slots) → Q v T'.heap L → OGo p e below P T' { g with pc := g.pc + 3, stack := v.toList ++ rest }) :
    OGo p e below P T g := by
  obtain ⟨v, _, ⟨T', L', k', n'⟩, -, X', ⟨Lc, hQ, e1, e2, e3⟩, st⟩ := Jvm.LawKit.callS X hx (y := y) hown (mvT hZ w1) (mvT hZ w2) (mvT hZ w3) (mvT hZ w4) hy (backOf (W := W) hM hZ w4 w3 hf hl) hg hsize hlen hstack hW hdg (fun _ _ => ⟨has, eT, hc, hs⟩)
  dsimp only [Pt.U, Pt.locs, Pt.cells, Pt.slots] at X' e1 e2 e3 st hQ
  subst e1 e2 e3
  exact own_via st (k v T' Lc X' hQ)
theorem own_callV (X : Stand p l e R s m args below meth c T locs cells slots) (hx : p.tables.exec = Jvm.exec) (hZ : Z.Warmed39 s.vm) {own C : String} {index W : Nat} {z : MethodName} (hown : s.vm.findClass own = some m.cls) (eT : T.heap = h)
    (hM : OMet l z bytes maxL ret [] rm Z as' h Q) {b : Addr} (E : Exa Z h b C)
    (w1 : (Cond.methodLink own index y).before a0 Z = true) (w2 : (Cond.declares y).before a0 Z = true) (nf : NotFace s y) (w3 : (Cond.selects C y z).before a0 Z = true) (w4 : (Cond.instanceMethod z).before a0 Z = true) (w5 : (Cond.code z bytes maxL ret).before a0 Z = true) (w6 : (Cond.initialized z.cls).before a0 Z = true)
    (hy : y.cls ≠ "java/lang/invoke/MethodHandle" ∧ y.cls ≠ "java/lang/invoke/VarHandle") (hf : rm.frames + 1 ≤ R.frames) (hl : W + (maxL + 11) + rm.locals ≤ R.locals)
    {g : JFrame} (hg : g.method = m) (hsize : g.locals.size = c.maxLocals) {argsL rest : List Value} (has : (.ref b :: argsL).toArray = as') (hlen : ∀ sig, parseMethodDescriptor y.desc = some sig → argsL.length = sig.parameters.length)
    (hstack : g.stack = argsL.reverse ++ .ref b :: rest) (hW : 2 * g.monitorRoom + (rest.map fun v => v.category).sum ≤ W) (hdg : decode c.code g.pc = .ok (.invokevirtual index, 3))
    (hc : cells + rm.cells ≤ R.cells) (hs : slots + rm.slots ≤ R.slots)
    (k : ∀ (v : Option Value) (T' : State) (L : List Loc), Stand p l e R s m args below meth c T' (locs ++ L) (cells + rm.cells) (slots + rm.slots) → Q v T'.heap L → OGo p e below P T' { g with pc := g.pc + 3, stack := v.toList ++ rest }) :
    OGo p e below P T g := by
  obtain ⟨cq, kq, qa, qb, qc⟩ := isOf hZ eT E
  obtain ⟨v, _, ⟨T', L', k', n'⟩, -, X', ⟨Lc, hQ, e1, e2, e3⟩, st⟩ := X.virtualBack hx (y := y) (z := z) hown (mvT hZ w1) (mvT hZ w2) nf (mvT hZ w3) (mvT hZ w4) hy (backOf (W := W) hM hZ w5 w6 hf hl) qa qc hg hsize (Steps.refl _) hlen hstack hW hdg (fun _ _ => ⟨has, eT, hc, hs⟩)
  dsimp only [Pt.U, Pt.locs, Pt.cells, Pt.slots] at X' e1 e2 e3 st hQ
  subst e1 e2 e3
  exact own_via (fun _ kk => st.trans kk) (k v T' Lc X' hQ)
theorem own_callI (X : Stand p l e R s m args below meth c T locs cells slots) (hx : p.tables.exec = Jvm.exec) (hZ : Z.Warmed39 s.vm) {own C : String} {index count W : Nat} {z : MethodName} (hown : s.vm.findClass own = some m.cls) (eT : T.heap = h)
    (hM : OMet l z bytes maxL ret [] rm Z as' h Q) {b : Addr} (E : Exa Z h b C)
    (w1 : (Cond.methodLink own index y).before a0 Z = true) (w2 : (Cond.declares y).before a0 Z = true) (wf : (Cond.interfaceMethod y.cls y.cls y.name y.desc).before args s = true) (w3 : (Cond.selects C y z).before a0 Z = true) (w4 : (Cond.instanceMethod z).before a0 Z = true)
    (wp : (Cond.publicMethod z).before a0 Z = true) (wu : (Cond.unhidden C y.name y.desc).before a0 Z = true) (wc : (Cond.castable C y.cls).before a0 Z = true) (w5 : (Cond.code z bytes maxL ret).before a0 Z = true) (w6 : (Cond.initialized z.cls).before a0 Z = true)
    (hy : y.cls ≠ "java/lang/invoke/MethodHandle" ∧ y.cls ≠ "java/lang/invoke/VarHandle") (hf : rm.frames + 1 ≤ R.frames) (hl : W + (maxL + 11) + rm.locals ≤ R.locals)
    {g : JFrame} (hg : g.method = m) (hsize : g.locals.size = c.maxLocals) {argsL rest : List Value} (has : (.ref b :: argsL).toArray = as') (hlen : ∀ sig, parseMethodDescriptor y.desc = some sig → argsL.length = sig.parameters.length)
    (hstack : g.stack = argsL.reverse ++ .ref b :: rest) (hW : 2 * g.monitorRoom + (rest.map fun v => v.category).sum ≤ W) (hdg : decode c.code g.pc = .ok (.invokeinterface index count, 5))
    (hc : cells + rm.cells ≤ R.cells) (hs : slots + rm.slots ≤ R.slots)
    (k : ∀ (v : Option Value) (T' : State) (L : List Loc), Stand p l e R s m args below meth c T' (locs ++ L) (cells + rm.cells) (slots + rm.slots) → Q v T'.heap L → OGo p e below P T' { g with pc := g.pc + 5, stack := v.toList ++ rest }) :
    OGo p e below P T g := by
  obtain ⟨cq, kq, qa, qb, qc⟩ := isOf hZ eT E
  obtain ⟨v, _, ⟨T', L', k', n'⟩, -, X', ⟨Lc, hQ, e1, e2, e3⟩, st⟩ := X.interfaceBack hx (xi := y) (y := z) hown (mvT hZ w1) (mvT hZ w2) wf (mvT hZ w3) (mvT hZ w4) (mvT hZ wp) (mvT hZ wu) (mvT hZ wc) hy (backOf (W := W) hM hZ w5 w6 hf hl) qa qb qc hg hsize (Steps.refl _) hlen hstack hW hdg (fun _ _ => ⟨has, eT, hc, hs⟩)
  dsimp only [Pt.U, Pt.locs, Pt.cells, Pt.slots] at X' e1 e2 e3 st hQ
  subst e1 e2 e3
  exact own_via (fun _ kk => st.trans kk) (k v T' Lc X' hQ)
theorem own_init (X : Stand p l e R s m args below meth c T locs cells slots) (hx : p.tables.exec = Jvm.exec) (hZ : Z.Warmed39 s.vm) {own : String} {index W : Nat} (hown : s.vm.findClass own = some m.cls) (eT : T.heap = h)
    (hM : OMet l y bytes maxL none [] rm Z as' h Q) {b : Addr} (hy1 : y.name = "<init>")
    (w1 : (Cond.methodLink own index y).before a0 Z = true) (w2 : (Cond.instanceMethod y).before a0 Z = true) (w3 : (Cond.code y bytes maxL none).before a0 Z = true) (w4 : (Cond.initialized y.cls).before a0 Z = true)
    (hy : y.cls ≠ "java/lang/invoke/MethodHandle" ∧ y.cls ≠ "java/lang/invoke/VarHandle") (hf : rm.frames + 1 ≤ R.frames) (hl : W + (maxL + 11) + rm.locals ≤ R.locals)
    {g : JFrame} (hg : g.method = m) (hsize : g.locals.size = c.maxLocals) {argsL rest : List Value} (has : (.ref b :: argsL).toArray = as') (hlen : ∀ sig, parseMethodDescriptor y.desc = some sig → argsL.length = sig.parameters.length)
    (hstack : g.stack = argsL.reverse ++ .ref b :: rest) (hW : 2 * g.monitorRoom + (rest.map fun v => v.category).sum ≤ W) (hdg : decode c.code g.pc = .ok (.invokespecial index, 3))
    (hc : cells + rm.cells ≤ R.cells) (hs : slots + rm.slots ≤ R.slots)
    (k : ∀ (v : Option Value) (T' : State) (L : List Loc), Stand p l e R s m args below meth c T' (locs ++ L) (cells + rm.cells) (slots + rm.slots) → Q v T'.heap L → OGo p e below P T' { g with pc := g.pc + 3, stack := v.toList ++ rest }) :
    OGo p e below P T g := by
  obtain ⟨v, _, ⟨T', L', k', n'⟩, -, X', ⟨Lc, hQ, e1, e2, e3⟩, st⟩ := X.specialBack hx (y := y) hy1 hown (mvT hZ w1) (mvT hZ w2) (mvT hZ w3) hy (backOf (W := W) hM hZ w3 w4 hf hl) hg hsize (Steps.refl _) hlen hstack hW hdg (fun _ _ => ⟨has, eT, hc, hs⟩)
  dsimp only [Pt.U, Pt.locs, Pt.cells, Pt.slots] at X' e1 e2 e3 st hQ
  subst e1 e2 e3
  exact own_via (fun _ kk => st.trans kk) (k v T' Lc X' hQ)
theorem own_initB (X : Stand p l e R s m args below meth c T locs cells slots) (hx : p.tables.exec = Jvm.exec) (hZ : Z.Warmed39 s.vm) {own : String} {index W ck' sk' : Nat} (hown : s.vm.findClass own = some m.cls) (eT : T.heap = h)
    (hK : Back l R p e below s args y 3 W (fun A a => a = as' ∧ A.U.heap = h ∧ A.cells + ck' ≤ R.cells ∧ A.slots + sk' ≤ R.slots) (fun A _ v B => ∃ L, Q v B.U.heap L ∧ B.locs = A.locs ++ L ∧ B.cells = A.cells + ck' ∧ B.slots = A.slots + sk')) {b : Addr} (hy1 : y.name = "<init>")
    (w1 : (Cond.methodLink own index y).before a0 Z = true) (w2 : (Cond.instanceMethod y).before a0 Z = true) (w3 : (Cond.code y bytes maxL none).before a0 Z = true)
    (hy : y.cls ≠ "java/lang/invoke/MethodHandle" ∧ y.cls ≠ "java/lang/invoke/VarHandle")
    {g : JFrame} (hg : g.method = m) (hsize : g.locals.size = c.maxLocals) {argsL rest : List Value} (has : (.ref b :: argsL).toArray = as') (hlen : ∀ sig, parseMethodDescriptor y.desc = some sig → argsL.length = sig.parameters.length)
    (hstack : g.stack = argsL.reverse ++ .ref b :: rest) (hW : 2 * g.monitorRoom + (rest.map fun v => v.category).sum ≤ W) (hdg : decode c.code g.pc = .ok (.invokespecial index, 3))
    (hc : cells + ck' ≤ R.cells) (hs : slots + sk' ≤ R.slots)
    (k : ∀ (v : Option Value) (T' : State) (L : List Loc), Stand p l e R s m args below meth c T' (locs ++ L) (cells + ck') (slots + sk') → Q v T'.heap L → OGo p e below P T' { g with pc := g.pc + 3, stack := v.toList ++ rest }) :
    OGo p e below P T g := by
  obtain ⟨v, _, ⟨T', L', k', n'⟩, -, X', ⟨Lc, hQ, e1, e2, e3⟩, st⟩ := X.specialBack hx (y := y) hy1 hown (mvT hZ w1) (mvT hZ w2) (mvT hZ w3) hy hK hg hsize (Steps.refl _) hlen hstack hW hdg (fun _ _ => ⟨has, eT, hc, hs⟩)
  dsimp only [Pt.U, Pt.locs, Pt.cells, Pt.slots] at X' e1 e2 e3 st hQ
  subst e1 e2 e3
  exact own_via (fun _ kk => st.trans kk) (k v T' Lc X' hQ)
theorem own_irem {tb : Tables} [Ours tb] {e : Env} {below : List Frame} {T target : State} {m : MethodId} {c : Code} {g : JFrame} (h : At T m c below) (hx : tb.exec = Jvm.exec) (hg : g.method = m) {x y : Int32} {rest : List Value} (hd : decode c.code g.pc = .ok (.irem, 1)) (hs : g.stack = .int y :: .int x :: rest) (hy : y ≠ 0)
    (hr : Steps tb e below (T.setTop { g with pc := g.pc + 1, stack := .int (x % y) :: rest }) target) : Steps tb e below (T.setTop g) target := XS.irem h hx hg hd hs hy (by rw [irem_eq_mod]; exact hr)
theorem own_storeV {Ls : Array Slot} {n : Nat} {w : Value} (hw : w.isRef = true) (f : Value → Array Slot) (h0 : storeLocals Ls n .null = some (f .null)) (h1 : ∀ a, storeLocals Ls n (.ref a) = some (f (.ref a))) : storeLocals Ls n w = some (f w) := by
  cases w <;> first | exact h0 | exact h1 _ | (cases hw; done)
theorem own_len {z w : Int32} (q : z = w) {g : JFrame} {rest : List Value} {pc : Nat} (k : ∀ target, Steps p.tables e below (T.setTop { g with pc := pc, stack := .int z :: rest }) target → Steps p.tables e below (T.setTop g) target) :
    ∀ target, Steps p.tables e below (T.setTop { g with pc := pc, stack := .int w :: rest }) target → Steps p.tables e below (T.setTop g) target := q ▸ k
theorem own_narZ {x : Int32} (hx : x = 0 ∨ x = 1) : narrow .boolean (.int x) = .int x := by rcases hx with rfl | rfl <;> rfl
theorem own_fitZ {x : Int32} (hx : x = 0 ∨ x = 1) : fits .boolean (.int x) = true := by rcases hx with rfl | rfl <;> rfl
theorem own_fits_byte (x : Int32) : fits .byte (.int (nar .byte x)) = true := fits_nar_byte x
theorem own_lat (x : Int32) : ¬ (x &&& (255 : Int32)).toUInt32.toUInt16.toUInt32.toInt32 < (0 : Int32) ∧ ¬ (255 : Int32) < (x &&& (255 : Int32)).toUInt32.toUInt16.toUInt32.toInt32 := by
  rw [i2c_mask]
  have q := c_and x 255 (by decide)
  rw [Int32.lt_iff_toInt_lt, Int32.lt_iff_toInt_lt]
  have e1 : (0 : Int32).toInt = 0 := by decide
  have e2 : (255 : Int32).toInt = 255 := by decide
  omega
theorem own_latN (x : Int32) : ¬ nar .char ((x &&& (255 : Int32)).toUInt32.toUInt16.toUInt32.toInt32) < (0 : Int32) ∧ ¬ (255 : Int32) < nar .char ((x &&& (255 : Int32)).toUInt32.toUInt16.toUInt32.toInt32) := by
  have e : nar .char ((x &&& (255 : Int32)).toUInt32.toUInt16.toUInt32.toInt32) = (x &&& (255 : Int32)).toUInt32.toUInt16.toUInt32.toInt32 := by simp only [nar, i2c_mask]
  rw [e]
  exact own_lat x
theorem own_callP (X : Stand p l e R s m args below meth c T locs cells slots) (hx : p.tables.exec = Jvm.exec) (hZ : Z.Warmed39 s.vm) {own C : String} {index W : Nat} (hown : s.vm.findClass own = some m.cls) (eT : T.heap = h)
    (hM : OMet l y bytes maxL ret [] rm Z as' h Q) {b : Addr} (E : Exa Z h b C)
    (w1 : (Cond.methodLink own index y).before a0 Z = true) (w2 : (Cond.instanceMethod y).before a0 Z = true) (w3 : (Cond.selects y.cls y y).before a0 Z = true) (w4 : (Cond.privateMethod y).before a0 Z = true) (w5 : (Cond.code y bytes maxL ret).before a0 Z = true) (w6 : (Cond.initialized y.cls).before a0 Z = true)
    (hy : y.cls ≠ "java/lang/invoke/MethodHandle" ∧ y.cls ≠ "java/lang/invoke/VarHandle") (hf : rm.frames + 1 ≤ R.frames) (hl : W + (maxL + 11) + rm.locals ≤ R.locals)
    {g : JFrame} (hg : g.method = m) (hsize : g.locals.size = c.maxLocals) {argsL rest : List Value} (has : (.ref b :: argsL).toArray = as') (hlen : ∀ sig, parseMethodDescriptor y.desc = some sig → argsL.length = sig.parameters.length)
    (hstack : g.stack = argsL.reverse ++ .ref b :: rest) (hW : 2 * g.monitorRoom + (rest.map fun v => v.category).sum ≤ W) (hdg : decode c.code g.pc = .ok (.invokevirtual index, 3))
    (hc : cells + rm.cells ≤ R.cells) (hs : slots + rm.slots ≤ R.slots)
    (k : ∀ (v : Option Value) (T' : State) (L : List Loc), Stand p l e R s m args below meth c T' (locs ++ L) (cells + rm.cells) (slots + rm.slots) → Q v T'.heap L → OGo p e below P T' { g with pc := g.pc + 3, stack := v.toList ++ rest }) :
    OGo p e below P T g := by
  obtain ⟨cq, qa, qb⟩ := E.cell
  obtain ⟨v, _, ⟨T', L', k', n'⟩, -, X', ⟨Lc, hQ, e1, e2, e3⟩, st⟩ := X.privateBack hx (y := y) hown (mvT hZ w1) (mvT hZ w2) (mvT hZ w3) (Cond.privateMethod_at (mvP hZ w4 (args := #[]))) (mvT hZ w5) hy (backOf (W := W) hM hZ w5 w6 hf hl) hg hsize (Steps.refl _) (by rw [eT]; exact qa) qb hlen hstack hW hdg (fun _ _ => ⟨has, eT, hc, hs⟩)
  dsimp only [Pt.U, Pt.locs, Pt.cells, Pt.slots] at X' e1 e2 e3 st hQ
  subst e1 e2 e3
  exact own_via (fun _ kk => st.trans kk) (k v T' Lc X' hQ)
theorem own_superB (X : Stand p l e R s m args below meth c T locs cells slots) (hx : p.tables.exec = Jvm.exec) (hZ : Z.Warmed39 s.vm) {own K : String} {index W : Nat} (hown : s.vm.findClass own = some m.cls) (eT : T.heap = h)
    (hM : OMet l y bytes maxL ret [] rm Z as' h Q) {b : Addr} (F : Ins Z h b K true) (hn : y.name ≠ "<init>")
    (w1 : (Cond.methodLink own index y).before a0 Z = true) (w2 : (Cond.sameMethod y.cls y.cls y.name y.desc).before a0 Z = true) (w3 : (Cond.instanceMethod y).before a0 Z = true) (w4 : (Cond.superclass own y.cls).before a0 Z = true) (w5 : (Cond.code y bytes maxL ret).before a0 Z = true) (w6 : (Cond.initialized y.cls).before a0 Z = true)
    (hf : rm.frames + 1 ≤ R.frames) (hl : W + (maxL + 11) + rm.locals ≤ R.locals)
    {g : JFrame} (hg : g.method = m) (hsize : g.locals.size = c.maxLocals) {argsL rest : List Value} (has : (.ref b :: argsL).toArray = as') (hlen : ∀ sig, parseMethodDescriptor y.desc = some sig → argsL.length = sig.parameters.length)
    (hstack : g.stack = argsL.reverse ++ .ref b :: rest) (hW : 2 * g.monitorRoom + (rest.map fun v => v.category).sum ≤ W) (hdg : decode c.code g.pc = .ok (.invokespecial index, 3))
    (hc : cells + rm.cells ≤ R.cells) (hs : slots + rm.slots ≤ R.slots)
    (k : ∀ (v : Option Value) (T' : State) (L : List Loc), Stand p l e R s m args below meth c T' (locs ++ L) (cells + rm.cells) (slots + rm.slots) → Q v T'.heap L → OGo p e below P T' { g with pc := g.pc + 3, stack := v.toList ++ rest }) :
    OGo p e below P T g := by
  obtain ⟨v, _, ⟨T', L', k', n'⟩, -, X', ⟨Lc, hQ, e1, e2, e3⟩, st⟩ := superBack X hx hZ (y := y) hown w1 w2 w3 w4 hn (backOf (W := W) hM hZ w5 w6 hf hl) eT F hg hsize w5 hlen hstack hW hdg (fun _ _ => ⟨has, eT, hc, hs⟩)
  dsimp only [Pt.U, Pt.locs, Pt.cells, Pt.slots] at X' e1 e2 e3 st hQ
  subst e1 e2 e3
  exact own_via (fun _ kk => st.trans kk) (k v T' Lc X' hQ)
theorem own_pureX (X : Stand p l e R s m args below meth c T (locs ++ []) (cells + 0) (slots + 0)) : Stand p l e R s m args below meth c T locs cells slots := by simpa using X
theorem own_sta_keep {h' : Heap} {ws : List Addr} {C n d : String} {v : Value} (F : Sta Z h C n d v) (K : Keep h h' ws) (q : ∀ x ∈ ws, ∀ c : Cell, h[x]? = some c → c.vm.isStatics = false) : Sta Z h' C n d v := by
  obtain ⟨cf, i, k, f, st, cell, h1, h2, h3, h4, h5, h6, h7⟩ := F
  exact ⟨cf, i, k, f, st, cell, h1, h2, h3, h4, K.2.1 st cell h5 (fun mm => by have := q st mm cell h5; rw [h6] at this; cases this), h6, h7⟩
theorem own_ins_keep {h' : Heap} {ws : List Addr} {a : Addr} {C : String} {b : Bool} (F : Ins Z h a C b) (K : Keep h h' ws) : Ins Z h' a C b := by
  obtain ⟨cell, cT, h1, h2, h3⟩ := F
  obtain ⟨c', q1, q2, q3, -⟩ := K.2.2 a cell h1
  exact ⟨c', cT, q1, h2, by rw [q2, q3]; exact h3⟩
theorem own_nsE {a : Addr} {C : String} (E : Exa Z h a C) : ∀ c : Cell, h[a]? = some c → c.vm.isStatics = false := fun c hc => by
  obtain ⟨cell, k, h1, h2, h3, h4, h5⟩ := E
  cases h1.symm.trans hc
  exact h4
theorem own_nsA {a : Addr} {k : ClassId} {ty : FieldType} {z : Int32} {vs : List Value} {dv : Value} (F : Arv Z h a k ty z vs dv) : ∀ c : Cell, h[a]? = some c → c.vm.isStatics = false := fun c hc => by
  obtain ⟨cell, A, -⟩ := F
  cases A.1.symm.trans hc
  exact A.plain
theorem own_nar_ref {t : FieldType} {w : Value} (hw : w.isRef = true) (ht : t.isReference = true) : narrow t w = w := by cases t <;> cases w <;> first | rfl | (cases ht; done) | (cases hw; done)
theorem own_fits_ref {t : FieldType} {w : Value} (hw : w.isRef = true) (ht : t.isReference = true) : fits t w = true := by cases t <;> cases w <;> first | rfl | (cases ht; done) | (cases hw; done)
theorem own_len0 {t : Term} {x : Addr} {cl : Cell} {ty : FieldType} (ht : t.eval args s none [] s = some (.ref x)) (A : Arr s s.heap x cl ty) (hq : (Jvm.Cond.eq (.length t) (.int 0)).value args s none s [] = some true) : cl.slots.size = 0 := by
  have e1 := A.fin (U := s) (Vm.Alike.refl _)
  simp only [Cond.value, Term.eval, ht, e1] at hq
  by_cases q : cl.slots.size < 2 ^ 31
  · simp [e1, q] at hq
    have e2 := len_toInt q
    rw [hq] at e2
    have e3 : (0 : Int32).toInt = 0 := by decide
    omega
  · simp [e1, q] at hq
theorem own_arv0 {x : Addr} {cl : Cell} {ty : FieldType} {dv : Value} (A : Arr s s.heap x cl ty) (hq : cl.slots.size = 0) : Arv s s.heap x cl.cls ty (0 : Int32) [] dv :=
  ⟨cl, A, rfl, by rw [hq]; decide, by decide, fun i hi => by omega, fun i hi => by omega⟩
/-- a static's object and its int field, out of the case's words -/
theorem own_fldI {t : Term} {C n d : String} {x : Addr} {k : Int32} (ht : t.eval args s none [] s = some (.ref x)) (h : (Jvm.Cond.eq (.field t C n d) (.int k)).value args s none s [] = some true) : Fld s s.heap x C n d (.int k) := by
  refine Fld.start ?_
  have e1 := fld_at (C := C) (n := n) (dd := d) ht
  have e2 : (Term.int k).eval args s none [] s = some (.int k) := rfl
  simp only [Cond.value, e1, e2] at h
  cases hv : s.fieldOf? x C n d with
  | none => simp [hv] at h
  | some w => cases w <;> simp_all
end Own
section OwnLam
def oLamN : MethodName := ⟨"com/example/cuttlefish/cuttlefish/store/RecordCursor", "lambda$over$0", "(Ljava/util/Iterator;)Ljava/lang/Object;"⟩
def oXi : MethodName := ⟨"com/example/cuttlefish/cuttlefish/store/RecordCursor", "next", "()Ljava/lang/Object;"⟩
def oOver : MethodName := ⟨"com/example/cuttlefish/cuttlefish/store/RecordCursor", "over", "(Ljava/util/List;)Lcom/example/cuttlefish/cuttlefish/store/RecordCursor;"⟩
def oShape : Lambda.Shape := { iface := "com/example/cuttlefish/cuttlefish/store/RecordCursor", name := "next", sam := ⟨[], some (.object "java/lang/Object")⟩, captured := [.object "java/util/Iterator"], kind := 6, implClass := "com/example/cuttlefish/cuttlefish/store/RecordCursor", implName := "lambda$over$0", implDesc := ⟨[.object "java/util/Iterator"], some (.object "java/lang/Object")⟩, implItf := true, inst := ⟨[], some (.object "java/lang/Object")⟩ }
def oFwd : ByteArray := ⟨#[0x2a, 0xb4, 0x00, 0x0f, 0xb8, 0x00, 0x15, 0xb0]⟩
def oFile : ClassFile := (oShape.file "com/example/cuttlefish/cuttlefish/store/RecordCursor").getD { minorVersion := 0, majorVersion := 0, constantPool := #[], accessFlags := 0, thisClass := 0, superClass := 0, interfaces := #[], fields := #[], methods := #[], attributes := #[] }
def oFwdM : Method := ((layoutMethods oFile).bind (·[1]?)).getD default
def oLaid : Array Field × Array FieldType × Array FieldType := (layoutFields oFile 0).getD (#[], #[], #[])
theorem own_file : oShape.file "com/example/cuttlefish/cuttlefish/store/RecordCursor" = some oFile := by
  have h : (oShape.file "com/example/cuttlefish/cuttlefish/store/RecordCursor").isSome = true := by decide +kernel
  obtain ⟨x, hx⟩ := Option.isSome_iff_exists.mp h
  simp [oFile, hx]
theorem own_fwdAt : ∃ ms, layoutMethods oFile = some ms ∧ ms[1]? = some oFwdM := by
  have h : ((layoutMethods oFile).bind (·[1]?)).isSome = true := by decide +kernel
  obtain ⟨x, hx⟩ := Option.isSome_iff_exists.mp h
  have hf : oFwdM = x := by simp [oFwdM, hx]
  obtain ⟨ms, h1, h2⟩ := Option.bind_eq_some_iff.mp hx
  exact ⟨ms, h1, by rw [hf]; exact h2⟩
theorem own_laid : layoutFields oFile 0 = some oLaid := by
  have h : (layoutFields oFile 0).isSome = true := by decide +kernel
  obtain ⟨x, hx⟩ := Option.isSome_iff_exists.mp h
  simp [oLaid, hx]
theorem own_fcode : (oFwdM.code.map fun c => (c.code.data, c.maxLocals)) = some (oFwd.data, 1) := by decide +kernel
theorem own_fflags : (oFwdM.accessFlags, oFwdM.name, oFwdM.sig.returnType) = (0x0001, "next", (some (.object "java/lang/Object") : Option FieldType)) := by decide +kernel
theorem own_eM : oFile.constantPool[21]? = some (.interfaceMethodref 6 20) ∧ oFile.constantPool.className? 6 = some "com/example/cuttlefish/cuttlefish/store/RecordCursor" ∧ oFile.constantPool.nameAndType? 20 = some ("lambda$over$0", "(Ljava/util/Iterator;)Ljava/lang/Object;") := by decide +kernel
theorem own_eC : oFile.constantPool[6]? = some (.class_ 5) ∧ oFile.constantPool.string? 5 = some "com/example/cuttlefish/cuttlefish/store/RecordCursor" ∧ 6 ≠ oFile.thisClass := by decide +kernel
theorem own_eF : oFile.constantPool[15]? = some (.fieldref 2 14) ∧ oFile.constantPool.nameAndType? 14 = some ("arg$1", "Ljava/util/Iterator;") ∧ oLaid.1.findIdx? (·.name == "arg$1") = some 0 ∧ (oLaid.1[0]?).map (fun f => (f.isStatic, f.slot)) = some (false, 0) := by decide +kernel
theorem own_laidT : oLaid.2.1 = #[.object "java/util/Iterator"] := by decide +kernel
theorem own_lays : ((oShape.file "com/example/cuttlefish/cuttlefish/store/RecordCursor").bind (layoutFields · 0)).map (·.2.1) = some #[.object "java/util/Iterator"] := by decide +kernel
theorem of0 : decode oFwd 0 = .ok (.aload_n 0, 1) := by decide +kernel
theorem of1 : decode oFwd 1 = .ok (.getfield 15, 3) := by decide +kernel
theorem of4 : decode oFwd 4 = .ok (.invokestatic 21, 3) := by decide +kernel
theorem of7 : decode oFwd 7 = .ok (.areturn, 1) := by decide +kernel
theorem own_resI {e : Setting} {vm : Vm} {cf : ClassFile} {fields : Array Field} {self : ClassId} {i ci nt : Nat} {cn name desc : String} {owner : ClassId} {k : Class} {m : MethodId} (hi : cf.constantPool[i]? = some (.interfaceMethodref ci nt)) (hc : cf.constantPool.className? ci = some cn)
    (hf : vm.findClass cn = some owner) (hk : vm.classes[owner]? = some k) (hnt : cf.constantPool.nameAndType? nt = some (name, desc)) (hl : ((methodIn owner name desc k.isInterface none).ask e vm).1 = .ok m) :
    (Lambda.resolvedOf e vm cf fields self)[i]? = some (some (.method m)) := by
  simp [Lambda.resolvedOf, Array.getElem?_mapIdx, hi, hc, hf, hk, hnt, hl]
/-- what the site's word gives: the made class cK, her forwarder, what her pool holds -/
def OLam (Z : State) (cK : ClassId) : Prop :=
  ∃ (kK : Class) (file : ClassFile) (methk : Method) (ck : Code) (tB : MethodId) (fA : Field),
    Z.vm.classes[cK]? = some kK ∧ kK.name = "com/example/cuttlefish/cuttlefish/store/RecordCursor$$Lambda" ∧ kK.cf = some file ∧ file.constantPool = oFile.constantPool ∧
    Z.vm.method? ⟨cK, 1⟩ = some methk ∧ methk.code = some ck ∧ ck.code = oFwd ∧ ck.maxLocals = 1 ∧ methk.locks = false ∧ methk.sig.returnType = some (.object "java/lang/Object") ∧
    Z.methodNamed? oLamN = some tB ∧ kK.resolved[21]? = some (some (.method tB)) ∧ kK.resolved[6]? = some (some (.cls tB.cls)) ∧ kK.resolved[15]? = some (some (.field cK 0)) ∧ kK.fields[0]? = some fA ∧ fA.isStatic = false ∧ fA.slot = 0 ∧
    kK.instanceTypes = #[.object "java/util/Iterator"] ∧ kK.kind = .ordinary ∧ Jvm.Free.HMW.FnX oXi cK ⟨cK, 1⟩ Z
abbrev own_lam (cK : ClassId) (it : Addr) : Cell := { cls := cK, slots := #[.ref it], vm := .none }
def OSite (Z : State) (cK : ClassId) : Prop :=
  ∃ (mS : MethodId) (kS : Class) (cfS : ClassFile) (i0 p0 bsm nt : Nat) (desc : String) (site : MethodDescriptor), Z.methodNamed? oOver = some mS ∧ Z.vm.classes[mS.cls]? = some kS ∧ kS.cf = some cfS ∧
      (kS.callSites.find? fun y => y.1 == mS.idx && y.2.1 == 8) = some (i0, p0, .makes cK) ∧ cfS.constantPool[7]? = some (.invokeDynamic bsm nt) ∧ cfS.constantPool.nameAndType? nt = some ("next", desc) ∧ parseMethodDescriptor desc = some site ∧ site.parameters = [.object "java/util/Iterator"]
theorem own_lamOf {Z : State} {a0 : Array Value} {bytes : ByteArray} {maxL : Nat} {ret : Option FieldType} (w : (Cond.lambdaSite oOver 8 7 oShape).before a0 Z = true) (wO : (Cond.instantiable "java/lang/Object" 0).before a0 Z = true)
    (wI : (Cond.interfaceMethod oXi.cls oXi.cls oXi.name oXi.desc).before a0 Z = true) (wc : (Cond.code oLamN bytes maxL ret).before a0 Z = true) :
    ∃ cK : ClassId, OLam Z cK ∧ OSite Z cK := by
  obtain ⟨cK, one, hat⟩ := Cond.lambdaSite_spec w
  obtain ⟨m', kS, cfS, i0, p0, lk, hm', hkS, hcfS, hshape, -, hfind, hmade, hcan, hlk⟩ := State.lambdaAt?_spec hat
  obtain ⟨rfl, rfl, -⟩ : lk = .makes cK ∧ one = none ∧ oShape.captured ≠ [] := by
    rcases hlk with ⟨a, cell, -, -, h, -⟩ | h
    · exact absurd h (by decide)
    · exact h
  obtain ⟨kS', hkS', hnameS⟩ := className_of_methodNamed hm'
  cases hkS.symm.trans hkS'
  obtain ⟨bsm, nt, desc, site, hc, hnt, hsite, hpar⟩ := Lambda.shapeOf?_site hshape
  obtain ⟨kK0, hkK0, htyK, hkindK, -⟩ := Lambda.made_types hmade hkS wO (by rw [hnameS]; exact own_lays)
  obtain ⟨ms, hms, hms1⟩ := own_fwdAt
  have ff := own_fflags
  simp only [Prod.mk.injEq] at ff
  have hFn := (Jvm.Free.Fn.of_lambdaAt hat (xi := oXi) rfl rfl (by decide +kernel) wI own_file hms hms1 ff.1).1
  obtain ⟨dk', k, ok, tk, file, cf, object, iface, toy, lay, methods, target, found, hd', hk, hfile, hcf, hobj, -, hok, hlay, hms', ht, htk, hg, -, hrec, -, -, -, hitf, hpool, hmeth, hfields, hty, hres, -⟩ := Lambda.isMade_spec hmade
  cases hkK0.symm.trans hk
  cases hkS.symm.trans hd'
  rw [hnameS] at hcf
  cases own_file.symm.trans hcf
  cases hms.symm.trans hms'
  obtain ⟨cO, kO, hfO, hkO, -, -, -, hsz⟩ := Cond.instantiable_spec wO
  cases hfO.symm.trans hobj
  cases hkO.symm.trans hok
  rw [hsz, own_laid] at hlay
  cases hlay
  obtain ⟨b, hb, hsame⟩ := hmeth 1 oFwdM hms1
  have fc := own_fcode
  obtain ⟨g0, hg0, hp0⟩ := Option.map_eq_some_iff.mp own_eF.2.2.2
  simp only [Prod.mk.injEq] at hp0
  simp only [Lambda.sameMethod, Bool.and_eq_true, decide_eq_true_eq] at hsame
  obtain ⟨⟨hn, -, hsig, hfl⟩, hcode⟩ := hsame
  cases hfc : oFwdM.code with
  | none => rw [hfc] at fc; cases fc
  | some x =>
    cases hbc : b.code with
    | none => simp [hfc, hbc] at hcode
    | some y =>
      simp only [hfc, hbc, Bool.and_eq_true, decide_eq_true_eq] at hcode
      simp only [hfc, Option.map_some, Option.some.injEq, Prod.mk.injEq] at fc
      cases hnB : Z.methodNamed? oLamN with
      | none => simp [Cond.before, Cond.holds, Cond.value, hnB] at wc
      | some mB =>
        have hfT : Z.vm.findClass "com/example/cuttlefish/cuttlefish/store/RecordCursor" = some mB.cls := findClass_of_methodNamed hnB
        have ht' : Z.vm.findClass "com/example/cuttlefish/cuttlefish/store/RecordCursor" = some toy := ht
        cases ht'.symm.trans hfT
        have hlook : ((methodIn mB.cls "lambda$over$0" "(Ljava/util/Iterator;)Ljava/lang/Object;" tk.isInterface none).ask { classPath := fun _ => none } Z.vm).1 = .ok target := by
          have e1 : oShape.implDesc.toString = "(Ljava/util/Iterator;)Ljava/lang/Object;" := by decide +kernel
          rw [e1] at hg
          exact hg
        have htB : target = mB := by
          have h1 : Z.methodFound? "com/example/cuttlefish/cuttlefish/store/RecordCursor" "lambda$over$0" "(Ljava/util/Iterator;)Ljava/lang/Object;" = some mB := State.methodFound?_of_named hnB (by decide)
          simp only [State.methodFound?, hfT, htk, Option.bind_eq_bind, Option.bind_some] at h1
          rw [hlook] at h1
          exact Option.some.inj h1
        subst htB
        refine ⟨cK, ⟨kK0, file, b, y, target, g0, hkK0, by rw [hrec.1, hnameS]; rfl, hfile, hpool.2.1, by simp [Vm.method?, hkK0, hb], hbc, ?_, by rw [← hcode.1.1.1.1.2.1]; exact fc.2, ?_, by rw [← hsig]; exact ff.2.2, hnB,
          hres 21 _ (own_resI own_eM.1 own_eM.2.1 hfT htk own_eM.2.2 hlook), hres 6 _ (Lambda.resolvedOf_class own_eC.1 own_eC.2.2 own_eC.2.1 hfT), hres 15 _ (Lambda.resolvedOf_field own_eF.1 own_eF.2.1 own_eF.2.2.1), hfields 0 _ hg0, hp0.1, hp0.2, htyK, hkindK, hFn⟩, m', kS, cfS, i0, p0, bsm, nt, desc, site, hm', hkS, hcfS, hfind, hc, hnt, hsite, by rw [hpar]; rfl⟩
        · rw [← hcode.1.1.1.1.2.2]
          exact ByteArray.ext fc.1
        · simp [Method.locks, Method.isSynchronized, ← hfl, ff.1, hasFlag, Acc.synchronized]
theorem own_fnMove {xi : MethodName} {cF : ClassId} {mk : MethodId} {U U' : State} (hal : U.vm.Alike U'.vm) (h : Jvm.Free.HMW.FnX xi cF mk U) : Jvm.Free.HMW.FnX xi cF mk U' := by
  obtain ⟨kF, methK, h1, h2, h3, h4, h5⟩ := h
  obtain ⟨kF', h1', -⟩ := hal.2.2 _ _ h1
  refine ⟨kF', methK, h1', by rw [hal.method?]; exact h2, h3, h4, fun r0 r hn hr => ?_⟩
  have hn' : U.methodNamed? xi = some r0 := by
    rw [← State.methodNamed?_setVm hal]
    exact hn
  obtain ⟨a1, a2, a3⟩ := h5 r0 r hn' (by rw [← hal.method?]; exact hr)
  exact ⟨by rw [hal.assignable]; exact a1, by rw [hal.selectMethod]; exact a2, by rw [hal.superclasses]; simpa only [hal.declaredIn] using a3⟩
variable {p : Program} {l : Launch} {e : Env} {R : Room} {s : State} {m : MethodId} {args : Array Value} {below : List Frame} {meth : Method} {c : Code} {T : State} {locs : List Loc} {cells slots : Nat} {Z : State} {a0 : Array Value} {h : Heap} {P : State → Outcome → Prop} {Q : Option Value → Heap → List Loc → Prop}
theorem own_res39 {vm' : Vm} (hZ : Z.Warmed39 vm') {d : ClassId} {k : Class} (hk : Z.vm.classes[d]? = some k) : ∃ k', vm'.classes[d]? = some k' ∧ k' = { k with resolved := k'.resolved, nestHost := k'.nestHost, nestHostError := k'.nestHostError } ∧ ∀ (i : Nat) (r : Resolved), k.resolved[i]? = some (some r) → k'.resolved[i]? = some (some r) := by
  obtain ⟨k', h1, h2, -, h3, -⟩ := hZ.2.2.2 d k hk
  refine ⟨k', h1, h2, fun i r hr => ?_⟩
  rcases h3 i with q | ⟨q, -⟩
  · rw [q]; exact hr
  · rw [q] at hr; cases hr
theorem own_bodyN {y : MethodName} {bytes : ByteArray} {maxL : Nat} {ret : Option FieldType} {ws : List Jvm.Cond} {rm : Room} {as' : Array Value} (hpl : plainFor y = true)
    (body : ∀ (p : Program) (e : Env) (s : State) (m : MethodId) (below : List Frame) (meth : Method) (c : Code) (T : State), Stand p l e rm s m as' below meth c T [] 0 0 → p.tables.exec = Jvm.exec → Z.Warmed39 s.vm → c.code = bytes → c.maxLocals = maxL →
      s.vm.findClass y.cls = some m.cls → meth.name = y.name → meth.sig.returnType = ret → meth.locks = false → T.heap = h → s.methodNamed? y = some m → OGo p e below (OEnd s Q rm.cells rm.slots) T (entryFrame m as' maxL)) :
    OMet l y bytes maxL ret ws rm Z as' h Q := by
  refine MetFree.of_bodySF hpl hisR ?_
  intro p e s m args below meth c s₁ Bd hml0 hP hK
  obtain ⟨rfl, hZ, hh⟩ := hP
  exact body p e s m below meth c s₁ (Stand.of_body Bd) Bd.exec hZ Bd.bytes hml0 (findClass_of_methodNamed Bd.named) (name_of_methodNamed Bd.named Bd.method).1 Bd.returns Bd.notSynchronized (by rw [← hh, Bd.state]; rfl) Bd.named
/-- the site: the captured iterator goes into a new object of the made class -/
theorem own_mkLam (X : Stand p l e R s m args below meth c T locs cells slots) (hx : p.tables.exec = Jvm.exec) (hZ : Z.Warmed39 s.vm) {cK : ClassId} (hL : OLam Z cK) (hS : OSite Z cK) (hnamed : s.methodNamed? oOver = some m) (eT : T.heap = h) {it : Addr}
    {g : JFrame} (hg : g.method = m) (hpc : g.pc = 8) (hsize : g.locals.size = c.maxLocals) (hs : g.stack = [.ref it]) (hm0 : g.monitorRoom = 0) (hd : decode c.code g.pc = .ok (.invokedynamic 7, 5)) (hwd : 3073 ≤ R.locals) (hc : cells + 1 ≤ R.cells) (hsl : slots + 1 ≤ R.slots) :
    ∃ T' h', Stand p l e R s m args below meth c T' locs (cells + 1) (slots + 1) ∧ T'.heap = h' ∧ Ext h h' ∧ h'[h.size]? = some (own_lam cK it) ∧
      ∀ target, Steps p.tables e below (T'.setTop { g with pc := g.pc + 5, stack := [.ref h.size] }) target → Steps p.tables e below (T.setTop g) target := by
  obtain ⟨kK, file, methk, ck, tB, fA, hkK, -, -, -, -, -, -, -, -, -, -, -, -, -, -, -, -, hty, hkind, -⟩ := hL
  obtain ⟨mS, kS, cfS, i0, p0, bsm, nt, desc, site, hmS, hkS, hcfS, hfind, hc7, hnt, hsite, hpar⟩ := hS
  have hmS' : s.methodNamed? oOver = some mS := by show (Z.setVm s.vm).methodNamed? oOver = some mS; rw [State.methodNamed?_setVm hZ.alike]; exact hmS
  cases hnamed.symm.trans hmS'
  obtain ⟨kS', hkS', eS, -⟩ := own_res39 hZ hkS
  obtain ⟨kK', hkK', eK, -⟩ := own_res39 hZ hkK
  have hty' : kK'.instanceTypes = #[.object "java/util/Iterator"] := by rw [eK]; exact hty
  have hkind' : kK'.kind = .ordinary := by rw [eK]; exact hkind
  have hz : ((kK'.instanceTypes.toList.zip [Value.ref it]).map fun (t, v) => narrow t v) = [.ref it] := by rw [hty']; rfl
  obtain ⟨X₁, st1⟩ := X.lambdaMakes hx hg hsize hd (vals := [.ref it]) (rest := []) hkS' (by rw [hpc, eS]; exact hfind) (by rw [eS]; exact hcfS) hc7 hnt (parseLong_of_parse hsite) (by rw [hpar]; rfl) (by rw [hs]; rfl) hkK'
    (by rw [X.admits.platform, hs, hm0]; exact hwd) hc (by rw [hz]; exact hsl)
    (fun i v hv => by
      rw [hz] at hv
      cases i with
      | zero => simp at hv; subst hv; simp [State.fitsSlot, State.slotType?, hkK', hkind', hty', fits]
      | succ j => simp at hv)
  rw [hz] at X₁ st1
  subst eT
  refine ⟨_, _, X₁, rfl, ⟨?_, fun a ca ha => ?_⟩, State.heap_pushCell_size _ _, st1⟩
  · show T.heap.size ≤ (T.heap.push _).size
    rw [Array.size_push]
    exact Nat.le_succ _
  · rw [State.heap_pushCell_of_lt _ _ (Array.getElem?_eq_some_iff.mp ha).1]
    exact ha
/-- cur.next() on the made object: her forwarder hands the captured iterator on -/
theorem own_fwd (X : Stand p l e R s m args below meth c T locs cells slots) (hx : p.tables.exec = Jvm.exec) (hZ : Z.Warmed39 s.vm) {own : String} {index count W : Nat} (hown : s.vm.findClass own = some m.cls) (eT : T.heap = h)
    {cK : ClassId} (hL : OLam Z cK) {b it : Addr} (hb : h[b]? = some { cls := cK, slots := #[.ref it], vm := .none }) {bytes : ByteArray} {rm : Room}
    (hM : OMet l oLamN bytes 1 (some (.object "java/lang/Object")) [] rm Z #[.ref it] h Q) (hQr : ∀ v h L, Q v h L → ∃ w, v = some w ∧ w.isRef = true)
    (w1 : (Cond.methodLink own index oXi).before a0 Z = true) (w2 : (Cond.declares oXi).before a0 Z = true) (w3 : (Cond.interfaceMethod oXi.cls oXi.cls oXi.name oXi.desc).before a0 Z = true)
    (w4 : (Cond.code oLamN bytes 1 (some (.object "java/lang/Object"))).before a0 Z = true) (w5 : (Cond.initialized oLamN.cls).before a0 Z = true) (w6 : (Cond.static oLamN).before a0 Z = true)
    (hf : rm.frames + 2 ≤ R.frames) (hl : W + 24 + rm.locals ≤ R.locals)
    {g : JFrame} (hg : g.method = m) (hsize : g.locals.size = c.maxLocals) {rest : List Value} (hstack : g.stack = .ref b :: rest) (hW : 2 * g.monitorRoom + (rest.map fun v => v.category).sum ≤ W) (hdg : decode c.code g.pc = .ok (.invokeinterface index count, 5))
    (hc : cells + rm.cells ≤ R.cells) (hs : slots + rm.slots ≤ R.slots)
    (k : ∀ (v : Option Value) (T' : State) (L : List Loc), Stand p l e R s m args below meth c T' (locs ++ L) (cells + rm.cells) (slots + rm.slots) → Q v T'.heap L → OGo p e below P T' { g with pc := g.pc + 5, stack := v.toList ++ rest }) :
    OGo p e below P T g := by
  obtain ⟨kK, file, methk, ck, tB, fA, hkK, hkn, hfile, hpool, hmk, hck, hbytes, hml, hlk, hretk, hnB, hr21, hr6, hr15, hf0, hfAs, hfA0, -, -, hFnZ⟩ := hL
  have hK : Jvm.Free.BackW l R p e below s args (fun _ mk => mk = ⟨cK, 1⟩) 5 W (fun A a => a = #[.ref b] ∧ A.U.heap = h ∧ A.cells + rm.cells ≤ R.cells ∧ A.slots + rm.slots ≤ R.slots)
      (fun A _ v B => ∃ L, Q v B.U.heap L ∧ B.locs = A.locs ++ L ∧ B.cells = A.cells + rm.cells ∧ B.slots = A.slots + rm.slots) := by
    intro m2 meth2 c2 A gj ig mk a Y hg2 hsize2 hdg2 hW2 hwho hpre
    obtain ⟨U, L, cc, nn⟩ := A
    dsimp only [Pt.U, Pt.locs, Pt.cells, Pt.slots] at Y hpre hwho ⊢
    obtain ⟨rfl, hU, hc2, hs2⟩ := hpre
    subst hwho
    have hZU : Z.Warmed39 U.vm := wtrans hZ Y.warmed
    obtain ⟨kU, hkU, eU, hrU⟩ := own_res39 hZU hkK
    have hmkU : U.vm.method? ⟨cK, 1⟩ = some methk := by rw [hZU.alike.method?]; exact hmk
    have hnBU : U.methodNamed? oLamN = some tB := by show (Z.setVm U.vm).methodNamed? oLamN = some tB; rw [State.methodNamed?_setVm hZU.alike]; exact hnB
    have hpk : U.plainMethod ⟨cK, 1⟩ := State.plainMethod.of_name (fun k' hk' => by cases hkU.symm.trans hk'; rw [eU]; rw [hkn]; decide)
    obtain ⟨Y₀, hin⟩ := Y.into hg2 hsize2 hdg2 #[.ref b] (R' := { frames := rm.frames + 1, locals := 12 + rm.locals, cells := rm.cells, slots := rm.slots }) hmkU hck hlk hpk (by show rm.frames + 1 + 1 ≤ _; omega) (by rw [hml]; show _ + (1 + 11) + (12 + rm.locals) ≤ _; omega) hc2 hs2
    rw [hml] at Y₀ hin
    have hent : entryFrame ⟨cK, 1⟩ #[Value.ref b] 1 = { method := ⟨cK, 1⟩, pc := 0, locals := #[.val (.ref b)], stack := [], locked := none } := rfl
    rw [hent] at Y₀ hin
    generalize hU0 : (U.setTop gj).pushFrame (.java { method := ⟨cK, 1⟩, pc := 0, locals := #[.val (.ref b)], stack := [], locked := none }) = U₀ at Y₀ hin
    have hvm : U₀.vm = U.vm := by rw [← hU0]; rfl
    have hheap : U₀.heap = U.heap := by rw [← hU0]; rfl
    have hnB0 : U₀.methodNamed? oLamN = some tB := by
      have q : (U.setVm U₀.vm).methodNamed? oLamN = some tB := by rw [hvm]; exact hnBU
      exact q
    obtain ⟨methB, cB, hmB, -, -, -, -, -, -, hsigB⟩ := Cond.code_spec (args := #[]) hnBU (mv hZU w4)
    have hstaticB : methB.isStatic = true := Cond.static_spec (args := #[]) hnBU hmB (mv hZU w6)
    obtain ⟨tk, htk, hnameT⟩ := className_of_methodNamed hnBU
    have hinitK : tk.init = .initialized := Cond.initialized_spec (args := #[]) (findClass_of_methodNamed hnBU) htk (mv hZU w5)
    have hsigBI : methB.sig = ⟨[.object "java/util/Iterator"], some (.object "java/lang/Object")⟩ := (Option.some.inj ((by decide +kernel : parseMethodDescriptor "(Ljava/util/Iterator;)Ljava/lang/Object;" = some ⟨[.object "java/util/Iterator"], some (.object "java/lang/Object")⟩).symm.trans hsigB)).symm
    have hsp : ∀ y : Method, signaturePolymorphic tk y = false := fun y => by
      have : tk.name = "com/example/cuttlefish/cuttlefish/store/RecordCursor" := hnameT
      simp [signaturePolymorphic, this]
    have hfileU : kU.cf = some file := by rw [eU]; exact hfile
    obtain ⟨bb, hmem⟩ := memberRef_ask' (e := e) (vm := U.vm) (d := cK) (index := 21) hkU hfileU (Or.inr (by rw [hpool]; exact own_eM.1)) (by rw [hpool]; exact own_eM.2.2)
    have hZs : Z.Warmed39 (U.calling gj ⟨cK, 1⟩ #[.ref b]).vm := hZU
    obtain ⟨r, ⟨U₁, L₁, c₁, n₁⟩, Y₁, ⟨Lc, hQ1, q1, q2, q3⟩, stepsB⟩ := backOf (W := 0) (l := l) (p := p) (e := e) (R := { frames := rm.frames + 1, locals := 12 + rm.locals, cells := rm.cells, slots := rm.slots }) (len := 3) hM hZs w4 w5 (Nat.le_refl _) (by show 0 + (1 + 11) + rm.locals ≤ 12 + rm.locals; omega)
      ⟨cK, 1⟩ methk ck ⟨U₀, [], 0, 0⟩ { method := ⟨cK, 1⟩, pc := 4, locals := #[.val (.ref b)], stack := [], locked := none } (.invokestatic 21) tB #[.ref it] Y₀ rfl (by rw [hml]; rfl) (by rw [hbytes]; exact of4) (by show 2 * 0 + 0 ≤ 0; decide) hnB0
      ⟨rfl, by show U₀.heap = h; rw [hheap]; exact hU, by show 0 + rm.cells ≤ rm.cells; omega, by show 0 + rm.slots ≤ rm.slots; omega⟩
    dsimp only [Pt.U, Pt.locs, Pt.cells, Pt.slots] at Y₁ hQ1 q1 q2 q3 stepsB
    subst q1 q2 q3
    obtain ⟨w, rfl, hwr⟩ := hQr _ _ _ hQ1
    obtain ⟨fs, hleave, -, hended, hWe, hsame⟩ := Y₁.leave (v := some w) (fun h => by rw [hretk] at h; cases h) hlk
    obtain ⟨T', X', hW', -, ht⟩ := Y.outOf hg2 hdg2 hended hWe hsame
    have hhT' : T'.heap = U₁.heap := by
      have := congrArg State.heap ht
      exact this.symm
    refine ⟨some w, ⟨T', _, _, _⟩, X', ⟨_, (by show Q _ T'.heap _; rw [hhT']; exact hQ1), (by first | rfl | simp), (by first | rfl | simp), (by first | rfl | simp)⟩, ?_⟩
    show Steps p.tables e below (doInvoke e (U.setTop gj) [] ⟨cK, 1⟩ #[.ref b]).1 (T'.setTop { gj with pc := gj.pc + 5, stack := (some w : Option Value).toList ++ gj.stack })
    rw [hin [], ← ht]
    refine Steps.weaken (mid := [.java gj]) ?_
    have hs : U₀.topJava?.isSome := Y₀.here.top
    have hcf : U.heap[b]? = some { cls := cK, slots := #[.ref it], vm := .none } := by rw [hU]; exact hb
    have hfR : U.vm.fieldReady cK 15 cK fA := ⟨kU, 0, kU, hkU, hrU 15 _ hr15, hkU, by rw [eU]; exact hf0⟩
    jvm_step Y₀.here [hx, hbytes, of0, Value.isRef]
    jvm_step Y₀.here [hx, hbytes, of1, getfield.wp_ready (e := e) (s := U₀) (c := cK) (field := fA) (a := b) (rest := []) (cell := { cls := cK, slots := #[.ref it], vm := .none }) (v := .ref it)
      (f := { method := ⟨cK, 1⟩, pc := 1, locals := #[.val (.ref b)], stack := [.ref b], locked := none }) hs (by rw [hvm]; exact hfR) hfAs rfl (by rw [hheap]; exact hcf) (by intro h; cases h) (by rw [hfA0]; rfl)]
    jvm_step Y₀.here [hx, hbytes, of4, invokestatic.wp_ready (e := e) (s := U₀) (m := tB) (k := tk) (meth := methB) (args := [.ref it]) (rest := [])
      (f := { method := ⟨cK, 1⟩, pc := 4, locals := #[.val (.ref b)], stack := [.ref it], locked := none }) hs ⟨6, _, _, bb, tB.cls, tk, by rw [hvm]; exact hmem, by rw [hvm]; exact ⟨kU, hkU, hrU 6 _ hr6⟩, by rw [hvm]; exact htk, by simp [hsp]⟩ (by rw [hvm]; exact ⟨kU, hkU, hrU 21 _ hr21⟩) (by rw [hvm]; exact htk) (by rw [hvm]; exact hmB) (hsp _) hstaticB hinitK (by rw [hsigBI]; rfl) rfl]
    intro acts'
    rw [doInvoke_state]
    refine stepsB.trans ?_
    show Steps p.tables e (.java gj :: below) (U₁.setTop { method := ⟨cK, 1⟩, pc := 7, locals := #[.val (.ref b)], stack := [w], locked := none }) _
    jvm_step Y₁.here [Y₁.here.top, hx, hbytes, of7, Y₁.method', hretk, hwr, FieldType.isReference]
    first | (intro acts''; rw [hleave _ acts'' rfl rfl rfl]) | rw [hleave _ _ rfl rfl rfl]
    exact Steps.refl _
  have hFn : Jvm.Free.HMW.FnX oXi cK ⟨cK, 1⟩ s := own_fnMove hZ.alike hFnZ
  obtain ⟨v, vm₁, ⟨T', L', k', n'⟩, -, X', ⟨Lc, hQ, e1, e2, e3⟩, st⟩ := X.fnAt hx (xi := oXi) (own := own) (index := index) (count := count) hown (fun w hw => by
      simp only [Jvm.Free.Fn.fnW, List.mem_cons, List.not_mem_nil, or_false] at hw
      rcases hw with rfl | rfl | rfl
      · exact mvT hZ w1
      · exact mvT hZ w2
      · exact mvT hZ w3) (by decide) hFn hK (fun _ _ => rfl) (b := b) ⟨_, by rw [eT]; exact hb, rfl, rfl⟩ hg hsize (Steps.refl _) (argsL := []) (rest := rest) (fun sig hsig => by
      have q : parseMethodDescriptor "()Ljava/lang/Object;" = some sig := hsig
      rw [(by decide +kernel : parseMethodDescriptor "()Ljava/lang/Object;" = some ⟨[], some (.object "java/lang/Object")⟩)] at q
      cases q; rfl) hstack hW hdg (fun _ _ => ⟨rfl, eT, hc, hs⟩)
  dsimp only [Pt.U, Pt.locs, Pt.cells, Pt.slots] at X' e1 e2 e3 st hQ
  subst e1 e2 e3
  exact own_via (fun _ kk => st.trans kk) (k v T' Lc X' hQ)
end OwnLam
theorem d14_0 : decode jdk_18_method_1_code 0 = .ok (.aload_n 0, 1) := by decide +kernel
theorem d14_1 : decode jdk_18_method_1_code 1 = .ok (.invokespecial 1, 3) := by decide +kernel
theorem d14_4 : decode jdk_18_method_1_code 4 = .ok (.return_, 1) := by decide +kernel
theorem pn_14 : plainName "java/lang/Number" = true := by first | (simp [plainName, overriddenIn]; done) | decide +kernel
set_option maxRecDepth 65536 in
set_option maxHeartbeats 40000000 in
theorem rmNum (l : Launch) (Z : State) (a0 : Array Value) (hw : ∀ d ∈ tables_1, d.before a0 Z = true) (ws : List Jvm.Cond) (a1 : Addr) (h0 : Heap) (n0 : Nat) (Z0 : n0 ≤ h0.size)  :
    OMet l (⟨"java/lang/Number", "<init>", "()V"⟩ : MethodName) jdk_18_method_1_code 1 none ws ({ frames := 1, cells := 0, slots := 0, locals := 12 } : Room) Z #[(.ref a1)] h0 (fun v h L => v = none ∧ L = [] ∧ h = h0) := by
  refine own_body (plainFor_of_name pn_14) ?_
  intro p e s m below meth cdx T0 X0 hx hZ hby hml hown hnm hret hlk e0
  have N0 := Fr.nil n0
  refine own_entry (g' := (mkF m 0 #[.val (.ref a1)] [])) (by first | rfl | (simp [entryFrame, mkF, argsToLocals, Value.category, maxLocals]; done)) ?_
  refine own_step (g' := (mkF m 1 #[.val (.ref a1)] [(.ref a1)])) (fun _ k => XS.aloadN X0.here hx rfl (hb hby d14_0) rfl rfl k) ?_
  obtain ⟨T1, X1, e1, st1⟩ := initO X0 hx hZ hown (hw _ (List.mem_of_getElem? (i := 105) rfl)) (hw _ (List.mem_of_getElem? (i := 26) rfl)) (hw _ (List.mem_of_getElem? (i := 27) rfl)) e0 (g := (mkF m 1 #[.val (.ref a1)] [(.ref a1)])) rfl (by rw [hml]; rfl) rfl (hb hby d14_1) (by decide) (W := 0) (by show 2 * 0 + _ ≤ _; exact Nat.le_of_eq rfl) (by decide)
  refine own_via (g' := (mkF m 4 #[.val (.ref a1)] [])) st1 ?_
  exact own_retV X1 hx hret hlk (hb hby d14_4) e1 (by exact ⟨rfl, rfl, rfl⟩) (by decide) (by decide)
theorem d13_0 : decode jdk_33_method_23_code 0 = .ok (.aload_n 0, 1) := by decide +kernel
theorem d13_1 : decode jdk_33_method_23_code 1 = .ok (.invokespecial 202, 3) := by decide +kernel
theorem d13_4 : decode jdk_33_method_23_code 4 = .ok (.aload_n 0, 1) := by decide +kernel
theorem d13_5 : decode jdk_33_method_23_code 5 = .ok (.iload_n 1, 1) := by decide +kernel
theorem d13_6 : decode jdk_33_method_23_code 6 = .ok (.putfield 205, 3) := by decide +kernel
theorem d13_9 : decode jdk_33_method_23_code 9 = .ok (.return_, 1) := by decide +kernel
theorem pd_0 : parseMethodDescriptor "()V" = some ⟨[], none⟩ := by decide +kernel
theorem pn_13 : plainName "java/lang/Integer" = true := by first | (simp [plainName, overriddenIn]; done) | decide +kernel
set_option maxRecDepth 65536 in
set_option maxHeartbeats 40000000 in
theorem rmInt (l : Launch) (Z : State) (a0 : Array Value) (hw : ∀ d ∈ tables_1, d.before a0 Z = true) (ws : List Jvm.Cond) (a1 : Addr) (q1 : Int32) (h0 : Heap) (n0 : Nat) (Z0 : n0 ≤ h0.size) (g_a1 : n0 ≤ a1) (E1 : Exa Z h0 a1 "java/lang/Integer") (Fv : Fld Z h0 a1 "java/lang/Integer" "value" "I" (.int (0 : Int32))) :
    OMet l (⟨"java/lang/Integer", "<init>", "(I)V"⟩ : MethodName) jdk_33_method_23_code 2 none ws ({ frames := 2, cells := 0, slots := 0, locals := 24 } : Room) Z #[(.ref a1), (.int q1)] h0 (fun v h L => v = none ∧ Fr n0 L ∧ Keep h0 h [a1] ∧ Exa Z h a1 "java/lang/Integer") := by
  refine own_body (plainFor_of_name pn_13) ?_
  intro p e s m below meth cdx T0 X0 hx hZ hby hml hown hnm hret hlk e0
  have N0 := Fr.nil n0
  refine own_entry (g' := (mkF m 0 #[.val (.ref a1), .val (.int q1)] [])) (by first | rfl | (simp [entryFrame, mkF, argsToLocals, Value.category, maxLocals]; done)) ?_
  have KC0 := Keep.refl h0 [a1]
  refine own_step (g' := (mkF m 1 #[.val (.ref a1), .val (.int q1)] [(.ref a1)])) (fun _ k => XS.aloadN X0.here hx rfl (hb hby d13_0) rfl rfl k) ?_
  refine own_init X0 hx hZ (W := 0) hown e0 (rmNum l Z a0 hw [] a1 h0 n0 Z0) rfl (hw _ (List.mem_of_getElem? (i := 99) rfl)) (hw _ (List.mem_of_getElem? (i := 100) rfl)) (hw _ (List.mem_of_getElem? (i := 104) rfl)) (hw _ (List.mem_of_getElem? (i := 103) rfl)) (by decide) (by decide) (by decide) (g := (mkF m 1 #[.val (.ref a1), .val (.int q1)] [(.ref a1)])) rfl (by rw [hml]; rfl) (argsL := []) (rest := []) rfl (lenOf pd_0 rfl) rfl (by show 2 * 0 + _ ≤ _; exact Nat.le_of_eq rfl) (hb hby d13_1) (by decide) (by decide) ?_
  intro v1 T1 L1 X1 hQ1
  obtain ⟨rfl, rfl, e1⟩ := hQ1
  replace X1 := own_pureX X1
  show OGo p e below _ T1 (mkF m 4 #[.val (.ref a1), .val (.int q1)] [])
  refine own_step (g' := (mkF m 5 #[.val (.ref a1), .val (.int q1)] [(.ref a1)])) (fun _ k => XS.aloadN X1.here hx rfl (hb hby d13_4) rfl rfl k) ?_
  refine own_step (g' := (mkF m 6 #[.val (.ref a1), .val (.int q1)] [(.int q1), (.ref a1)])) (fun _ k => XS.iloadN X1.here hx rfl (hb hby d13_5) rfl k) ?_
  obtain ⟨T2, h2, X2, e2, W2, st2⟩ := putF X1 hx hZ hown (host := "") (Or.inl (hw _ (List.mem_of_getElem? (i := 106) rfl))) Via.refl e1 Fv E1 (Or.inr ⟨(hw _ (List.mem_of_getElem? (i := 107) rfl)), rfl, hnm⟩) (hw _ (List.mem_of_getElem? (i := 94) rfl)) (ty := .int) (by decide) rfl rfl (g := (mkF m 6 #[.val (.ref a1), .val (.int q1)] [(.int q1), (.ref a1)])) rfl rfl (hb hby d13_6)
  have Fw2 := Fld.same W2 Fv
  have N2 := Fr.snoc X2 N0 g_a1
  have K2 : Keep h0 h2 [a1] := KC0.wr W2 (Or.inl (List.mem_of_getElem? (i := 0) rfl))
  refine own_via (g' := (mkF m 9 #[.val (.ref a1), .val (.int q1)] [])) st2 ?_
  have C_3 : Exa Z h2 a1 "java/lang/Integer" := (Exa.wr W2 E1)
  exact own_retV X2 hx hret hlk (hb hby d13_9) e2 (by exact ⟨rfl, N2, K2, C_3⟩) (by decide) (by decide)
theorem own_cacheIn {q : Int32} {cl : Cell} (h1 : ¬ (q < (-128 : Int32))) (h2 : ¬ ((127 : Int32) < q)) (hs : cl.slots.size = (256 : Int32).toNatClampNeg) : ¬ ((q + (128 : Int32)) < 0 ∨ cl.slots.size ≤ (q + (128 : Int32)).toNatClampNeg) := by
  rw [Int32.lt_iff_toInt_lt] at h1 h2
  have e1 : (-128 : Int32).toInt = -128 := by decide
  have e2 : (127 : Int32).toInt = 127 := by decide
  have e3 : (128 : Int32).toInt = 128 := by decide
  have e4 : (0 : Int32).toInt = 0 := by decide
  have e5 : (256 : Int32).toNatClampNeg = 256 := by decide
  have q1 := c_iadd q 128
  have q2 := rng32 (q + 128)
  rw [hs, e5, Int32.lt_iff_toInt_lt]
  simp only [Int32.toNatClampNeg]
  omega
theorem d1_0 : decode jdk_33_method_22_code 0 = .ok (.iload_n 0, 1) := by decide +kernel
theorem d1_1 : decode jdk_33_method_22_code 1 = .ok (.bipush (-128), 2) := by decide +kernel
theorem d1_3 : decode jdk_33_method_22_code 3 = .ok (.if_icmp .lt 20, 3) := by decide +kernel
theorem d1_6 : decode jdk_33_method_22_code 6 = .ok (.iload_n 0, 1) := by decide +kernel
theorem d1_7 : decode jdk_33_method_22_code 7 = .ok (.getstatic 191, 3) := by decide +kernel
theorem d1_10 : decode jdk_33_method_22_code 10 = .ok (.if_icmp .gt 13, 3) := by decide +kernel
theorem d1_13 : decode jdk_33_method_22_code 13 = .ok (.getstatic 195, 3) := by decide +kernel
theorem d1_16 : decode jdk_33_method_22_code 16 = .ok (.iload_n 0, 1) := by decide +kernel
theorem d1_17 : decode jdk_33_method_22_code 17 = .ok (.sipush 128, 3) := by decide +kernel
theorem d1_20 : decode jdk_33_method_22_code 20 = .ok (.iadd, 1) := by decide +kernel
theorem d1_21 : decode jdk_33_method_22_code 21 = .ok (.aaload, 1) := by decide +kernel
theorem d1_22 : decode jdk_33_method_22_code 22 = .ok (.areturn, 1) := by decide +kernel
theorem d1_23 : decode jdk_33_method_22_code 23 = .ok (.new 1, 3) := by decide +kernel
theorem d1_26 : decode jdk_33_method_22_code 26 = .ok (.dup, 1) := by decide +kernel
theorem d1_27 : decode jdk_33_method_22_code 27 = .ok (.iload_n 0, 1) := by decide +kernel
theorem d1_28 : decode jdk_33_method_22_code 28 = .ok (.invokespecial 199, 3) := by decide +kernel
theorem d1_31 : decode jdk_33_method_22_code 31 = .ok (.areturn, 1) := by decide +kernel
theorem pd_1 : parseMethodDescriptor "(I)V" = some ⟨[.int], none⟩ := by decide +kernel
set_option maxRecDepth 65536 in
set_option maxHeartbeats 40000000 in
theorem rmVO (l : Launch) (Z : State) (a0 : Array Value) (hw : ∀ d ∈ tables_1, d.before a0 Z = true) (ws : List Jvm.Cond) (q1 : Int32) (ca : Addr) (cc : Cell) (vf : Int32 → Value) (h0 : Heap) (n0 : Nat) (Z0 : n0 ≤ h0.size) (S_hi : Sta Z h0 "java/lang/Integer$IntegerCache" "high" "I" (.int (127 : Int32))) (S_ca : Sta Z h0 "java/lang/Integer$IntegerCache" "cache" "[Ljava/lang/Integer;" (.ref ca)) (Bx : Bxs Z ca cc "java/lang/Integer" "I" (256 : Int32) vf) (O0 : Old Z n0 h0) :
    OMet l (⟨"java/lang/Integer", "valueOf", "(I)Ljava/lang/Integer;"⟩ : MethodName) jdk_33_method_22_code 1 (some (.object "java/lang/Integer")) ws ({ frames := 3, cells := 1, slots := 1, locals := 38 } : Room) Z #[(.int q1)] h0 (fun v h L => (∃ r, v = some (.ref r) ∧ Exa Z h r "java/lang/Integer") ∧ Fr n0 L ∧ Keep h0 h []) := by
  refine own_body (plainFor_of_name pn_13) ?_
  intro p e s m below meth cdx T0 X0 hx hZ hby hml hown hnm hret hlk e0
  have N0 := Fr.nil n0
  refine own_entry (g' := (mkF m 0 #[.val (.int q1)] [])) (by first | rfl | (simp [entryFrame, mkF, argsToLocals, Value.category, maxLocals]; done)) ?_
  have KC0 := Keep.refl h0 []
  refine own_step (g' := (mkF m 1 #[.val (.int q1)] [(.int q1)])) (fun _ k => XS.iloadN X0.here hx rfl (hb hby d1_0) rfl k) ?_
  refine own_step (g' := (mkF m 3 #[.val (.int q1)] [(.int (-128 : Int32)), (.int q1)])) (fun _ k => XS.bipush X0.here hx rfl (hb hby d1_1) k) ?_
  by_cases hc1 : q1 < (-128 : Int32)
  · refine own_step (g' := (mkF m 23 #[.val (.int q1)] [])) (fun _ k => XS.icmpYes X0.here hx rfl (pc0 := 3) (pc' := 23) rfl (hb hby d1_3) rfl (tlt hc1).1 (by decide) (by decide) k) ?_
    obtain ⟨T2, h2, X2, e2, Ex2, A2, D2, -, st2⟩ := newO X0 hx hZ hown (hw _ (List.mem_of_getElem? (i := 93) rfl)) (hw _ (List.mem_of_getElem? (i := 94) rfl)) (hw _ (List.mem_of_getElem? (i := 2) rfl)) e0 (g := (mkF m 23 #[.val (.int q1)] [])) rfl (hb hby d1_23) (by decide) (by decide)
    obtain ⟨nb2, g2⟩ : ∃ z, z = h0.size := ⟨_, rfl⟩
    rw [← g2] at A2 D2 st2
    have g_nb2 : n0 ≤ nb2 := Nat.le_trans Z0 (Nat.le_of_eq g2.symm)
    have sz_nb2 : h0.size ≤ nb2 := Nat.le_trans KC0.1 (Nat.le_of_eq g2.symm)
    have K2 : Keep h0 h2 [] := KC0.ext Ex2
    have F2_value : Fld Z h2 nb2 "java/lang/Integer" "value" "I" (.int (0 : Int32)) := D2 (Or.inr (hw _ (List.mem_of_getElem? (i := 107) rfl))) (ty := .int) (by decide)
    refine own_via (g' := (mkF m 26 #[.val (.int q1)] [(.ref nb2)])) st2 ?_
    refine own_step (g' := (mkF m 27 #[.val (.int q1)] [(.ref nb2), (.ref nb2)])) (fun _ k => XS.dup X2.here hx rfl (hb hby d1_26) rfl rfl k) ?_
    refine own_step (g' := (mkF m 28 #[.val (.int q1)] [(.int q1), (.ref nb2), (.ref nb2)])) (fun _ k => XS.iloadN X2.here hx rfl (hb hby d1_27) rfl k) ?_
    refine own_init X2 hx hZ (W := 1) hown e2 (rmInt l Z a0 hw [] nb2 q1 h2 n0 (Nat.le_trans Z0 Ex2.1) g_nb2 A2 F2_value) rfl (hw _ (List.mem_of_getElem? (i := 95) rfl)) (hw _ (List.mem_of_getElem? (i := 96) rfl)) (hw _ (List.mem_of_getElem? (i := 98) rfl)) (hw _ (List.mem_of_getElem? (i := 2) rfl)) (by decide) (by decide) (by decide) (g := (mkF m 28 #[.val (.int q1)] [(.int q1), (.ref nb2), (.ref nb2)])) rfl (by rw [hml]; rfl) (argsL := [(.int q1)]) (rest := [(.ref nb2)]) rfl (lenOf pd_1 rfl) rfl (by show 2 * 0 + _ ≤ _; exact Nat.le_of_eq rfl) (hb hby d1_28) (by decide) (by decide) ?_
    intro v3 T3 L3 X3 hQ3
    obtain ⟨rfl, Nq3, Kq3, Cv⟩ := hQ3
    have N3 := Fr.app N0 Nq3
    have K3 : Keep h0 T3.heap [] := K2.trans Kq3 (allS (Or.inr sz_nb2) all0)
    show OGo p e below _ T3 (mkF m 31 #[.val (.int q1)] [(.ref nb2)])
    exact own_retA X3 hx hret rfl rfl hlk (hb hby d1_31) rfl (by exact ⟨⟨_, rfl, Cv⟩, N3, K3⟩) (by decide) (by decide)
  · refine own_step (g' := (mkF m 6 #[.val (.int q1)] [])) (fun _ k => XS.icmpNo X0.here hx rfl (hb hby d1_3) rfl (flt hc1).1 k) ?_
    refine own_step (g' := (mkF m 7 #[.val (.int q1)] [(.int q1)])) (fun _ k => XS.iloadN X0.here hx rfl (hb hby d1_6) rfl k) ?_
    obtain ⟨T4, X4, e4, st4⟩ := getS2 X0 hx hZ hown (host := "") (Or.inl (hw _ (List.mem_of_getElem? (i := 4) rfl))) Via.refl e0 S_hi (g := (mkF m 7 #[.val (.int q1)] [(.int q1)])) rfl (hb hby d1_7)
    refine own_via (g' := (mkF m 10 #[.val (.int q1)] [(.int (127 : Int32)), (.int q1)])) st4 ?_
    by_cases hc5 : (127 : Int32) < q1
    · refine own_step (g' := (mkF m 23 #[.val (.int q1)] [])) (fun _ k => XS.icmpYes X4.here hx rfl (pc0 := 10) (pc' := 23) rfl (hb hby d1_10) rfl (tlt hc5).2.2.1 (by decide) (by decide) k) ?_
      obtain ⟨T6, h6, X6, e6, Ex6, A6, D6, -, st6⟩ := newO X4 hx hZ hown (hw _ (List.mem_of_getElem? (i := 93) rfl)) (hw _ (List.mem_of_getElem? (i := 94) rfl)) (hw _ (List.mem_of_getElem? (i := 2) rfl)) e4 (g := (mkF m 23 #[.val (.int q1)] [])) rfl (hb hby d1_23) (by decide) (by decide)
      obtain ⟨nb6, g6⟩ : ∃ z, z = h0.size := ⟨_, rfl⟩
      rw [← g6] at A6 D6 st6
      have g_nb6 : n0 ≤ nb6 := Nat.le_trans Z0 (Nat.le_of_eq g6.symm)
      have sz_nb6 : h0.size ≤ nb6 := Nat.le_trans KC0.1 (Nat.le_of_eq g6.symm)
      have K6 : Keep h0 h6 [] := KC0.ext Ex6
      have F6_value : Fld Z h6 nb6 "java/lang/Integer" "value" "I" (.int (0 : Int32)) := D6 (Or.inr (hw _ (List.mem_of_getElem? (i := 107) rfl))) (ty := .int) (by decide)
      refine own_via (g' := (mkF m 26 #[.val (.int q1)] [(.ref nb6)])) st6 ?_
      refine own_step (g' := (mkF m 27 #[.val (.int q1)] [(.ref nb6), (.ref nb6)])) (fun _ k => XS.dup X6.here hx rfl (hb hby d1_26) rfl rfl k) ?_
      refine own_step (g' := (mkF m 28 #[.val (.int q1)] [(.int q1), (.ref nb6), (.ref nb6)])) (fun _ k => XS.iloadN X6.here hx rfl (hb hby d1_27) rfl k) ?_
      refine own_init X6 hx hZ (W := 1) hown e6 (rmInt l Z a0 hw [] nb6 q1 h6 n0 (Nat.le_trans Z0 Ex6.1) g_nb6 A6 F6_value) rfl (hw _ (List.mem_of_getElem? (i := 95) rfl)) (hw _ (List.mem_of_getElem? (i := 96) rfl)) (hw _ (List.mem_of_getElem? (i := 98) rfl)) (hw _ (List.mem_of_getElem? (i := 2) rfl)) (by decide) (by decide) (by decide) (g := (mkF m 28 #[.val (.int q1)] [(.int q1), (.ref nb6), (.ref nb6)])) rfl (by rw [hml]; rfl) (argsL := [(.int q1)]) (rest := [(.ref nb6)]) rfl (lenOf pd_1 rfl) rfl (by show 2 * 0 + _ ≤ _; exact Nat.le_of_eq rfl) (hb hby d1_28) (by decide) (by decide) ?_
      intro v7 T7 L7 X7 hQ7
      obtain ⟨rfl, Nq7, Kq7, Cv⟩ := hQ7
      have N7 := Fr.app N0 Nq7
      have K7 : Keep h0 T7.heap [] := K6.trans Kq7 (allS (Or.inr sz_nb6) all0)
      show OGo p e below _ T7 (mkF m 31 #[.val (.int q1)] [(.ref nb6)])
      exact own_retA X7 hx hret rfl rfl hlk (hb hby d1_31) rfl (by exact ⟨⟨_, rfl, Cv⟩, N7, K7⟩) (by decide) (by decide)
    · refine own_step (g' := (mkF m 13 #[.val (.int q1)] [])) (fun _ k => XS.icmpNo X4.here hx rfl (hb hby d1_10) rfl (flt hc5).2.2.1 k) ?_
      obtain ⟨T8, X8, e8, st8⟩ := getS2 X4 hx hZ hown (host := "") (Or.inl (hw _ (List.mem_of_getElem? (i := 6) rfl))) Via.refl e4 S_ca (g := (mkF m 13 #[.val (.int q1)] [])) rfl (hb hby d1_13)
      refine own_via (g' := (mkF m 16 #[.val (.int q1)] [(.ref ca)])) st8 ?_
      refine own_step (g' := (mkF m 17 #[.val (.int q1)] [(.int q1), (.ref ca)])) (fun _ k => XS.iloadN X8.here hx rfl (hb hby d1_16) rfl k) ?_
      refine own_step (g' := (mkF m 20 #[.val (.int q1)] [(.int (128 : Int32)), (.int q1), (.ref ca)])) (fun _ k => XS.sipush X8.here hx rfl (hb hby d1_17) k) ?_
      refine own_step (g' := (mkF m 21 #[.val (.int q1)] [(.int (q1 + (128 : Int32))), (.ref ca)])) (fun _ k => XS.iadd X8.here hx rfl (hb hby d1_20) rfl k) ?_
      have hin := own_cacheIn hc1 hc5 Bx.2.1
      obtain ⟨bx, hbx, Cbx, -⟩ := Bx.2.2.2 _ hin
      obtain ⟨Acc, -, -⟩ := Bx.ext O0.2
      refine own_step (g' := (mkF m 22 #[.val (.int q1)] [(.ref bx)])) (X8.aaload hx (j := (q1 + (128 : Int32))) (v := (.ref bx)) (by rw [e8]; exact Acc.1) (State.isArrayOf_alike hZ.alike Acc.2.1) rfl Acc.2.2 hin hbx (g := (mkF m 21 #[.val (.int q1)] [(.int (q1 + (128 : Int32))), (.ref ca)])) rfl rfl (hb hby d1_21)) ?_
      have Cb := Exa.ext O0.2 Cbx
      exact own_retA X8 hx hret rfl rfl hlk (hb hby d1_22) e8 (by exact ⟨⟨_, rfl, Cb⟩, N0, KC0⟩) (by decide) (by decide)
theorem d4_0 : decode jdk_22_method_1_code 0 = .ok (.aload_n 0, 1) := by decide +kernel
theorem d4_1 : decode jdk_22_method_1_code 1 = .ok (.invokespecial 1, 3) := by decide +kernel
theorem d4_4 : decode jdk_22_method_1_code 4 = .ok (.return_, 1) := by decide +kernel
theorem pn_4 : plainName "java/util/AbstractCollection" = true := by first | (simp [plainName, overriddenIn]; done) | decide +kernel
set_option maxRecDepth 65536 in
set_option maxHeartbeats 40000000 in
theorem rmABC (l : Launch) (Z : State) (a0 : Array Value) (hw : ∀ d ∈ tables_1, d.before a0 Z = true) (ws : List Jvm.Cond) (a1 : Addr) (h0 : Heap) (n0 : Nat) (Z0 : n0 ≤ h0.size)  :
    OMet l (⟨"java/util/AbstractCollection", "<init>", "()V"⟩ : MethodName) jdk_22_method_1_code 1 none ws ({ frames := 1, cells := 0, slots := 0, locals := 12 } : Room) Z #[(.ref a1)] h0 (fun v h L => v = none ∧ L = [] ∧ h = h0) := by
  refine own_body (plainFor_of_name pn_4) ?_
  intro p e s m below meth cdx T0 X0 hx hZ hby hml hown hnm hret hlk e0
  have N0 := Fr.nil n0
  refine own_entry (g' := (mkF m 0 #[.val (.ref a1)] [])) (by first | rfl | (simp [entryFrame, mkF, argsToLocals, Value.category, maxLocals]; done)) ?_
  refine own_step (g' := (mkF m 1 #[.val (.ref a1)] [(.ref a1)])) (fun _ k => XS.aloadN X0.here hx rfl (hb hby d4_0) rfl rfl k) ?_
  obtain ⟨T1, X1, e1, st1⟩ := initO X0 hx hZ hown (hw _ (List.mem_of_getElem? (i := 25) rfl)) (hw _ (List.mem_of_getElem? (i := 26) rfl)) (hw _ (List.mem_of_getElem? (i := 27) rfl)) e0 (g := (mkF m 1 #[.val (.ref a1)] [(.ref a1)])) rfl (by rw [hml]; rfl) rfl (hb hby d4_1) (by decide) (W := 0) (by show 2 * 0 + _ ≤ _; exact Nat.le_of_eq rfl) (by decide)
  refine own_via (g' := (mkF m 4 #[.val (.ref a1)] [])) st1 ?_
  exact own_retV X1 hx hret hlk (hb hby d4_4) e1 (by exact ⟨rfl, rfl, rfl⟩) (by decide) (by decide)
theorem d3_0 : decode jdk_39_method_1_code 0 = .ok (.aload_n 0, 1) := by decide +kernel
theorem d3_1 : decode jdk_39_method_1_code 1 = .ok (.invokespecial 1, 3) := by decide +kernel
theorem d3_4 : decode jdk_39_method_1_code 4 = .ok (.aload_n 0, 1) := by decide +kernel
theorem d3_5 : decode jdk_39_method_1_code 5 = .ok (.iconst 0, 1) := by decide +kernel
theorem d3_6 : decode jdk_39_method_1_code 6 = .ok (.putfield 7, 3) := by decide +kernel
theorem d3_9 : decode jdk_39_method_1_code 9 = .ok (.return_, 1) := by decide +kernel
theorem pn_3 : plainName "java/util/AbstractList" = true := by first | (simp [plainName, overriddenIn]; done) | decide +kernel
set_option maxRecDepth 65536 in
set_option maxHeartbeats 40000000 in
theorem rmABL (l : Launch) (Z : State) (a0 : Array Value) (hw : ∀ d ∈ tables_1, d.before a0 Z = true) (ws : List Jvm.Cond) (a1 : Addr) (h0 : Heap) (n0 : Nat) (Z0 : n0 ≤ h0.size) (g_a1 : n0 ≤ a1) (E1 : Exa Z h0 a1 "java/util/ArrayList") (Fm : Fld Z h0 a1 "java/util/AbstractList" "modCount" "I" (.int (0 : Int32))) (Fe : Fld Z h0 a1 "java/util/ArrayList" "elementData" "[Ljava/lang/Object;" .null) (Fs : Fld Z h0 a1 "java/util/ArrayList" "size" "I" (.int (0 : Int32))) :
    OMet l (⟨"java/util/AbstractList", "<init>", "()V"⟩ : MethodName) jdk_39_method_1_code 1 none ws ({ frames := 2, cells := 0, slots := 0, locals := 24 } : Room) Z #[(.ref a1)] h0 (fun v h L => v = none ∧ Fr n0 L ∧ Keep h0 h [a1] ∧ Exa Z h a1 "java/util/ArrayList" ∧ Fld Z h a1 "java/util/AbstractList" "modCount" "I" (.int (0 : Int32)) ∧ Fld Z h a1 "java/util/ArrayList" "elementData" "[Ljava/lang/Object;" .null ∧ Fld Z h a1 "java/util/ArrayList" "size" "I" (.int (0 : Int32))) := by
  refine own_body (plainFor_of_name pn_3) ?_
  intro p e s m below meth cdx T0 X0 hx hZ hby hml hown hnm hret hlk e0
  have N0 := Fr.nil n0
  refine own_entry (g' := (mkF m 0 #[.val (.ref a1)] [])) (by first | rfl | (simp [entryFrame, mkF, argsToLocals, Value.category, maxLocals]; done)) ?_
  have KC0 := Keep.refl h0 [a1]
  refine own_step (g' := (mkF m 1 #[.val (.ref a1)] [(.ref a1)])) (fun _ k => XS.aloadN X0.here hx rfl (hb hby d3_0) rfl rfl k) ?_
  refine own_init X0 hx hZ (W := 0) hown e0 (rmABC l Z a0 hw [] a1 h0 n0 Z0) rfl (hw _ (List.mem_of_getElem? (i := 19) rfl)) (hw _ (List.mem_of_getElem? (i := 20) rfl)) (hw _ (List.mem_of_getElem? (i := 24) rfl)) (hw _ (List.mem_of_getElem? (i := 23) rfl)) (by decide) (by decide) (by decide) (g := (mkF m 1 #[.val (.ref a1)] [(.ref a1)])) rfl (by rw [hml]; rfl) (argsL := []) (rest := []) rfl (lenOf pd_0 rfl) rfl (by show 2 * 0 + _ ≤ _; exact Nat.le_of_eq rfl) (hb hby d3_1) (by decide) (by decide) ?_
  intro v1 T1 L1 X1 hQ1
  obtain ⟨rfl, rfl, e1⟩ := hQ1
  replace X1 := own_pureX X1
  show OGo p e below _ T1 (mkF m 4 #[.val (.ref a1)] [])
  refine own_step (g' := (mkF m 5 #[.val (.ref a1)] [(.ref a1)])) (fun _ k => XS.aloadN X1.here hx rfl (hb hby d3_4) rfl rfl k) ?_
  refine own_step (g' := (mkF m 6 #[.val (.ref a1)] [(.int (0 : Int32)), (.ref a1)])) (fun _ k => XS.iconst X1.here hx rfl (hb hby d3_5) k) ?_
  obtain ⟨T2, h2, X2, e2, W2, st2⟩ := putF X1 hx hZ hown (host := "") (Or.inl (hw _ (List.mem_of_getElem? (i := 28) rfl))) Via.refl e1 Fm E1 (Or.inl (hw _ (List.mem_of_getElem? (i := 29) rfl))) (hw _ (List.mem_of_getElem? (i := 8) rfl)) (ty := .int) (by decide) rfl rfl (g := (mkF m 6 #[.val (.ref a1)] [(.int (0 : Int32)), (.ref a1)])) rfl rfl (hb hby d3_6)
  have Fw2 := Fld.same W2 Fm
  have N2 := Fr.snoc X2 N0 g_a1
  have K2 : Keep h0 h2 [a1] := KC0.wr W2 (Or.inl (List.mem_of_getElem? (i := 0) rfl))
  refine own_via (g' := (mkF m 9 #[.val (.ref a1)] [])) st2 ?_
  have C_3 : Exa Z h2 a1 "java/util/ArrayList" := (Exa.wr W2 E1)
  have F_4 : Fld Z h2 a1 "java/util/ArrayList" "elementData" "[Ljava/lang/Object;" .null := (Fld.other W2 Fe (Or.inr (slot_ne (Or.inl (hw _ (List.mem_of_getElem? (i := 32) rfl))) (Or.inl (hw _ (List.mem_of_getElem? (i := 29) rfl))) (by decide) (t := (.array (.object "java/lang/Object"))) (t' := .int) (by decide) (by decide))))
  have F_5 : Fld Z h2 a1 "java/util/ArrayList" "size" "I" (.int (0 : Int32)) := (Fld.other W2 Fs (Or.inr (slot_ne (Or.inl (hw _ (List.mem_of_getElem? (i := 82) rfl))) (Or.inl (hw _ (List.mem_of_getElem? (i := 29) rfl))) (by decide) (t := .int) (t' := .int) (by decide) (by decide))))
  exact own_retV X2 hx hret hlk (hb hby d3_9) e2 (by exact ⟨rfl, N2, K2, C_3, Fw2, F_4, F_5⟩) (by decide) (by decide)
theorem d2_0 : decode jdk_38_method_2_code 0 = .ok (.aload_n 0, 1) := by decide +kernel
theorem d2_1 : decode jdk_38_method_2_code 1 = .ok (.invokespecial 1, 3) := by decide +kernel
theorem d2_4 : decode jdk_38_method_2_code 4 = .ok (.aload_n 0, 1) := by decide +kernel
theorem d2_5 : decode jdk_38_method_2_code 5 = .ok (.getstatic 39, 3) := by decide +kernel
theorem d2_8 : decode jdk_38_method_2_code 8 = .ok (.putfield 9, 3) := by decide +kernel
theorem d2_11 : decode jdk_38_method_2_code 11 = .ok (.return_, 1) := by decide +kernel
theorem pn_2 : plainName "java/util/ArrayList" = true := by first | (simp [plainName, overriddenIn]; done) | decide +kernel
set_option maxRecDepth 65536 in
set_option maxHeartbeats 40000000 in
theorem rmAL (l : Launch) (Z : State) (a0 : Array Value) (hw : ∀ d ∈ tables_1, d.before a0 Z = true) (ws : List Jvm.Cond) (a1 ed : Addr) (h0 : Heap) (n0 : Nat) (Z0 : n0 ≤ h0.size) (S_DC : Sta Z h0 "java/util/ArrayList" "DEFAULTCAPACITY_EMPTY_ELEMENTDATA" "[Ljava/lang/Object;" (.ref ed)) (g_a1 : n0 ≤ a1) (E1 : Exa Z h0 a1 "java/util/ArrayList") (Fm : Fld Z h0 a1 "java/util/AbstractList" "modCount" "I" (.int (0 : Int32))) (Fe : Fld Z h0 a1 "java/util/ArrayList" "elementData" "[Ljava/lang/Object;" .null) (Fs : Fld Z h0 a1 "java/util/ArrayList" "size" "I" (.int (0 : Int32))) :
    OMet l (⟨"java/util/ArrayList", "<init>", "()V"⟩ : MethodName) jdk_38_method_2_code 1 none ws ({ frames := 3, cells := 0, slots := 0, locals := 36 } : Room) Z #[(.ref a1)] h0 (fun v h L => v = none ∧ Fr n0 L ∧ Keep h0 h [a1] ∧ Exa Z h a1 "java/util/ArrayList" ∧ Fld Z h a1 "java/util/AbstractList" "modCount" "I" (.int (0 : Int32)) ∧ Fld Z h a1 "java/util/ArrayList" "elementData" "[Ljava/lang/Object;" (.ref ed) ∧ Fld Z h a1 "java/util/ArrayList" "size" "I" (.int (0 : Int32))) := by
  refine own_body (plainFor_of_name pn_2) ?_
  intro p e s m below meth cdx T0 X0 hx hZ hby hml hown hnm hret hlk e0
  have N0 := Fr.nil n0
  refine own_entry (g' := (mkF m 0 #[.val (.ref a1)] [])) (by first | rfl | (simp [entryFrame, mkF, argsToLocals, Value.category, maxLocals]; done)) ?_
  have KC0 := Keep.refl h0 [a1]
  refine own_step (g' := (mkF m 1 #[.val (.ref a1)] [(.ref a1)])) (fun _ k => XS.aloadN X0.here hx rfl (hb hby d2_0) rfl rfl k) ?_
  refine own_init X0 hx hZ (W := 0) hown e0 (rmABL l Z a0 hw [] a1 h0 n0 Z0 g_a1 E1 Fm Fe Fs) rfl (hw _ (List.mem_of_getElem? (i := 13) rfl)) (hw _ (List.mem_of_getElem? (i := 14) rfl)) (hw _ (List.mem_of_getElem? (i := 18) rfl)) (hw _ (List.mem_of_getElem? (i := 17) rfl)) (by decide) (by decide) (by decide) (g := (mkF m 1 #[.val (.ref a1)] [(.ref a1)])) rfl (by rw [hml]; rfl) (argsL := []) (rest := []) rfl (lenOf pd_0 rfl) rfl (by show 2 * 0 + _ ≤ _; exact Nat.le_of_eq rfl) (hb hby d2_1) (by decide) (by decide) ?_
  intro v1 T1 L1 X1 hQ1
  obtain ⟨rfl, Nq1, Kq1, Ck, Fk1, Fk2, Fk3⟩ := hQ1
  have N1 := Fr.app N0 Nq1
  have K1 : Keep h0 T1.heap [a1] := KC0.trans Kq1 (allS (Or.inl (List.mem_of_getElem? (i := 0) rfl)) all0)
  show OGo p e below _ T1 (mkF m 4 #[.val (.ref a1)] [])
  refine own_step (g' := (mkF m 5 #[.val (.ref a1)] [(.ref a1)])) (fun _ k => XS.aloadN X1.here hx rfl (hb hby d2_4) rfl rfl k) ?_
  have S_2 : Sta Z T1.heap "java/util/ArrayList" "DEFAULTCAPACITY_EMPTY_ELEMENTDATA" "[Ljava/lang/Object;" (.ref ed) := (own_sta_keep S_DC Kq1 (allS (own_nsE E1) all0))
  obtain ⟨T3, X3, e3, st3⟩ := getS2 X1 hx hZ hown (host := "") (Or.inl (hw _ (List.mem_of_getElem? (i := 30) rfl))) Via.refl rfl S_2 (g := (mkF m 5 #[.val (.ref a1)] [(.ref a1)])) rfl (hb hby d2_5)
  refine own_via (g' := (mkF m 8 #[.val (.ref a1)] [(.ref ed), (.ref a1)])) st3 ?_
  obtain ⟨T4, h4, X4, e4, W4, st4⟩ := putF X3 hx hZ hown (host := "") (Or.inl (hw _ (List.mem_of_getElem? (i := 31) rfl))) Via.refl e3 Fk2 Ck (Or.inl (hw _ (List.mem_of_getElem? (i := 32) rfl))) (hw _ (List.mem_of_getElem? (i := 8) rfl)) (ty := (.array (.object "java/lang/Object"))) (by decide) rfl rfl (g := (mkF m 8 #[.val (.ref a1)] [(.ref ed), (.ref a1)])) rfl rfl (hb hby d2_8)
  have Fw4 := Fld.same W4 Fk2
  have N4 := Fr.snoc X4 N1 g_a1
  have K4 : Keep h0 h4 [a1] := K1.wr W4 (Or.inl (List.mem_of_getElem? (i := 0) rfl))
  refine own_via (g' := (mkF m 11 #[.val (.ref a1)] [])) st4 ?_
  have C_5 : Exa Z h4 a1 "java/util/ArrayList" := (Exa.wr W4 Ck)
  have F_6 : Fld Z h4 a1 "java/util/AbstractList" "modCount" "I" (.int (0 : Int32)) := (Fld.other W4 Fk1 (Or.inr (slot_ne (Or.inl (hw _ (List.mem_of_getElem? (i := 29) rfl))) (Or.inl (hw _ (List.mem_of_getElem? (i := 32) rfl))) (by decide) (t := .int) (t' := (.array (.object "java/lang/Object"))) (by decide) (by decide))))
  have F_7 : Fld Z h4 a1 "java/util/ArrayList" "size" "I" (.int (0 : Int32)) := (Fld.other W4 Fk3 (Or.inr (slot_ne (Or.inl (hw _ (List.mem_of_getElem? (i := 82) rfl))) (Or.inl (hw _ (List.mem_of_getElem? (i := 32) rfl))) (by decide) (t := .int) (t' := (.array (.object "java/lang/Object"))) (by decide) (by decide))))
  exact own_retV X4 hx hret hlk (hb hby d2_11) e4 (by exact ⟨rfl, N4, K4, C_5, F_6, Fw4, F_7⟩) (by decide) (by decide)
theorem d19_0 : decode jdk_29_method_65_code 0 = .ok (.iload_n 0, 1) := by decide +kernel
theorem d19_1 : decode jdk_29_method_65_code 1 = .ok (.iload_n 1, 1) := by decide +kernel
theorem d19_2 : decode jdk_29_method_65_code 2 = .ok (.if_icmp .lt 7, 3) := by decide +kernel
theorem d19_5 : decode jdk_29_method_65_code 5 = .ok (.iload_n 0, 1) := by decide +kernel
theorem d19_6 : decode jdk_29_method_65_code 6 = .ok (.goto 4, 3) := by decide +kernel
theorem d19_10 : decode jdk_29_method_65_code 10 = .ok (.ireturn, 1) := by decide +kernel
set_option maxRecDepth 65536 in
set_option maxHeartbeats 40000000 in
theorem rmMax (l : Launch) (Z : State) (a0 : Array Value) (hw : ∀ d ∈ tables_1, d.before a0 Z = true) (ws : List Jvm.Cond)  (h0 : Heap) (n0 : Nat) (Z0 : n0 ≤ h0.size)  :
    OMet l (⟨"java/lang/Math", "max", "(II)I"⟩ : MethodName) jdk_29_method_65_code 2 (some .int) ws ({ frames := 0, cells := 0, slots := 0, locals := 0 } : Room) Z #[(.int (10 : Int32)), (.int (1 : Int32))] h0 (fun v h L => v = some (.int (10 : Int32)) ∧ L = [] ∧ h = h0) := by
  refine own_body (Jvm.Free.JP.mathPlain rfl (by decide +kernel)) ?_
  intro p e s m below meth cdx T0 X0 hx hZ hby hml hown hnm hret hlk e0
  have N0 := Fr.nil n0
  refine own_entry (g' := (mkF m 0 #[.val (.int (10 : Int32)), .val (.int (1 : Int32))] [])) (by first | rfl | (simp [entryFrame, mkF, argsToLocals, Value.category, maxLocals]; done)) ?_
  refine own_step (g' := (mkF m 1 #[.val (.int (10 : Int32)), .val (.int (1 : Int32))] [(.int (10 : Int32))])) (fun _ k => XS.iloadN X0.here hx rfl (hb hby d19_0) rfl k) ?_
  refine own_step (g' := (mkF m 2 #[.val (.int (10 : Int32)), .val (.int (1 : Int32))] [(.int (1 : Int32)), (.int (10 : Int32))])) (fun _ k => XS.iloadN X0.here hx rfl (hb hby d19_1) rfl k) ?_
  refine own_step (g' := (mkF m 5 #[.val (.int (10 : Int32)), .val (.int (1 : Int32))] [])) (fun _ k => XS.icmpNo X0.here hx rfl (hb hby d19_2) rfl (flt (by decide : ¬ ((10 : Int32) < (1 : Int32)))).1 k) ?_
  refine own_step (g' := (mkF m 6 #[.val (.int (10 : Int32)), .val (.int (1 : Int32))] [(.int (10 : Int32))])) (fun _ k => XS.iloadN X0.here hx rfl (hb hby d19_5) rfl k) ?_
  refine own_step (g' := (mkF m 10 #[.val (.int (10 : Int32)), .val (.int (1 : Int32))] [(.int (10 : Int32))])) (fun _ k => XS.goto X0.here hx rfl (pc0 := 6) (pc' := 10) rfl (hb hby d19_6) (by decide) (by decide) k) ?_
  exact own_retI X0 hx hret hlk (hb hby d19_10) e0 (by exact ⟨rfl, rfl, rfl⟩) (by decide) (by decide)
theorem d18_0 : decode jdk_38_method_6_code 0 = .ok (.aload_n 0, 1) := by decide +kernel
theorem d18_1 : decode jdk_38_method_6_code 1 = .ok (.getfield 9, 3) := by decide +kernel
theorem d18_4 : decode jdk_38_method_6_code 4 = .ok (.arraylength, 1) := by decide +kernel
theorem d18_5 : decode jdk_38_method_6_code 5 = .ok (.istore_n 2, 1) := by decide +kernel
theorem d18_6 : decode jdk_38_method_6_code 6 = .ok (.iload_n 2, 1) := by decide +kernel
theorem d18_7 : decode jdk_38_method_6_code 7 = .ok (.ifCond .gt 13, 3) := by decide +kernel
theorem d18_10 : decode jdk_38_method_6_code 10 = .ok (.aload_n 0, 1) := by decide +kernel
theorem d18_11 : decode jdk_38_method_6_code 11 = .ok (.getfield 9, 3) := by decide +kernel
theorem d18_14 : decode jdk_38_method_6_code 14 = .ok (.getstatic 39, 3) := by decide +kernel
theorem d18_17 : decode jdk_38_method_6_code 17 = .ok (.if_acmp .eq 28, 3) := by decide +kernel
theorem d18_45 : decode jdk_38_method_6_code 45 = .ok (.aload_n 0, 1) := by decide +kernel
theorem d18_46 : decode jdk_38_method_6_code 46 = .ok (.bipush 10, 2) := by decide +kernel
theorem d18_48 : decode jdk_38_method_6_code 48 = .ok (.iload_n 1, 1) := by decide +kernel
theorem d18_49 : decode jdk_38_method_6_code 49 = .ok (.invokestatic 79, 3) := by decide +kernel
theorem d18_52 : decode jdk_38_method_6_code 52 = .ok (.anewarray 7, 3) := by decide +kernel
theorem d18_55 : decode jdk_38_method_6_code 55 = .ok (.dup_x1, 1) := by decide +kernel
theorem d18_56 : decode jdk_38_method_6_code 56 = .ok (.putfield 9, 3) := by decide +kernel
theorem d18_59 : decode jdk_38_method_6_code 59 = .ok (.areturn, 1) := by decide +kernel
theorem pd_2 : parseMethodDescriptor "(II)I" = some ⟨[.int, .int], some .int⟩ := by decide +kernel
set_option maxRecDepth 65536 in
set_option maxHeartbeats 40000000 in
theorem rmGrowI (l : Launch) (Z : State) (a0 : Array Value) (hw : ∀ d ∈ tables_1, d.before a0 Z = true) (ws : List Jvm.Cond) (a1 ed : Addr) (kd : ClassId) (mc : Int32) (h0 : Heap) (n0 : Nat) (Z0 : n0 ≤ h0.size) (S_DC : Sta Z h0 "java/util/ArrayList" "DEFAULTCAPACITY_EMPTY_ELEMENTDATA" "[Ljava/lang/Object;" (.ref ed)) (Vd : Arv Z h0 ed kd (.object "java/lang/Object") (0 : Int32) [] .null) (g_a1 : n0 ≤ a1) (E1 : Exa Z h0 a1 "java/util/ArrayList") (Fm : Fld Z h0 a1 "java/util/AbstractList" "modCount" "I" (.int mc)) (Fe : Fld Z h0 a1 "java/util/ArrayList" "elementData" "[Ljava/lang/Object;" (.ref ed)) (Fs : Fld Z h0 a1 "java/util/ArrayList" "size" "I" (.int (0 : Int32))) :
    OMet l (⟨"java/util/ArrayList", "grow", "(I)[Ljava/lang/Object;"⟩ : MethodName) jdk_38_method_6_code 4 (some (.array (.object "java/lang/Object"))) ws ({ frames := 1, cells := 1, slots := 10, locals := 14 } : Room) Z #[(.ref a1), (.int (1 : Int32))] h0 (fun v h L => (∃ (b : Addr) (k : ClassId), v = some (.ref b) ∧ h0.size ≤ b ∧ n0 ≤ b ∧ Ovr Z k "java/lang/Object" ∧ Arv Z h b k (.object "java/lang/Object") (10 : Int32) [.null, .null, .null, .null, .null, .null, .null, .null, .null, .null] .null ∧ Exa Z h a1 "java/util/ArrayList" ∧ Fld Z h a1 "java/util/AbstractList" "modCount" "I" (.int mc) ∧ Fld Z h a1 "java/util/ArrayList" "elementData" "[Ljava/lang/Object;" (.ref b) ∧ Fld Z h a1 "java/util/ArrayList" "size" "I" (.int (0 : Int32))) ∧ Fr n0 L ∧ Keep h0 h [a1]) := by
  refine own_body (plainFor_of_name pn_2) ?_
  intro p e s m below meth cdx T0 X0 hx hZ hby hml hown hnm hret hlk e0
  have N0 := Fr.nil n0
  refine own_entry (g' := (mkF m 0 #[.val (.ref a1), .val (.int (1 : Int32)), .unset, .unset] [])) (by first | rfl | (simp [entryFrame, mkF, argsToLocals, Value.category, maxLocals]; done)) ?_
  have KC0 := Keep.refl h0 [a1]
  have ne_a1_ed : a1 ≠ ed := Exa.neArv E1 Vd (hw _ (List.mem_of_getElem? (i := 8) rfl))
  refine own_step (g' := (mkF m 1 #[.val (.ref a1), .val (.int (1 : Int32)), .unset, .unset] [(.ref a1)])) (fun _ k => XS.aloadN X0.here hx rfl (hb hby d18_0) rfl rfl k) ?_
  obtain ⟨T1, X1, e1, st1⟩ := getF X0 hx hZ hown (host := "") (Or.inl (hw _ (List.mem_of_getElem? (i := 31) rfl))) Via.refl e0 Fe (g := (mkF m 1 #[.val (.ref a1), .val (.int (1 : Int32)), .unset, .unset] [(.ref a1)])) rfl rfl (hb hby d18_1)
  refine own_via (g' := (mkF m 4 #[.val (.ref a1), .val (.int (1 : Int32)), .unset, .unset] [(.ref ed)])) st1 ?_
  obtain ⟨cl2, Ar2, q2, S2, M2, H2, G2⟩ := id Vd
  refine own_step (g' := (mkF m 5 #[.val (.ref a1), .val (.int (1 : Int32)), .unset, .unset] [(.int (0 : Int32))])) (own_len (len_of S2 M2) (X1.arraylength hx (by rw [e1]; exact Ar2.1) (State.isArrayOf_alike hZ.alike Ar2.2.1) (g := (mkF m 4 #[.val (.ref a1), .val (.int (1 : Int32)), .unset, .unset] [(.ref ed)])) rfl rfl (hb hby d18_4))) ?_
  refine own_step (g' := (mkF m 6 #[.val (.ref a1), .val (.int (1 : Int32)), .val (.int (0 : Int32)), .unset] [])) (fun _ k => XS.istoreN X1.here hx rfl (hb hby d18_5) rfl (l' := #[.val (.ref a1), .val (.int (1 : Int32)), .val (.int (0 : Int32)), .unset]) rfl k) ?_
  refine own_step (g' := (mkF m 7 #[.val (.ref a1), .val (.int (1 : Int32)), .val (.int (0 : Int32)), .unset] [(.int (0 : Int32))])) (fun _ k => XS.iloadN X1.here hx rfl (hb hby d18_6) rfl k) ?_
  refine own_step (g' := (mkF m 10 #[.val (.ref a1), .val (.int (1 : Int32)), .val (.int (0 : Int32)), .unset] [])) (fun _ k => XS.ifNo X1.here hx rfl (hb hby d18_7) rfl ((if0 _ _).trans (flt (by decide : ¬ ((0 : Int32) < (0 : Int32)))).2.2.1) k) ?_
  refine own_step (g' := (mkF m 11 #[.val (.ref a1), .val (.int (1 : Int32)), .val (.int (0 : Int32)), .unset] [(.ref a1)])) (fun _ k => XS.aloadN X1.here hx rfl (hb hby d18_10) rfl rfl k) ?_
  obtain ⟨T3, X3, e3, st3⟩ := getF X1 hx hZ hown (host := "") (Or.inl (hw _ (List.mem_of_getElem? (i := 31) rfl))) Via.refl e1 Fe (g := (mkF m 11 #[.val (.ref a1), .val (.int (1 : Int32)), .val (.int (0 : Int32)), .unset] [(.ref a1)])) rfl rfl (hb hby d18_11)
  refine own_via (g' := (mkF m 14 #[.val (.ref a1), .val (.int (1 : Int32)), .val (.int (0 : Int32)), .unset] [(.ref ed)])) st3 ?_
  obtain ⟨T4, X4, e4, st4⟩ := getS2 X3 hx hZ hown (host := "") (Or.inl (hw _ (List.mem_of_getElem? (i := 30) rfl))) Via.refl e3 S_DC (g := (mkF m 14 #[.val (.ref a1), .val (.int (1 : Int32)), .val (.int (0 : Int32)), .unset] [(.ref ed)])) rfl (hb hby d18_14)
  refine own_via (g' := (mkF m 17 #[.val (.ref a1), .val (.int (1 : Int32)), .val (.int (0 : Int32)), .unset] [(.ref ed), (.ref ed)])) st4 ?_
  refine own_step (g' := (mkF m 45 #[.val (.ref a1), .val (.int (1 : Int32)), .val (.int (0 : Int32)), .unset] [])) (fun _ k => Jvm.RoadKit.acmp (g := (mkF m 17 #[.val (.ref a1), .val (.int (1 : Int32)), .val (.int (0 : Int32)), .unset] [(.ref ed), (.ref ed)])) X4 hx rfl rfl rfl (pc0 := 17) (pc' := 45) (same := true) rfl (hb hby d18_17) rfl (decide_eq_true rfl) (by decide) (by decide) k) ?_
  refine own_step (g' := (mkF m 46 #[.val (.ref a1), .val (.int (1 : Int32)), .val (.int (0 : Int32)), .unset] [(.ref a1)])) (fun _ k => XS.aloadN X4.here hx rfl (hb hby d18_45) rfl rfl k) ?_
  refine own_step (g' := (mkF m 48 #[.val (.ref a1), .val (.int (1 : Int32)), .val (.int (0 : Int32)), .unset] [(.int (10 : Int32)), (.ref a1)])) (fun _ k => XS.bipush X4.here hx rfl (hb hby d18_46) k) ?_
  refine own_step (g' := (mkF m 49 #[.val (.ref a1), .val (.int (1 : Int32)), .val (.int (0 : Int32)), .unset] [(.int (1 : Int32)), (.int (10 : Int32)), (.ref a1)])) (fun _ k => XS.iloadN X4.here hx rfl (hb hby d18_48) rfl k) ?_
  refine own_callS X4 hx hZ (W := 1) hown e4 (rmMax l Z a0 hw [] h0 n0 Z0) (hw _ (List.mem_of_getElem? (i := 129) rfl)) (hw _ (List.mem_of_getElem? (i := 130) rfl)) (hw _ (List.mem_of_getElem? (i := 131) rfl)) (hw _ (List.mem_of_getElem? (i := 132) rfl)) (by decide) (by decide) (by decide) (g := (mkF m 49 #[.val (.ref a1), .val (.int (1 : Int32)), .val (.int (0 : Int32)), .unset] [(.int (1 : Int32)), (.int (10 : Int32)), (.ref a1)])) rfl (by rw [hml]; rfl) (argsL := [(.int (10 : Int32)), (.int (1 : Int32))]) (rest := [(.ref a1)]) rfl (lenOf pd_2 rfl) rfl (by show 2 * 0 + _ ≤ _; exact Nat.le_of_eq rfl) (hb hby d18_49) (by decide) (by decide) ?_
  intro v5 T5 L5 X5 hQ5
  obtain ⟨rfl, rfl, e5⟩ := hQ5
  replace X5 := own_pureX X5
  show OGo p e below _ T5 (mkF m 52 #[.val (.ref a1), .val (.int (1 : Int32)), .val (.int (0 : Int32)), .unset] [(.int (10 : Int32)), (.ref a1)])
  obtain ⟨T6, h6, k6, X6, e6, Ex6, A6, O6, st6⟩ := newR X5 hx hZ hown (hw _ (List.mem_of_getElem? (i := 133) rfl)) (hw _ (List.mem_of_getElem? (i := 134) rfl)) e5 (g := (mkF m 52 #[.val (.ref a1), .val (.int (1 : Int32)), .val (.int (0 : Int32)), .unset] [(.int (10 : Int32)), (.ref a1)])) rfl (hb hby d18_52) rfl (by decide) (cap := 10) (by decide) (by decide) (by decide) (by decide)
  obtain ⟨nb6, g6⟩ : ∃ z, z = h0.size := ⟨_, rfl⟩
  rw [← g6] at A6 st6
  have V6 : Arv Z h6 nb6 k6 (.object "java/lang/Object") (10 : Int32) [.null, .null, .null, .null, .null, .null, .null, .null, .null, .null] .null := (Arv.new A6 (by decide)).pad (pad_rep [] .null 10)
  have g_nb6 : n0 ≤ nb6 := Nat.le_trans Z0 (Nat.le_of_eq g6.symm)
  have ne_ed_nb6 : ed ≠ nb6 := Nat.ne_of_lt (Nat.lt_of_lt_of_le Vd.lt (Nat.le_of_eq g6.symm))
  have ne_a1_nb6 : a1 ≠ nb6 := Nat.ne_of_lt (Nat.lt_of_lt_of_le E1.lt (Nat.le_of_eq g6.symm))
  have sz_nb6 : h0.size ≤ nb6 := Nat.le_trans KC0.1 (Nat.le_of_eq g6.symm)
  have K6 : Keep h0 h6 [a1] := KC0.ext Ex6
  refine own_via (g' := (mkF m 55 #[.val (.ref a1), .val (.int (1 : Int32)), .val (.int (0 : Int32)), .unset] [(.ref nb6), (.ref a1)])) st6 ?_
  refine own_step (g' := (mkF m 56 #[.val (.ref a1), .val (.int (1 : Int32)), .val (.int (0 : Int32)), .unset] [(.ref nb6), (.ref a1), (.ref nb6)])) (fun _ k => XS.dupX1 X6.here hx rfl (hb hby d18_55) rfl rfl rfl k) ?_
  have F_7 : Fld Z h6 a1 "java/util/ArrayList" "elementData" "[Ljava/lang/Object;" (.ref ed) := (Fld.ext Ex6 Fe)
  have C_8 : Exa Z h6 a1 "java/util/ArrayList" := (Exa.ext Ex6 E1)
  obtain ⟨T9, h9, X9, e9, W9, st9⟩ := putF X6 hx hZ hown (host := "") (Or.inl (hw _ (List.mem_of_getElem? (i := 31) rfl))) Via.refl e6 F_7 C_8 (Or.inl (hw _ (List.mem_of_getElem? (i := 32) rfl))) (hw _ (List.mem_of_getElem? (i := 8) rfl)) (ty := (.array (.object "java/lang/Object"))) (by decide) rfl rfl (g := (mkF m 56 #[.val (.ref a1), .val (.int (1 : Int32)), .val (.int (0 : Int32)), .unset] [(.ref nb6), (.ref a1), (.ref nb6)])) rfl rfl (hb hby d18_56)
  have Fw9 := Fld.same W9 F_7
  have N9 := Fr.snoc X9 N0 g_a1
  have K9 : Keep h0 h9 [a1] := K6.wr W9 (Or.inl (List.mem_of_getElem? (i := 0) rfl))
  refine own_via (g' := (mkF m 59 #[.val (.ref a1), .val (.int (1 : Int32)), .val (.int (0 : Int32)), .unset] [(.ref nb6)])) st9 ?_
  have V_10 : Arv Z h9 nb6 k6 (.object "java/lang/Object") (10 : Int32) [.null, .null, .null, .null, .null, .null, .null, .null, .null, .null] .null := (V6.other W9 (Ne.symm ne_a1_nb6))
  have C_11 : Exa Z h9 a1 "java/util/ArrayList" := (Exa.wr W9 C_8)
  have F_12 : Fld Z h9 a1 "java/util/AbstractList" "modCount" "I" (.int mc) := (Fld.other W9 (Fld.ext Ex6 Fm) (Or.inr (slot_ne (Or.inl (hw _ (List.mem_of_getElem? (i := 29) rfl))) (Or.inl (hw _ (List.mem_of_getElem? (i := 32) rfl))) (by decide) (t := .int) (t' := (.array (.object "java/lang/Object"))) (by decide) (by decide))))
  have F_13 : Fld Z h9 a1 "java/util/ArrayList" "size" "I" (.int (0 : Int32)) := (Fld.other W9 (Fld.ext Ex6 Fs) (Or.inr (slot_ne (Or.inl (hw _ (List.mem_of_getElem? (i := 82) rfl))) (Or.inl (hw _ (List.mem_of_getElem? (i := 32) rfl))) (by decide) (t := .int) (t' := (.array (.object "java/lang/Object"))) (by decide) (by decide))))
  exact own_retA X9 hx hret rfl rfl hlk (hb hby d18_59) e9 (by exact ⟨⟨_, _, rfl, sz_nb6, g_nb6, O6, V_10, C_11, F_12, Fw9, F_13⟩, N9, K9⟩) (by decide) (by decide)
theorem d17_0 : decode jdk_38_method_7_code 0 = .ok (.aload_n 0, 1) := by decide +kernel
theorem d17_1 : decode jdk_38_method_7_code 1 = .ok (.aload_n 0, 1) := by decide +kernel
theorem d17_2 : decode jdk_38_method_7_code 2 = .ok (.getfield 48, 3) := by decide +kernel
theorem d17_5 : decode jdk_38_method_7_code 5 = .ok (.iconst 1, 1) := by decide +kernel
theorem d17_6 : decode jdk_38_method_7_code 6 = .ok (.iadd, 1) := by decide +kernel
theorem d17_7 : decode jdk_38_method_7_code 7 = .ok (.invokevirtual 69, 3) := by decide +kernel
theorem d17_10 : decode jdk_38_method_7_code 10 = .ok (.areturn, 1) := by decide +kernel
theorem pd_3 : parseMethodDescriptor "(I)[Ljava/lang/Object;" = some ⟨[.int], some (.array (.object "java/lang/Object"))⟩ := by decide +kernel
set_option maxRecDepth 65536 in
set_option maxHeartbeats 40000000 in
theorem rmGrow (l : Launch) (Z : State) (a0 : Array Value) (hw : ∀ d ∈ tables_1, d.before a0 Z = true) (ws : List Jvm.Cond) (a1 ed : Addr) (kd : ClassId) (mc : Int32) (h0 : Heap) (n0 : Nat) (Z0 : n0 ≤ h0.size) (S_DC : Sta Z h0 "java/util/ArrayList" "DEFAULTCAPACITY_EMPTY_ELEMENTDATA" "[Ljava/lang/Object;" (.ref ed)) (Vd : Arv Z h0 ed kd (.object "java/lang/Object") (0 : Int32) [] .null) (g_a1 : n0 ≤ a1) (E1 : Exa Z h0 a1 "java/util/ArrayList") (Fm : Fld Z h0 a1 "java/util/AbstractList" "modCount" "I" (.int mc)) (Fe : Fld Z h0 a1 "java/util/ArrayList" "elementData" "[Ljava/lang/Object;" (.ref ed)) (Fs : Fld Z h0 a1 "java/util/ArrayList" "size" "I" (.int (0 : Int32))) :
    OMet l (⟨"java/util/ArrayList", "grow", "()[Ljava/lang/Object;"⟩ : MethodName) jdk_38_method_7_code 1 (some (.array (.object "java/lang/Object"))) ws ({ frames := 2, cells := 1, slots := 10, locals := 29 } : Room) Z #[(.ref a1)] h0 (fun v h L => (∃ (b : Addr) (k : ClassId), v = some (.ref b) ∧ h0.size ≤ b ∧ n0 ≤ b ∧ Ovr Z k "java/lang/Object" ∧ Arv Z h b k (.object "java/lang/Object") (10 : Int32) [.null, .null, .null, .null, .null, .null, .null, .null, .null, .null] .null ∧ Exa Z h a1 "java/util/ArrayList" ∧ Fld Z h a1 "java/util/AbstractList" "modCount" "I" (.int mc) ∧ Fld Z h a1 "java/util/ArrayList" "elementData" "[Ljava/lang/Object;" (.ref b) ∧ Fld Z h a1 "java/util/ArrayList" "size" "I" (.int (0 : Int32))) ∧ Fr n0 L ∧ Keep h0 h [a1]) := by
  refine own_body (plainFor_of_name pn_2) ?_
  intro p e s m below meth cdx T0 X0 hx hZ hby hml hown hnm hret hlk e0
  have N0 := Fr.nil n0
  refine own_entry (g' := (mkF m 0 #[.val (.ref a1)] [])) (by first | rfl | (simp [entryFrame, mkF, argsToLocals, Value.category, maxLocals]; done)) ?_
  have KC0 := Keep.refl h0 [a1]
  have ne_a1_ed : a1 ≠ ed := Exa.neArv E1 Vd (hw _ (List.mem_of_getElem? (i := 8) rfl))
  refine own_step (g' := (mkF m 1 #[.val (.ref a1)] [(.ref a1)])) (fun _ k => XS.aloadN X0.here hx rfl (hb hby d17_0) rfl rfl k) ?_
  refine own_step (g' := (mkF m 2 #[.val (.ref a1)] [(.ref a1), (.ref a1)])) (fun _ k => XS.aloadN X0.here hx rfl (hb hby d17_1) rfl rfl k) ?_
  obtain ⟨T1, X1, e1, st1⟩ := getF X0 hx hZ hown (host := "") (Or.inl (hw _ (List.mem_of_getElem? (i := 92) rfl))) Via.refl e0 Fs (g := (mkF m 2 #[.val (.ref a1)] [(.ref a1), (.ref a1)])) rfl rfl (hb hby d17_2)
  refine own_via (g' := (mkF m 5 #[.val (.ref a1)] [(.int (0 : Int32)), (.ref a1)])) st1 ?_
  refine own_step (g' := (mkF m 6 #[.val (.ref a1)] [(.int (1 : Int32)), (.int (0 : Int32)), (.ref a1)])) (fun _ k => XS.iconst X1.here hx rfl (hb hby d17_5) k) ?_
  refine own_step (g' := (mkF m 7 #[.val (.ref a1)] [(.int (1 : Int32)), (.ref a1)])) (fun _ k => XS.iadd X1.here hx rfl (hb hby d17_6) rfl k) ?_
  refine own_callP X1 hx hZ (W := 0) hown e1 (rmGrowI l Z a0 hw [] a1 ed kd mc h0 n0 Z0 S_DC Vd g_a1 E1 Fm Fe Fs) E1 (hw _ (List.mem_of_getElem? (i := 124) rfl)) (hw _ (List.mem_of_getElem? (i := 125) rfl)) (hw _ (List.mem_of_getElem? (i := 127) rfl)) (hw _ (List.mem_of_getElem? (i := 126) rfl)) (hw _ (List.mem_of_getElem? (i := 128) rfl)) (hw _ (List.mem_of_getElem? (i := 9) rfl)) (by decide) (by decide) (by decide) (g := (mkF m 7 #[.val (.ref a1)] [(.int (1 : Int32)), (.ref a1)])) rfl (by rw [hml]; rfl) (argsL := [(.int (1 : Int32))]) (rest := []) rfl (lenOf pd_3 rfl) rfl (by show 2 * 0 + _ ≤ _; exact Nat.le_of_eq rfl) (hb hby d17_7) (by decide) (by decide) ?_
  intro v2 T2 L2 X2 hQ2
  obtain ⟨⟨gb, gk, rfl, szg, g_gb, Og, Vg, Cg, Fg1, Fg2, Fg3⟩, Nq2, Kq2⟩ := hQ2
  have N2 := Fr.app N0 Nq2
  have K2 : Keep h0 T2.heap [a1] := KC0.trans Kq2 (allS (Or.inl (List.mem_of_getElem? (i := 0) rfl)) all0)
  have sz_gb : h0.size ≤ gb := Nat.le_trans KC0.1 szg
  show OGo p e below _ T2 (mkF m 10 #[.val (.ref a1)] [(.ref gb)])
  have ne_a1_gb : a1 ≠ gb := Exa.neArv Cg Vg (hw _ (List.mem_of_getElem? (i := 8) rfl))
  exact own_retA X2 hx hret rfl rfl hlk (hb hby d17_10) rfl (by exact ⟨⟨_, _, rfl, sz_gb, g_gb, Og, Vg, Cg, Fg1, Fg2, Fg3⟩, N2, K2⟩) (by decide) (by decide)
theorem d16_0 : decode jdk_38_method_24_code 0 = .ok (.iload_n 3, 1) := by decide +kernel
theorem d16_1 : decode jdk_38_method_24_code 1 = .ok (.aload_n 2, 1) := by decide +kernel
theorem d16_2 : decode jdk_38_method_24_code 2 = .ok (.arraylength, 1) := by decide +kernel
theorem d16_3 : decode jdk_38_method_24_code 3 = .ok (.if_icmp .ne 8, 3) := by decide +kernel
theorem d16_6 : decode jdk_38_method_24_code 6 = .ok (.aload_n 0, 1) := by decide +kernel
theorem d16_7 : decode jdk_38_method_24_code 7 = .ok (.invokevirtual 129, 3) := by decide +kernel
theorem d16_10 : decode jdk_38_method_24_code 10 = .ok (.astore_n 2, 1) := by decide +kernel
theorem d16_11 : decode jdk_38_method_24_code 11 = .ok (.aload_n 2, 1) := by decide +kernel
theorem d16_12 : decode jdk_38_method_24_code 12 = .ok (.iload_n 3, 1) := by decide +kernel
theorem d16_13 : decode jdk_38_method_24_code 13 = .ok (.aload_n 1, 1) := by decide +kernel
theorem d16_14 : decode jdk_38_method_24_code 14 = .ok (.aastore, 1) := by decide +kernel
theorem d16_15 : decode jdk_38_method_24_code 15 = .ok (.aload_n 0, 1) := by decide +kernel
theorem d16_16 : decode jdk_38_method_24_code 16 = .ok (.iload_n 3, 1) := by decide +kernel
theorem d16_17 : decode jdk_38_method_24_code 17 = .ok (.iconst 1, 1) := by decide +kernel
theorem d16_18 : decode jdk_38_method_24_code 18 = .ok (.iadd, 1) := by decide +kernel
theorem d16_19 : decode jdk_38_method_24_code 19 = .ok (.putfield 48, 3) := by decide +kernel
theorem d16_22 : decode jdk_38_method_24_code 22 = .ok (.return_, 1) := by decide +kernel
theorem pd_4 : parseMethodDescriptor "()[Ljava/lang/Object;" = some ⟨[], some (.array (.object "java/lang/Object"))⟩ := by decide +kernel
set_option maxRecDepth 65536 in
set_option maxHeartbeats 40000000 in
theorem rmHelp0 (l : Launch) (Z : State) (a0 : Array Value) (hw : ∀ d ∈ tables_1, d.before a0 Z = true) (ws : List Jvm.Cond) (a1 o ed : Addr) (kd : ClassId) (mc : Int32) (h0 : Heap) (n0 : Nat) (Z0 : n0 ≤ h0.size) (S_DC : Sta Z h0 "java/util/ArrayList" "DEFAULTCAPACITY_EMPTY_ELEMENTDATA" "[Ljava/lang/Object;" (.ref ed)) (Vd : Arv Z h0 ed kd (.object "java/lang/Object") (0 : Int32) [] .null) (g_a1 : n0 ≤ a1) (E1 : Exa Z h0 a1 "java/util/ArrayList") (Fm : Fld Z h0 a1 "java/util/AbstractList" "modCount" "I" (.int mc)) (Fe : Fld Z h0 a1 "java/util/ArrayList" "elementData" "[Ljava/lang/Object;" (.ref ed)) (Fs : Fld Z h0 a1 "java/util/ArrayList" "size" "I" (.int (0 : Int32))) (Eo : Exa Z h0 o "java/lang/Integer") :
    OMet l (⟨"java/util/ArrayList", "add", "(Ljava/lang/Object;[Ljava/lang/Object;I)V"⟩ : MethodName) jdk_38_method_24_code 4 none ws ({ frames := 3, cells := 1, slots := 10, locals := 41 } : Room) Z #[(.ref a1), (.ref o), (.ref ed), (.int (0 : Int32))] h0 (fun v h L => (∃ (b : Addr) (k : ClassId), v = none ∧ h0.size ≤ b ∧ n0 ≤ b ∧ Ovr Z k "java/lang/Object" ∧ Arv Z h b k (.object "java/lang/Object") (10 : Int32) [(.ref o), .null, .null, .null, .null, .null, .null, .null, .null, .null] .null ∧ Exa Z h a1 "java/util/ArrayList" ∧ Fld Z h a1 "java/util/AbstractList" "modCount" "I" (.int mc) ∧ Fld Z h a1 "java/util/ArrayList" "elementData" "[Ljava/lang/Object;" (.ref b) ∧ Fld Z h a1 "java/util/ArrayList" "size" "I" (.int (1 : Int32))) ∧ Fr n0 L ∧ Keep h0 h [a1]) := by
  refine own_body (plainFor_of_name pn_2) ?_
  intro p e s m below meth cdx T0 X0 hx hZ hby hml hown hnm hret hlk e0
  have N0 := Fr.nil n0
  refine own_entry (g' := (mkF m 0 #[.val (.ref a1), .val (.ref o), .val (.ref ed), .val (.int (0 : Int32))] [])) (by first | rfl | (simp [entryFrame, mkF, argsToLocals, Value.category, maxLocals]; done)) ?_
  have KC0 := Keep.refl h0 [a1]
  have ne_a1_ed : a1 ≠ ed := Exa.neArv E1 Vd (hw _ (List.mem_of_getElem? (i := 8) rfl))
  refine own_step (g' := (mkF m 1 #[.val (.ref a1), .val (.ref o), .val (.ref ed), .val (.int (0 : Int32))] [(.int (0 : Int32))])) (fun _ k => XS.iloadN X0.here hx rfl (hb hby d16_0) rfl k) ?_
  refine own_step (g' := (mkF m 2 #[.val (.ref a1), .val (.ref o), .val (.ref ed), .val (.int (0 : Int32))] [(.ref ed), (.int (0 : Int32))])) (fun _ k => XS.aloadN X0.here hx rfl (hb hby d16_1) rfl rfl k) ?_
  obtain ⟨cl1, Ar1, q1, S1, M1, H1, G1⟩ := id Vd
  refine own_step (g' := (mkF m 3 #[.val (.ref a1), .val (.ref o), .val (.ref ed), .val (.int (0 : Int32))] [(.int (0 : Int32)), (.int (0 : Int32))])) (own_len (len_of S1 M1) (X0.arraylength hx (by rw [e0]; exact Ar1.1) (State.isArrayOf_alike hZ.alike Ar1.2.1) (g := (mkF m 2 #[.val (.ref a1), .val (.ref o), .val (.ref ed), .val (.int (0 : Int32))] [(.ref ed), (.int (0 : Int32))])) rfl rfl (hb hby d16_2))) ?_
  refine own_step (g' := (mkF m 6 #[.val (.ref a1), .val (.ref o), .val (.ref ed), .val (.int (0 : Int32))] [])) (fun _ k => XS.icmpNo X0.here hx rfl (hb hby d16_3) rfl (teq (by decide : (0 : Int32) = (0 : Int32))).2 k) ?_
  refine own_step (g' := (mkF m 7 #[.val (.ref a1), .val (.ref o), .val (.ref ed), .val (.int (0 : Int32))] [(.ref a1)])) (fun _ k => XS.aloadN X0.here hx rfl (hb hby d16_6) rfl rfl k) ?_
  refine own_callP X0 hx hZ (W := 0) hown e0 (rmGrow l Z a0 hw [] a1 ed kd mc h0 n0 Z0 S_DC Vd g_a1 E1 Fm Fe Fs) E1 (hw _ (List.mem_of_getElem? (i := 119) rfl)) (hw _ (List.mem_of_getElem? (i := 120) rfl)) (hw _ (List.mem_of_getElem? (i := 122) rfl)) (hw _ (List.mem_of_getElem? (i := 121) rfl)) (hw _ (List.mem_of_getElem? (i := 123) rfl)) (hw _ (List.mem_of_getElem? (i := 9) rfl)) (by decide) (by decide) (by decide) (g := (mkF m 7 #[.val (.ref a1), .val (.ref o), .val (.ref ed), .val (.int (0 : Int32))] [(.ref a1)])) rfl (by rw [hml]; rfl) (argsL := []) (rest := []) rfl (lenOf pd_4 rfl) rfl (by show 2 * 0 + _ ≤ _; exact Nat.le_of_eq rfl) (hb hby d16_7) (by decide) (by decide) ?_
  intro v2 T2 L2 X2 hQ2
  obtain ⟨⟨gb, gk, rfl, szg, g_gb, Og, Vg, Cg, Fg1, Fg2, Fg3⟩, Nq2, Kq2⟩ := hQ2
  have N2 := Fr.app N0 Nq2
  have K2 : Keep h0 T2.heap [a1] := KC0.trans Kq2 (allS (Or.inl (List.mem_of_getElem? (i := 0) rfl)) all0)
  have sz_gb : h0.size ≤ gb := Nat.le_trans KC0.1 szg
  show OGo p e below _ T2 (mkF m 10 #[.val (.ref a1), .val (.ref o), .val (.ref ed), .val (.int (0 : Int32))] [(.ref gb)])
  have ne_a1_gb : a1 ≠ gb := Exa.neArv Cg Vg (hw _ (List.mem_of_getElem? (i := 8) rfl))
  refine own_step (g' := (mkF m 11 #[.val (.ref a1), .val (.ref o), .val (.ref gb), .val (.int (0 : Int32))] [])) (fun _ k => XS.astoreN X2.here hx rfl (hb hby d16_10) rfl rfl (l' := #[.val (.ref a1), .val (.ref o), .val (.ref gb), .val (.int (0 : Int32))]) rfl k) ?_
  refine own_step (g' := (mkF m 12 #[.val (.ref a1), .val (.ref o), .val (.ref gb), .val (.int (0 : Int32))] [(.ref gb)])) (fun _ k => XS.aloadN X2.here hx rfl (hb hby d16_11) rfl rfl k) ?_
  refine own_step (g' := (mkF m 13 #[.val (.ref a1), .val (.ref o), .val (.ref gb), .val (.int (0 : Int32))] [(.int (0 : Int32)), (.ref gb)])) (fun _ k => XS.iloadN X2.here hx rfl (hb hby d16_12) rfl k) ?_
  refine own_step (g' := (mkF m 14 #[.val (.ref a1), .val (.ref o), .val (.ref gb), .val (.int (0 : Int32))] [(.ref o), (.int (0 : Int32)), (.ref gb)])) (fun _ k => XS.aloadN X2.here hx rfl (hb hby d16_13) rfl rfl k) ?_
  have C_4 : Exa Z T2.heap o "java/lang/Integer" := (Eo.keep Kq2)
  obtain ⟨cl3, Ar3, q3, S3, M3, H3, G3⟩ := id Vg
  obtain ⟨T3, h3, X3, e3, W3, st3⟩ := stR X2 hx hZ rfl Ar3 (j := (0 : Int32)) (inb_of S3 ⟨by decide, by decide⟩) rfl (Sto.ofV Ar3 q3 Og (Ins.of_exa C_4 (hw _ (List.mem_of_getElem? (i := 135) rfl)))) (g := (mkF m 14 #[.val (.ref a1), .val (.ref o), .val (.ref gb), .val (.int (0 : Int32))] [(.ref o), (.int (0 : Int32)), (.ref gb)])) rfl rfl (hb hby d16_14)
  have V3 : Arv Z h3 gb gk (.object "java/lang/Object") (10 : Int32) [(.ref o), .null, .null, .null, .null, .null, .null, .null, .null, .null] .null := Arv.set Ar3 q3 S3 M3 H3 G3 rfl W3 0 rfl (Nat.le_of_ble_eq_true rfl)
  have N3 := Fr.snoc X3 N2 g_gb
  have K3 : Keep h0 h3 [a1] := K2.wr W3 (Or.inr sz_gb)
  refine own_via (g' := (mkF m 15 #[.val (.ref a1), .val (.ref o), .val (.ref gb), .val (.int (0 : Int32))] [])) st3 ?_
  refine own_step (g' := (mkF m 16 #[.val (.ref a1), .val (.ref o), .val (.ref gb), .val (.int (0 : Int32))] [(.ref a1)])) (fun _ k => XS.aloadN X3.here hx rfl (hb hby d16_15) rfl rfl k) ?_
  refine own_step (g' := (mkF m 17 #[.val (.ref a1), .val (.ref o), .val (.ref gb), .val (.int (0 : Int32))] [(.int (0 : Int32)), (.ref a1)])) (fun _ k => XS.iloadN X3.here hx rfl (hb hby d16_16) rfl k) ?_
  refine own_step (g' := (mkF m 18 #[.val (.ref a1), .val (.ref o), .val (.ref gb), .val (.int (0 : Int32))] [(.int (1 : Int32)), (.int (0 : Int32)), (.ref a1)])) (fun _ k => XS.iconst X3.here hx rfl (hb hby d16_17) k) ?_
  refine own_step (g' := (mkF m 19 #[.val (.ref a1), .val (.ref o), .val (.ref gb), .val (.int (0 : Int32))] [(.int (1 : Int32)), (.ref a1)])) (fun _ k => XS.iadd X3.here hx rfl (hb hby d16_18) rfl k) ?_
  have F_5 : Fld Z h3 a1 "java/util/ArrayList" "size" "I" (.int (0 : Int32)) := (Fld.other W3 Fg3 (Or.inl ne_a1_gb))
  have C_6 : Exa Z h3 a1 "java/util/ArrayList" := (Exa.wr W3 Cg)
  obtain ⟨T7, h7, X7, e7, W7, st7⟩ := putF X3 hx hZ hown (host := "") (Or.inl (hw _ (List.mem_of_getElem? (i := 92) rfl))) Via.refl e3 F_5 C_6 (Or.inl (hw _ (List.mem_of_getElem? (i := 82) rfl))) (hw _ (List.mem_of_getElem? (i := 8) rfl)) (ty := .int) (by decide) rfl rfl (g := (mkF m 19 #[.val (.ref a1), .val (.ref o), .val (.ref gb), .val (.int (0 : Int32))] [(.int (1 : Int32)), (.ref a1)])) rfl rfl (hb hby d16_19)
  have Fw7 := Fld.same W7 F_5
  have N7 := Fr.snoc X7 N3 g_a1
  have K7 : Keep h0 h7 [a1] := K3.wr W7 (Or.inl (List.mem_of_getElem? (i := 0) rfl))
  refine own_via (g' := (mkF m 22 #[.val (.ref a1), .val (.ref o), .val (.ref gb), .val (.int (0 : Int32))] [])) st7 ?_
  have V_8 : Arv Z h7 gb gk (.object "java/lang/Object") (10 : Int32) [(.ref o), .null, .null, .null, .null, .null, .null, .null, .null, .null] .null := (V3.other W7 (Ne.symm ne_a1_gb))
  have C_9 : Exa Z h7 a1 "java/util/ArrayList" := (Exa.wr W7 C_6)
  have F_10 : Fld Z h7 a1 "java/util/AbstractList" "modCount" "I" (.int mc) := (Fld.other W7 (Fld.other W3 Fg1 (Or.inl ne_a1_gb)) (Or.inr (slot_ne (Or.inl (hw _ (List.mem_of_getElem? (i := 29) rfl))) (Or.inl (hw _ (List.mem_of_getElem? (i := 82) rfl))) (by decide) (t := .int) (t' := .int) (by decide) (by decide))))
  have F_11 : Fld Z h7 a1 "java/util/ArrayList" "elementData" "[Ljava/lang/Object;" (.ref gb) := (Fld.other W7 (Fld.other W3 Fg2 (Or.inl ne_a1_gb)) (Or.inr (slot_ne (Or.inl (hw _ (List.mem_of_getElem? (i := 32) rfl))) (Or.inl (hw _ (List.mem_of_getElem? (i := 82) rfl))) (by decide) (t := (.array (.object "java/lang/Object"))) (t' := .int) (by decide) (by decide))))
  exact own_retV X7 hx hret hlk (hb hby d16_22) e7 (by exact ⟨⟨_, _, rfl, sz_gb, g_gb, Og, V_8, C_9, F_10, F_11, Fw7⟩, N7, K7⟩) (by decide) (by decide)
theorem d15_0 : decode jdk_38_method_25_code 0 = .ok (.aload_n 0, 1) := by decide +kernel
theorem d15_1 : decode jdk_38_method_25_code 1 = .ok (.dup, 1) := by decide +kernel
theorem d15_2 : decode jdk_38_method_25_code 2 = .ok (.getfield 63, 3) := by decide +kernel
theorem d15_5 : decode jdk_38_method_25_code 5 = .ok (.iconst 1, 1) := by decide +kernel
theorem d15_6 : decode jdk_38_method_25_code 6 = .ok (.iadd, 1) := by decide +kernel
theorem d15_7 : decode jdk_38_method_25_code 7 = .ok (.putfield 63, 3) := by decide +kernel
theorem d15_10 : decode jdk_38_method_25_code 10 = .ok (.aload_n 0, 1) := by decide +kernel
theorem d15_11 : decode jdk_38_method_25_code 11 = .ok (.aload_n 1, 1) := by decide +kernel
theorem d15_12 : decode jdk_38_method_25_code 12 = .ok (.aload_n 0, 1) := by decide +kernel
theorem d15_13 : decode jdk_38_method_25_code 13 = .ok (.getfield 9, 3) := by decide +kernel
theorem d15_16 : decode jdk_38_method_25_code 16 = .ok (.aload_n 0, 1) := by decide +kernel
theorem d15_17 : decode jdk_38_method_25_code 17 = .ok (.getfield 48, 3) := by decide +kernel
theorem d15_20 : decode jdk_38_method_25_code 20 = .ok (.invokevirtual 131, 3) := by decide +kernel
theorem d15_23 : decode jdk_38_method_25_code 23 = .ok (.iconst 1, 1) := by decide +kernel
theorem d15_24 : decode jdk_38_method_25_code 24 = .ok (.ireturn, 1) := by decide +kernel
theorem pd_5 : parseMethodDescriptor "(Ljava/lang/Object;[Ljava/lang/Object;I)V" = some ⟨[(.object "java/lang/Object"), (.array (.object "java/lang/Object")), .int], none⟩ := by decide +kernel
set_option maxRecDepth 65536 in
set_option maxHeartbeats 40000000 in
theorem rmAdd0 (l : Launch) (Z : State) (a0 : Array Value) (hw : ∀ d ∈ tables_1, d.before a0 Z = true) (ws : List Jvm.Cond) (a1 o ed : Addr) (kd : ClassId) (mc : Int32) (h0 : Heap) (n0 : Nat) (Z0 : n0 ≤ h0.size) (S_DC : Sta Z h0 "java/util/ArrayList" "DEFAULTCAPACITY_EMPTY_ELEMENTDATA" "[Ljava/lang/Object;" (.ref ed)) (Vd : Arv Z h0 ed kd (.object "java/lang/Object") (0 : Int32) [] .null) (g_a1 : n0 ≤ a1) (E1 : Exa Z h0 a1 "java/util/ArrayList") (Fm : Fld Z h0 a1 "java/util/AbstractList" "modCount" "I" (.int mc)) (Fe : Fld Z h0 a1 "java/util/ArrayList" "elementData" "[Ljava/lang/Object;" (.ref ed)) (Fs : Fld Z h0 a1 "java/util/ArrayList" "size" "I" (.int (0 : Int32))) (Eo : Exa Z h0 o "java/lang/Integer") :
    OMet l (⟨"java/util/ArrayList", "add", "(Ljava/lang/Object;)Z"⟩ : MethodName) jdk_38_method_25_code 2 (some .boolean) ws ({ frames := 4, cells := 1, slots := 10, locals := 56 } : Room) Z #[(.ref a1), (.ref o)] h0 (fun v h L => (∃ (b : Addr) (k : ClassId), v = some (.int (1 : Int32)) ∧ h0.size ≤ b ∧ n0 ≤ b ∧ Ovr Z k "java/lang/Object" ∧ Arv Z h b k (.object "java/lang/Object") (10 : Int32) [(.ref o), .null, .null, .null, .null, .null, .null, .null, .null, .null] .null ∧ Exa Z h a1 "java/util/ArrayList" ∧ Fld Z h a1 "java/util/AbstractList" "modCount" "I" (.int (mc + (1 : Int32))) ∧ Fld Z h a1 "java/util/ArrayList" "elementData" "[Ljava/lang/Object;" (.ref b) ∧ Fld Z h a1 "java/util/ArrayList" "size" "I" (.int (1 : Int32))) ∧ Fr n0 L ∧ Keep h0 h [a1]) := by
  refine own_body (plainFor_of_name pn_2) ?_
  intro p e s m below meth cdx T0 X0 hx hZ hby hml hown hnm hret hlk e0
  have N0 := Fr.nil n0
  refine own_entry (g' := (mkF m 0 #[.val (.ref a1), .val (.ref o)] [])) (by first | rfl | (simp [entryFrame, mkF, argsToLocals, Value.category, maxLocals]; done)) ?_
  have KC0 := Keep.refl h0 [a1]
  have ne_a1_ed : a1 ≠ ed := Exa.neArv E1 Vd (hw _ (List.mem_of_getElem? (i := 8) rfl))
  refine own_step (g' := (mkF m 1 #[.val (.ref a1), .val (.ref o)] [(.ref a1)])) (fun _ k => XS.aloadN X0.here hx rfl (hb hby d15_0) rfl rfl k) ?_
  refine own_step (g' := (mkF m 2 #[.val (.ref a1), .val (.ref o)] [(.ref a1), (.ref a1)])) (fun _ k => XS.dup X0.here hx rfl (hb hby d15_1) rfl rfl k) ?_
  obtain ⟨T1, X1, e1, st1⟩ := getF X0 hx hZ hown (host := "") (Or.inl (hw _ (List.mem_of_getElem? (i := 113) rfl))) (Via.of (hw _ (List.mem_of_getElem? (i := 59) rfl))) e0 Fm (g := (mkF m 2 #[.val (.ref a1), .val (.ref o)] [(.ref a1), (.ref a1)])) rfl rfl (hb hby d15_2)
  refine own_via (g' := (mkF m 5 #[.val (.ref a1), .val (.ref o)] [(.int mc), (.ref a1)])) st1 ?_
  refine own_step (g' := (mkF m 6 #[.val (.ref a1), .val (.ref o)] [(.int (1 : Int32)), (.int mc), (.ref a1)])) (fun _ k => XS.iconst X1.here hx rfl (hb hby d15_5) k) ?_
  refine own_step (g' := (mkF m 7 #[.val (.ref a1), .val (.ref o)] [(.int (mc + (1 : Int32))), (.ref a1)])) (fun _ k => XS.iadd X1.here hx rfl (hb hby d15_6) rfl k) ?_
  obtain ⟨T2, h2, X2, e2, W2, st2⟩ := putF X1 hx hZ hown (host := "") (Or.inl (hw _ (List.mem_of_getElem? (i := 113) rfl))) (Via.of (hw _ (List.mem_of_getElem? (i := 59) rfl))) e1 Fm E1 (Or.inl (hw _ (List.mem_of_getElem? (i := 29) rfl))) (hw _ (List.mem_of_getElem? (i := 8) rfl)) (ty := .int) (by decide) rfl rfl (g := (mkF m 7 #[.val (.ref a1), .val (.ref o)] [(.int (mc + (1 : Int32))), (.ref a1)])) rfl rfl (hb hby d15_7)
  have Fw2 := Fld.same W2 Fm
  have N2 := Fr.snoc X2 N0 g_a1
  have K2 : Keep h0 h2 [a1] := KC0.wr W2 (Or.inl (List.mem_of_getElem? (i := 0) rfl))
  refine own_via (g' := (mkF m 10 #[.val (.ref a1), .val (.ref o)] [])) st2 ?_
  refine own_step (g' := (mkF m 11 #[.val (.ref a1), .val (.ref o)] [(.ref a1)])) (fun _ k => XS.aloadN X2.here hx rfl (hb hby d15_10) rfl rfl k) ?_
  refine own_step (g' := (mkF m 12 #[.val (.ref a1), .val (.ref o)] [(.ref o), (.ref a1)])) (fun _ k => XS.aloadN X2.here hx rfl (hb hby d15_11) rfl rfl k) ?_
  refine own_step (g' := (mkF m 13 #[.val (.ref a1), .val (.ref o)] [(.ref a1), (.ref o), (.ref a1)])) (fun _ k => XS.aloadN X2.here hx rfl (hb hby d15_12) rfl rfl k) ?_
  have F_3 : Fld Z h2 a1 "java/util/ArrayList" "elementData" "[Ljava/lang/Object;" (.ref ed) := (Fld.other W2 Fe (Or.inr (slot_ne (Or.inl (hw _ (List.mem_of_getElem? (i := 32) rfl))) (Or.inl (hw _ (List.mem_of_getElem? (i := 29) rfl))) (by decide) (t := (.array (.object "java/lang/Object"))) (t' := .int) (by decide) (by decide))))
  obtain ⟨T4, X4, e4, st4⟩ := getF X2 hx hZ hown (host := "") (Or.inl (hw _ (List.mem_of_getElem? (i := 31) rfl))) Via.refl e2 F_3 (g := (mkF m 13 #[.val (.ref a1), .val (.ref o)] [(.ref a1), (.ref o), (.ref a1)])) rfl rfl (hb hby d15_13)
  refine own_via (g' := (mkF m 16 #[.val (.ref a1), .val (.ref o)] [(.ref ed), (.ref o), (.ref a1)])) st4 ?_
  refine own_step (g' := (mkF m 17 #[.val (.ref a1), .val (.ref o)] [(.ref a1), (.ref ed), (.ref o), (.ref a1)])) (fun _ k => XS.aloadN X4.here hx rfl (hb hby d15_16) rfl rfl k) ?_
  have F_5 : Fld Z h2 a1 "java/util/ArrayList" "size" "I" (.int (0 : Int32)) := (Fld.other W2 Fs (Or.inr (slot_ne (Or.inl (hw _ (List.mem_of_getElem? (i := 82) rfl))) (Or.inl (hw _ (List.mem_of_getElem? (i := 29) rfl))) (by decide) (t := .int) (t' := .int) (by decide) (by decide))))
  obtain ⟨T6, X6, e6, st6⟩ := getF X4 hx hZ hown (host := "") (Or.inl (hw _ (List.mem_of_getElem? (i := 92) rfl))) Via.refl e4 F_5 (g := (mkF m 17 #[.val (.ref a1), .val (.ref o)] [(.ref a1), (.ref ed), (.ref o), (.ref a1)])) rfl rfl (hb hby d15_17)
  refine own_via (g' := (mkF m 20 #[.val (.ref a1), .val (.ref o)] [(.int (0 : Int32)), (.ref ed), (.ref o), (.ref a1)])) st6 ?_
  have S_7 : Sta Z h2 "java/util/ArrayList" "DEFAULTCAPACITY_EMPTY_ELEMENTDATA" "[Ljava/lang/Object;" (.ref ed) := (Sta.wr W2 S_DC)
  have V_8 : Arv Z h2 ed kd (.object "java/lang/Object") (0 : Int32) [] .null := (Vd.other W2 (Ne.symm ne_a1_ed))
  have C_9 : Exa Z h2 a1 "java/util/ArrayList" := (Exa.wr W2 E1)
  have C_10 : Exa Z h2 o "java/lang/Integer" := (Exa.wr W2 Eo)
  refine own_callP X6 hx hZ (W := 0) hown e6 (rmHelp0 l Z a0 hw [] a1 o ed kd (mc + (1 : Int32)) h2 n0 (Nat.le_trans Z0 (Nat.le_of_eq W2.size.symm)) S_7 V_8 g_a1 C_9 Fw2 F_3 F_5 C_10) C_9 (hw _ (List.mem_of_getElem? (i := 114) rfl)) (hw _ (List.mem_of_getElem? (i := 115) rfl)) (hw _ (List.mem_of_getElem? (i := 117) rfl)) (hw _ (List.mem_of_getElem? (i := 116) rfl)) (hw _ (List.mem_of_getElem? (i := 118) rfl)) (hw _ (List.mem_of_getElem? (i := 9) rfl)) (by decide) (by decide) (by decide) (g := (mkF m 20 #[.val (.ref a1), .val (.ref o)] [(.int (0 : Int32)), (.ref ed), (.ref o), (.ref a1)])) rfl (by rw [hml]; rfl) (argsL := [(.ref o), (.ref ed), (.int (0 : Int32))]) (rest := []) rfl (lenOf pd_5 rfl) rfl (by show 2 * 0 + _ ≤ _; exact Nat.le_of_eq rfl) (hb hby d15_20) (by decide) (by decide) ?_
  intro v11 T11 L11 X11 hQ11
  obtain ⟨⟨gb, gk, rfl, szg, g_gb, Og, Vg, Cg, Fg1, Fg2, Fg3⟩, Nq11, Kq11⟩ := hQ11
  have N11 := Fr.app N2 Nq11
  have K11 : Keep h0 T11.heap [a1] := K2.trans Kq11 (allS (Or.inl (List.mem_of_getElem? (i := 0) rfl)) all0)
  have sz_gb : h0.size ≤ gb := Nat.le_trans K2.1 szg
  show OGo p e below _ T11 (mkF m 23 #[.val (.ref a1), .val (.ref o)] [])
  refine own_step (g' := (mkF m 24 #[.val (.ref a1), .val (.ref o)] [(.int (1 : Int32))])) (fun _ k => XS.iconst X11.here hx rfl (hb hby d15_23) k) ?_
  exact own_retN X11 hx (t := .boolean) hret (by simp) hlk (hb hby d15_24) rfl (by exact ⟨⟨_, _, rfl, sz_gb, g_gb, Og, Vg, Cg, Fg1, Fg2, Fg3⟩, N11, K11⟩) (by decide) (by decide)
set_option maxRecDepth 65536 in
set_option maxHeartbeats 40000000 in
theorem rmHelp1 (l : Launch) (Z : State) (a0 : Array Value) (hw : ∀ d ∈ tables_1, d.before a0 Z = true) (ws : List Jvm.Cond) (a1 o ea y0 : Addr) (kd : ClassId) (mc : Int32) (h0 : Heap) (n0 : Nat) (Z0 : n0 ≤ h0.size) (g_a1 : n0 ≤ a1) (g_ea : n0 ≤ ea) (Oe : Ovr Z kd "java/lang/Object") (Ve : Arv Z h0 ea kd (.object "java/lang/Object") (10 : Int32) [(.ref y0), .null, .null, .null, .null, .null, .null, .null, .null, .null] .null) (E1 : Exa Z h0 a1 "java/util/ArrayList") (Fm : Fld Z h0 a1 "java/util/AbstractList" "modCount" "I" (.int mc)) (Fe : Fld Z h0 a1 "java/util/ArrayList" "elementData" "[Ljava/lang/Object;" (.ref ea)) (Fs : Fld Z h0 a1 "java/util/ArrayList" "size" "I" (.int (1 : Int32))) (Eo : Exa Z h0 o "java/lang/Integer") :
    OMet l (⟨"java/util/ArrayList", "add", "(Ljava/lang/Object;[Ljava/lang/Object;I)V"⟩ : MethodName) jdk_38_method_24_code 4 none ws ({ frames := 0, cells := 0, slots := 0, locals := 0 } : Room) Z #[(.ref a1), (.ref o), (.ref ea), (.int (1 : Int32))] h0 (fun v h L => v = none ∧ Fr n0 L ∧ Keep h0 h [a1, ea] ∧ Arv Z h ea kd (.object "java/lang/Object") (10 : Int32) [(.ref y0), (.ref o), .null, .null, .null, .null, .null, .null, .null, .null] .null ∧ Exa Z h a1 "java/util/ArrayList" ∧ Fld Z h a1 "java/util/AbstractList" "modCount" "I" (.int mc) ∧ Fld Z h a1 "java/util/ArrayList" "elementData" "[Ljava/lang/Object;" (.ref ea) ∧ Fld Z h a1 "java/util/ArrayList" "size" "I" (.int (2 : Int32))) := by
  refine own_body (plainFor_of_name pn_2) ?_
  intro p e s m below meth cdx T0 X0 hx hZ hby hml hown hnm hret hlk e0
  have N0 := Fr.nil n0
  refine own_entry (g' := (mkF m 0 #[.val (.ref a1), .val (.ref o), .val (.ref ea), .val (.int (1 : Int32))] [])) (by first | rfl | (simp [entryFrame, mkF, argsToLocals, Value.category, maxLocals]; done)) ?_
  have KC0 := Keep.refl h0 [a1, ea]
  have ne_a1_ea : a1 ≠ ea := Exa.neArv E1 Ve (hw _ (List.mem_of_getElem? (i := 8) rfl))
  refine own_step (g' := (mkF m 1 #[.val (.ref a1), .val (.ref o), .val (.ref ea), .val (.int (1 : Int32))] [(.int (1 : Int32))])) (fun _ k => XS.iloadN X0.here hx rfl (hb hby d16_0) rfl k) ?_
  refine own_step (g' := (mkF m 2 #[.val (.ref a1), .val (.ref o), .val (.ref ea), .val (.int (1 : Int32))] [(.ref ea), (.int (1 : Int32))])) (fun _ k => XS.aloadN X0.here hx rfl (hb hby d16_1) rfl rfl k) ?_
  obtain ⟨cl1, Ar1, q1, S1, M1, H1, G1⟩ := id Ve
  refine own_step (g' := (mkF m 3 #[.val (.ref a1), .val (.ref o), .val (.ref ea), .val (.int (1 : Int32))] [(.int (10 : Int32)), (.int (1 : Int32))])) (own_len (len_of S1 M1) (X0.arraylength hx (by rw [e0]; exact Ar1.1) (State.isArrayOf_alike hZ.alike Ar1.2.1) (g := (mkF m 2 #[.val (.ref a1), .val (.ref o), .val (.ref ea), .val (.int (1 : Int32))] [(.ref ea), (.int (1 : Int32))])) rfl rfl (hb hby d16_2))) ?_
  refine own_step (g' := (mkF m 11 #[.val (.ref a1), .val (.ref o), .val (.ref ea), .val (.int (1 : Int32))] [])) (fun _ k => XS.icmpYes X0.here hx rfl (pc0 := 3) (pc' := 11) rfl (hb hby d16_3) rfl (feq (by decide : ¬ ((1 : Int32) = (10 : Int32)))).2 (by decide) (by decide) k) ?_
  refine own_step (g' := (mkF m 12 #[.val (.ref a1), .val (.ref o), .val (.ref ea), .val (.int (1 : Int32))] [(.ref ea)])) (fun _ k => XS.aloadN X0.here hx rfl (hb hby d16_11) rfl rfl k) ?_
  refine own_step (g' := (mkF m 13 #[.val (.ref a1), .val (.ref o), .val (.ref ea), .val (.int (1 : Int32))] [(.int (1 : Int32)), (.ref ea)])) (fun _ k => XS.iloadN X0.here hx rfl (hb hby d16_12) rfl k) ?_
  refine own_step (g' := (mkF m 14 #[.val (.ref a1), .val (.ref o), .val (.ref ea), .val (.int (1 : Int32))] [(.ref o), (.int (1 : Int32)), (.ref ea)])) (fun _ k => XS.aloadN X0.here hx rfl (hb hby d16_13) rfl rfl k) ?_
  obtain ⟨cl2, Ar2, q2, S2, M2, H2, G2⟩ := id Ve
  obtain ⟨T2, h2, X2, e2, W2, st2⟩ := stR X0 hx hZ e0 Ar2 (j := (1 : Int32)) (inb_of S2 ⟨by decide, by decide⟩) rfl (Sto.ofV Ar2 q2 Oe (Ins.of_exa Eo (hw _ (List.mem_of_getElem? (i := 135) rfl)))) (g := (mkF m 14 #[.val (.ref a1), .val (.ref o), .val (.ref ea), .val (.int (1 : Int32))] [(.ref o), (.int (1 : Int32)), (.ref ea)])) rfl rfl (hb hby d16_14)
  have V2 : Arv Z h2 ea kd (.object "java/lang/Object") (10 : Int32) [(.ref y0), (.ref o), .null, .null, .null, .null, .null, .null, .null, .null] .null := Arv.set Ar2 q2 S2 M2 H2 G2 rfl W2 1 rfl (Nat.le_of_ble_eq_true rfl)
  have N2 := Fr.snoc X2 N0 g_ea
  have K2 : Keep h0 h2 [a1, ea] := KC0.wr W2 (Or.inl (List.mem_of_getElem? (i := 1) rfl))
  refine own_via (g' := (mkF m 15 #[.val (.ref a1), .val (.ref o), .val (.ref ea), .val (.int (1 : Int32))] [])) st2 ?_
  refine own_step (g' := (mkF m 16 #[.val (.ref a1), .val (.ref o), .val (.ref ea), .val (.int (1 : Int32))] [(.ref a1)])) (fun _ k => XS.aloadN X2.here hx rfl (hb hby d16_15) rfl rfl k) ?_
  refine own_step (g' := (mkF m 17 #[.val (.ref a1), .val (.ref o), .val (.ref ea), .val (.int (1 : Int32))] [(.int (1 : Int32)), (.ref a1)])) (fun _ k => XS.iloadN X2.here hx rfl (hb hby d16_16) rfl k) ?_
  refine own_step (g' := (mkF m 18 #[.val (.ref a1), .val (.ref o), .val (.ref ea), .val (.int (1 : Int32))] [(.int (1 : Int32)), (.int (1 : Int32)), (.ref a1)])) (fun _ k => XS.iconst X2.here hx rfl (hb hby d16_17) k) ?_
  refine own_step (g' := (mkF m 19 #[.val (.ref a1), .val (.ref o), .val (.ref ea), .val (.int (1 : Int32))] [(.int (2 : Int32)), (.ref a1)])) (fun _ k => XS.iadd X2.here hx rfl (hb hby d16_18) rfl k) ?_
  have F_3 : Fld Z h2 a1 "java/util/ArrayList" "size" "I" (.int (1 : Int32)) := (Fld.other W2 Fs (Or.inl ne_a1_ea))
  have C_4 : Exa Z h2 a1 "java/util/ArrayList" := (Exa.wr W2 E1)
  obtain ⟨T5, h5, X5, e5, W5, st5⟩ := putF X2 hx hZ hown (host := "") (Or.inl (hw _ (List.mem_of_getElem? (i := 92) rfl))) Via.refl e2 F_3 C_4 (Or.inl (hw _ (List.mem_of_getElem? (i := 82) rfl))) (hw _ (List.mem_of_getElem? (i := 8) rfl)) (ty := .int) (by decide) rfl rfl (g := (mkF m 19 #[.val (.ref a1), .val (.ref o), .val (.ref ea), .val (.int (1 : Int32))] [(.int (2 : Int32)), (.ref a1)])) rfl rfl (hb hby d16_19)
  have Fw5 := Fld.same W5 F_3
  have N5 := Fr.snoc X5 N2 g_a1
  have K5 : Keep h0 h5 [a1, ea] := K2.wr W5 (Or.inl (List.mem_of_getElem? (i := 0) rfl))
  refine own_via (g' := (mkF m 22 #[.val (.ref a1), .val (.ref o), .val (.ref ea), .val (.int (1 : Int32))] [])) st5 ?_
  have V_6 : Arv Z h5 ea kd (.object "java/lang/Object") (10 : Int32) [(.ref y0), (.ref o), .null, .null, .null, .null, .null, .null, .null, .null] .null := (V2.other W5 (Ne.symm ne_a1_ea))
  have C_7 : Exa Z h5 a1 "java/util/ArrayList" := (Exa.wr W5 C_4)
  have F_8 : Fld Z h5 a1 "java/util/AbstractList" "modCount" "I" (.int mc) := (Fld.other W5 (Fld.other W2 Fm (Or.inl ne_a1_ea)) (Or.inr (slot_ne (Or.inl (hw _ (List.mem_of_getElem? (i := 29) rfl))) (Or.inl (hw _ (List.mem_of_getElem? (i := 82) rfl))) (by decide) (t := .int) (t' := .int) (by decide) (by decide))))
  have F_9 : Fld Z h5 a1 "java/util/ArrayList" "elementData" "[Ljava/lang/Object;" (.ref ea) := (Fld.other W5 (Fld.other W2 Fe (Or.inl ne_a1_ea)) (Or.inr (slot_ne (Or.inl (hw _ (List.mem_of_getElem? (i := 32) rfl))) (Or.inl (hw _ (List.mem_of_getElem? (i := 82) rfl))) (by decide) (t := (.array (.object "java/lang/Object"))) (t' := .int) (by decide) (by decide))))
  exact own_retV X5 hx hret hlk (hb hby d16_22) e5 (by exact ⟨rfl, N5, K5, V_6, C_7, F_8, F_9, Fw5⟩) (by decide) (by decide)
set_option maxRecDepth 65536 in
set_option maxHeartbeats 40000000 in
theorem rmAdd1 (l : Launch) (Z : State) (a0 : Array Value) (hw : ∀ d ∈ tables_1, d.before a0 Z = true) (ws : List Jvm.Cond) (a1 o ea y0 : Addr) (kd : ClassId) (mc : Int32) (h0 : Heap) (n0 : Nat) (Z0 : n0 ≤ h0.size) (g_a1 : n0 ≤ a1) (g_ea : n0 ≤ ea) (Oe : Ovr Z kd "java/lang/Object") (Ve : Arv Z h0 ea kd (.object "java/lang/Object") (10 : Int32) [(.ref y0), .null, .null, .null, .null, .null, .null, .null, .null, .null] .null) (E1 : Exa Z h0 a1 "java/util/ArrayList") (Fm : Fld Z h0 a1 "java/util/AbstractList" "modCount" "I" (.int mc)) (Fe : Fld Z h0 a1 "java/util/ArrayList" "elementData" "[Ljava/lang/Object;" (.ref ea)) (Fs : Fld Z h0 a1 "java/util/ArrayList" "size" "I" (.int (1 : Int32))) (Eo : Exa Z h0 o "java/lang/Integer") :
    OMet l (⟨"java/util/ArrayList", "add", "(Ljava/lang/Object;)Z"⟩ : MethodName) jdk_38_method_25_code 2 (some .boolean) ws ({ frames := 1, cells := 0, slots := 0, locals := 15 } : Room) Z #[(.ref a1), (.ref o)] h0 (fun v h L => v = some (.int (1 : Int32)) ∧ Fr n0 L ∧ Keep h0 h [a1, ea] ∧ Arv Z h ea kd (.object "java/lang/Object") (10 : Int32) [(.ref y0), (.ref o), .null, .null, .null, .null, .null, .null, .null, .null] .null ∧ Exa Z h a1 "java/util/ArrayList" ∧ Fld Z h a1 "java/util/AbstractList" "modCount" "I" (.int (mc + (1 : Int32))) ∧ Fld Z h a1 "java/util/ArrayList" "elementData" "[Ljava/lang/Object;" (.ref ea) ∧ Fld Z h a1 "java/util/ArrayList" "size" "I" (.int (2 : Int32))) := by
  refine own_body (plainFor_of_name pn_2) ?_
  intro p e s m below meth cdx T0 X0 hx hZ hby hml hown hnm hret hlk e0
  have N0 := Fr.nil n0
  refine own_entry (g' := (mkF m 0 #[.val (.ref a1), .val (.ref o)] [])) (by first | rfl | (simp [entryFrame, mkF, argsToLocals, Value.category, maxLocals]; done)) ?_
  have KC0 := Keep.refl h0 [a1, ea]
  have ne_a1_ea : a1 ≠ ea := Exa.neArv E1 Ve (hw _ (List.mem_of_getElem? (i := 8) rfl))
  refine own_step (g' := (mkF m 1 #[.val (.ref a1), .val (.ref o)] [(.ref a1)])) (fun _ k => XS.aloadN X0.here hx rfl (hb hby d15_0) rfl rfl k) ?_
  refine own_step (g' := (mkF m 2 #[.val (.ref a1), .val (.ref o)] [(.ref a1), (.ref a1)])) (fun _ k => XS.dup X0.here hx rfl (hb hby d15_1) rfl rfl k) ?_
  obtain ⟨T1, X1, e1, st1⟩ := getF X0 hx hZ hown (host := "") (Or.inl (hw _ (List.mem_of_getElem? (i := 113) rfl))) (Via.of (hw _ (List.mem_of_getElem? (i := 59) rfl))) e0 Fm (g := (mkF m 2 #[.val (.ref a1), .val (.ref o)] [(.ref a1), (.ref a1)])) rfl rfl (hb hby d15_2)
  refine own_via (g' := (mkF m 5 #[.val (.ref a1), .val (.ref o)] [(.int mc), (.ref a1)])) st1 ?_
  refine own_step (g' := (mkF m 6 #[.val (.ref a1), .val (.ref o)] [(.int (1 : Int32)), (.int mc), (.ref a1)])) (fun _ k => XS.iconst X1.here hx rfl (hb hby d15_5) k) ?_
  refine own_step (g' := (mkF m 7 #[.val (.ref a1), .val (.ref o)] [(.int (mc + (1 : Int32))), (.ref a1)])) (fun _ k => XS.iadd X1.here hx rfl (hb hby d15_6) rfl k) ?_
  obtain ⟨T2, h2, X2, e2, W2, st2⟩ := putF X1 hx hZ hown (host := "") (Or.inl (hw _ (List.mem_of_getElem? (i := 113) rfl))) (Via.of (hw _ (List.mem_of_getElem? (i := 59) rfl))) e1 Fm E1 (Or.inl (hw _ (List.mem_of_getElem? (i := 29) rfl))) (hw _ (List.mem_of_getElem? (i := 8) rfl)) (ty := .int) (by decide) rfl rfl (g := (mkF m 7 #[.val (.ref a1), .val (.ref o)] [(.int (mc + (1 : Int32))), (.ref a1)])) rfl rfl (hb hby d15_7)
  have Fw2 := Fld.same W2 Fm
  have N2 := Fr.snoc X2 N0 g_a1
  have K2 : Keep h0 h2 [a1, ea] := KC0.wr W2 (Or.inl (List.mem_of_getElem? (i := 0) rfl))
  refine own_via (g' := (mkF m 10 #[.val (.ref a1), .val (.ref o)] [])) st2 ?_
  refine own_step (g' := (mkF m 11 #[.val (.ref a1), .val (.ref o)] [(.ref a1)])) (fun _ k => XS.aloadN X2.here hx rfl (hb hby d15_10) rfl rfl k) ?_
  refine own_step (g' := (mkF m 12 #[.val (.ref a1), .val (.ref o)] [(.ref o), (.ref a1)])) (fun _ k => XS.aloadN X2.here hx rfl (hb hby d15_11) rfl rfl k) ?_
  refine own_step (g' := (mkF m 13 #[.val (.ref a1), .val (.ref o)] [(.ref a1), (.ref o), (.ref a1)])) (fun _ k => XS.aloadN X2.here hx rfl (hb hby d15_12) rfl rfl k) ?_
  have F_3 : Fld Z h2 a1 "java/util/ArrayList" "elementData" "[Ljava/lang/Object;" (.ref ea) := (Fld.other W2 Fe (Or.inr (slot_ne (Or.inl (hw _ (List.mem_of_getElem? (i := 32) rfl))) (Or.inl (hw _ (List.mem_of_getElem? (i := 29) rfl))) (by decide) (t := (.array (.object "java/lang/Object"))) (t' := .int) (by decide) (by decide))))
  obtain ⟨T4, X4, e4, st4⟩ := getF X2 hx hZ hown (host := "") (Or.inl (hw _ (List.mem_of_getElem? (i := 31) rfl))) Via.refl e2 F_3 (g := (mkF m 13 #[.val (.ref a1), .val (.ref o)] [(.ref a1), (.ref o), (.ref a1)])) rfl rfl (hb hby d15_13)
  refine own_via (g' := (mkF m 16 #[.val (.ref a1), .val (.ref o)] [(.ref ea), (.ref o), (.ref a1)])) st4 ?_
  refine own_step (g' := (mkF m 17 #[.val (.ref a1), .val (.ref o)] [(.ref a1), (.ref ea), (.ref o), (.ref a1)])) (fun _ k => XS.aloadN X4.here hx rfl (hb hby d15_16) rfl rfl k) ?_
  have F_5 : Fld Z h2 a1 "java/util/ArrayList" "size" "I" (.int (1 : Int32)) := (Fld.other W2 Fs (Or.inr (slot_ne (Or.inl (hw _ (List.mem_of_getElem? (i := 82) rfl))) (Or.inl (hw _ (List.mem_of_getElem? (i := 29) rfl))) (by decide) (t := .int) (t' := .int) (by decide) (by decide))))
  obtain ⟨T6, X6, e6, st6⟩ := getF X4 hx hZ hown (host := "") (Or.inl (hw _ (List.mem_of_getElem? (i := 92) rfl))) Via.refl e4 F_5 (g := (mkF m 17 #[.val (.ref a1), .val (.ref o)] [(.ref a1), (.ref ea), (.ref o), (.ref a1)])) rfl rfl (hb hby d15_17)
  refine own_via (g' := (mkF m 20 #[.val (.ref a1), .val (.ref o)] [(.int (1 : Int32)), (.ref ea), (.ref o), (.ref a1)])) st6 ?_
  have V_7 : Arv Z h2 ea kd (.object "java/lang/Object") (10 : Int32) [(.ref y0), .null, .null, .null, .null, .null, .null, .null, .null, .null] .null := (Ve.other W2 (Ne.symm ne_a1_ea))
  have C_8 : Exa Z h2 a1 "java/util/ArrayList" := (Exa.wr W2 E1)
  have C_9 : Exa Z h2 o "java/lang/Integer" := (Exa.wr W2 Eo)
  refine own_callP X6 hx hZ (W := 0) hown e6 (rmHelp1 l Z a0 hw [] a1 o ea y0 kd (mc + (1 : Int32)) h2 n0 (Nat.le_trans Z0 (Nat.le_of_eq W2.size.symm)) g_a1 g_ea Oe V_7 C_8 Fw2 F_3 F_5 C_9) C_8 (hw _ (List.mem_of_getElem? (i := 114) rfl)) (hw _ (List.mem_of_getElem? (i := 115) rfl)) (hw _ (List.mem_of_getElem? (i := 117) rfl)) (hw _ (List.mem_of_getElem? (i := 116) rfl)) (hw _ (List.mem_of_getElem? (i := 118) rfl)) (hw _ (List.mem_of_getElem? (i := 9) rfl)) (by decide) (by decide) (by decide) (g := (mkF m 20 #[.val (.ref a1), .val (.ref o)] [(.int (1 : Int32)), (.ref ea), (.ref o), (.ref a1)])) rfl (by rw [hml]; rfl) (argsL := [(.ref o), (.ref ea), (.int (1 : Int32))]) (rest := []) rfl (lenOf pd_5 rfl) rfl (by show 2 * 0 + _ ≤ _; exact Nat.le_of_eq rfl) (hb hby d15_20) (by decide) (by decide) ?_
  intro v10 T10 L10 X10 hQ10
  obtain ⟨rfl, Nq10, Kq10, Vg, Cg, Fg1, Fg2, Fg3⟩ := hQ10
  have N10 := Fr.app N2 Nq10
  have K10 : Keep h0 T10.heap [a1, ea] := K2.trans Kq10 (allS (Or.inl (List.mem_of_getElem? (i := 0) rfl)) (allS (Or.inl (List.mem_of_getElem? (i := 1) rfl)) all0))
  show OGo p e below _ T10 (mkF m 23 #[.val (.ref a1), .val (.ref o)] [])
  refine own_step (g' := (mkF m 24 #[.val (.ref a1), .val (.ref o)] [(.int (1 : Int32))])) (fun _ k => XS.iconst X10.here hx rfl (hb hby d15_23) k) ?_
  exact own_retN X10 hx (t := .boolean) hret (by simp) hlk (hb hby d15_24) rfl (by exact ⟨rfl, N10, K10, Vg, Cg, Fg1, Fg2, Fg3⟩) (by decide) (by decide)
set_option maxRecDepth 65536 in
set_option maxHeartbeats 40000000 in
theorem rmHelp2 (l : Launch) (Z : State) (a0 : Array Value) (hw : ∀ d ∈ tables_1, d.before a0 Z = true) (ws : List Jvm.Cond) (a1 o ea y0 y1 : Addr) (kd : ClassId) (mc : Int32) (h0 : Heap) (n0 : Nat) (Z0 : n0 ≤ h0.size) (g_a1 : n0 ≤ a1) (g_ea : n0 ≤ ea) (Oe : Ovr Z kd "java/lang/Object") (Ve : Arv Z h0 ea kd (.object "java/lang/Object") (10 : Int32) [(.ref y0), (.ref y1), .null, .null, .null, .null, .null, .null, .null, .null] .null) (E1 : Exa Z h0 a1 "java/util/ArrayList") (Fm : Fld Z h0 a1 "java/util/AbstractList" "modCount" "I" (.int mc)) (Fe : Fld Z h0 a1 "java/util/ArrayList" "elementData" "[Ljava/lang/Object;" (.ref ea)) (Fs : Fld Z h0 a1 "java/util/ArrayList" "size" "I" (.int (2 : Int32))) (Eo : Exa Z h0 o "java/lang/Integer") :
    OMet l (⟨"java/util/ArrayList", "add", "(Ljava/lang/Object;[Ljava/lang/Object;I)V"⟩ : MethodName) jdk_38_method_24_code 4 none ws ({ frames := 0, cells := 0, slots := 0, locals := 0 } : Room) Z #[(.ref a1), (.ref o), (.ref ea), (.int (2 : Int32))] h0 (fun v h L => v = none ∧ Fr n0 L ∧ Keep h0 h [a1, ea] ∧ Arv Z h ea kd (.object "java/lang/Object") (10 : Int32) [(.ref y0), (.ref y1), (.ref o), .null, .null, .null, .null, .null, .null, .null] .null ∧ Exa Z h a1 "java/util/ArrayList" ∧ Fld Z h a1 "java/util/AbstractList" "modCount" "I" (.int mc) ∧ Fld Z h a1 "java/util/ArrayList" "elementData" "[Ljava/lang/Object;" (.ref ea) ∧ Fld Z h a1 "java/util/ArrayList" "size" "I" (.int (3 : Int32))) := by
  refine own_body (plainFor_of_name pn_2) ?_
  intro p e s m below meth cdx T0 X0 hx hZ hby hml hown hnm hret hlk e0
  have N0 := Fr.nil n0
  refine own_entry (g' := (mkF m 0 #[.val (.ref a1), .val (.ref o), .val (.ref ea), .val (.int (2 : Int32))] [])) (by first | rfl | (simp [entryFrame, mkF, argsToLocals, Value.category, maxLocals]; done)) ?_
  have KC0 := Keep.refl h0 [a1, ea]
  have ne_a1_ea : a1 ≠ ea := Exa.neArv E1 Ve (hw _ (List.mem_of_getElem? (i := 8) rfl))
  refine own_step (g' := (mkF m 1 #[.val (.ref a1), .val (.ref o), .val (.ref ea), .val (.int (2 : Int32))] [(.int (2 : Int32))])) (fun _ k => XS.iloadN X0.here hx rfl (hb hby d16_0) rfl k) ?_
  refine own_step (g' := (mkF m 2 #[.val (.ref a1), .val (.ref o), .val (.ref ea), .val (.int (2 : Int32))] [(.ref ea), (.int (2 : Int32))])) (fun _ k => XS.aloadN X0.here hx rfl (hb hby d16_1) rfl rfl k) ?_
  obtain ⟨cl1, Ar1, q1, S1, M1, H1, G1⟩ := id Ve
  refine own_step (g' := (mkF m 3 #[.val (.ref a1), .val (.ref o), .val (.ref ea), .val (.int (2 : Int32))] [(.int (10 : Int32)), (.int (2 : Int32))])) (own_len (len_of S1 M1) (X0.arraylength hx (by rw [e0]; exact Ar1.1) (State.isArrayOf_alike hZ.alike Ar1.2.1) (g := (mkF m 2 #[.val (.ref a1), .val (.ref o), .val (.ref ea), .val (.int (2 : Int32))] [(.ref ea), (.int (2 : Int32))])) rfl rfl (hb hby d16_2))) ?_
  refine own_step (g' := (mkF m 11 #[.val (.ref a1), .val (.ref o), .val (.ref ea), .val (.int (2 : Int32))] [])) (fun _ k => XS.icmpYes X0.here hx rfl (pc0 := 3) (pc' := 11) rfl (hb hby d16_3) rfl (feq (by decide : ¬ ((2 : Int32) = (10 : Int32)))).2 (by decide) (by decide) k) ?_
  refine own_step (g' := (mkF m 12 #[.val (.ref a1), .val (.ref o), .val (.ref ea), .val (.int (2 : Int32))] [(.ref ea)])) (fun _ k => XS.aloadN X0.here hx rfl (hb hby d16_11) rfl rfl k) ?_
  refine own_step (g' := (mkF m 13 #[.val (.ref a1), .val (.ref o), .val (.ref ea), .val (.int (2 : Int32))] [(.int (2 : Int32)), (.ref ea)])) (fun _ k => XS.iloadN X0.here hx rfl (hb hby d16_12) rfl k) ?_
  refine own_step (g' := (mkF m 14 #[.val (.ref a1), .val (.ref o), .val (.ref ea), .val (.int (2 : Int32))] [(.ref o), (.int (2 : Int32)), (.ref ea)])) (fun _ k => XS.aloadN X0.here hx rfl (hb hby d16_13) rfl rfl k) ?_
  obtain ⟨cl2, Ar2, q2, S2, M2, H2, G2⟩ := id Ve
  obtain ⟨T2, h2, X2, e2, W2, st2⟩ := stR X0 hx hZ e0 Ar2 (j := (2 : Int32)) (inb_of S2 ⟨by decide, by decide⟩) rfl (Sto.ofV Ar2 q2 Oe (Ins.of_exa Eo (hw _ (List.mem_of_getElem? (i := 135) rfl)))) (g := (mkF m 14 #[.val (.ref a1), .val (.ref o), .val (.ref ea), .val (.int (2 : Int32))] [(.ref o), (.int (2 : Int32)), (.ref ea)])) rfl rfl (hb hby d16_14)
  have V2 : Arv Z h2 ea kd (.object "java/lang/Object") (10 : Int32) [(.ref y0), (.ref y1), (.ref o), .null, .null, .null, .null, .null, .null, .null] .null := Arv.set Ar2 q2 S2 M2 H2 G2 rfl W2 2 rfl (Nat.le_of_ble_eq_true rfl)
  have N2 := Fr.snoc X2 N0 g_ea
  have K2 : Keep h0 h2 [a1, ea] := KC0.wr W2 (Or.inl (List.mem_of_getElem? (i := 1) rfl))
  refine own_via (g' := (mkF m 15 #[.val (.ref a1), .val (.ref o), .val (.ref ea), .val (.int (2 : Int32))] [])) st2 ?_
  refine own_step (g' := (mkF m 16 #[.val (.ref a1), .val (.ref o), .val (.ref ea), .val (.int (2 : Int32))] [(.ref a1)])) (fun _ k => XS.aloadN X2.here hx rfl (hb hby d16_15) rfl rfl k) ?_
  refine own_step (g' := (mkF m 17 #[.val (.ref a1), .val (.ref o), .val (.ref ea), .val (.int (2 : Int32))] [(.int (2 : Int32)), (.ref a1)])) (fun _ k => XS.iloadN X2.here hx rfl (hb hby d16_16) rfl k) ?_
  refine own_step (g' := (mkF m 18 #[.val (.ref a1), .val (.ref o), .val (.ref ea), .val (.int (2 : Int32))] [(.int (1 : Int32)), (.int (2 : Int32)), (.ref a1)])) (fun _ k => XS.iconst X2.here hx rfl (hb hby d16_17) k) ?_
  refine own_step (g' := (mkF m 19 #[.val (.ref a1), .val (.ref o), .val (.ref ea), .val (.int (2 : Int32))] [(.int (3 : Int32)), (.ref a1)])) (fun _ k => XS.iadd X2.here hx rfl (hb hby d16_18) rfl k) ?_
  have F_3 : Fld Z h2 a1 "java/util/ArrayList" "size" "I" (.int (2 : Int32)) := (Fld.other W2 Fs (Or.inl ne_a1_ea))
  have C_4 : Exa Z h2 a1 "java/util/ArrayList" := (Exa.wr W2 E1)
  obtain ⟨T5, h5, X5, e5, W5, st5⟩ := putF X2 hx hZ hown (host := "") (Or.inl (hw _ (List.mem_of_getElem? (i := 92) rfl))) Via.refl e2 F_3 C_4 (Or.inl (hw _ (List.mem_of_getElem? (i := 82) rfl))) (hw _ (List.mem_of_getElem? (i := 8) rfl)) (ty := .int) (by decide) rfl rfl (g := (mkF m 19 #[.val (.ref a1), .val (.ref o), .val (.ref ea), .val (.int (2 : Int32))] [(.int (3 : Int32)), (.ref a1)])) rfl rfl (hb hby d16_19)
  have Fw5 := Fld.same W5 F_3
  have N5 := Fr.snoc X5 N2 g_a1
  have K5 : Keep h0 h5 [a1, ea] := K2.wr W5 (Or.inl (List.mem_of_getElem? (i := 0) rfl))
  refine own_via (g' := (mkF m 22 #[.val (.ref a1), .val (.ref o), .val (.ref ea), .val (.int (2 : Int32))] [])) st5 ?_
  have V_6 : Arv Z h5 ea kd (.object "java/lang/Object") (10 : Int32) [(.ref y0), (.ref y1), (.ref o), .null, .null, .null, .null, .null, .null, .null] .null := (V2.other W5 (Ne.symm ne_a1_ea))
  have C_7 : Exa Z h5 a1 "java/util/ArrayList" := (Exa.wr W5 C_4)
  have F_8 : Fld Z h5 a1 "java/util/AbstractList" "modCount" "I" (.int mc) := (Fld.other W5 (Fld.other W2 Fm (Or.inl ne_a1_ea)) (Or.inr (slot_ne (Or.inl (hw _ (List.mem_of_getElem? (i := 29) rfl))) (Or.inl (hw _ (List.mem_of_getElem? (i := 82) rfl))) (by decide) (t := .int) (t' := .int) (by decide) (by decide))))
  have F_9 : Fld Z h5 a1 "java/util/ArrayList" "elementData" "[Ljava/lang/Object;" (.ref ea) := (Fld.other W5 (Fld.other W2 Fe (Or.inl ne_a1_ea)) (Or.inr (slot_ne (Or.inl (hw _ (List.mem_of_getElem? (i := 32) rfl))) (Or.inl (hw _ (List.mem_of_getElem? (i := 82) rfl))) (by decide) (t := (.array (.object "java/lang/Object"))) (t' := .int) (by decide) (by decide))))
  exact own_retV X5 hx hret hlk (hb hby d16_22) e5 (by exact ⟨rfl, N5, K5, V_6, C_7, F_8, F_9, Fw5⟩) (by decide) (by decide)
set_option maxRecDepth 65536 in
set_option maxHeartbeats 40000000 in
theorem rmAdd2 (l : Launch) (Z : State) (a0 : Array Value) (hw : ∀ d ∈ tables_1, d.before a0 Z = true) (ws : List Jvm.Cond) (a1 o ea y0 y1 : Addr) (kd : ClassId) (mc : Int32) (h0 : Heap) (n0 : Nat) (Z0 : n0 ≤ h0.size) (g_a1 : n0 ≤ a1) (g_ea : n0 ≤ ea) (Oe : Ovr Z kd "java/lang/Object") (Ve : Arv Z h0 ea kd (.object "java/lang/Object") (10 : Int32) [(.ref y0), (.ref y1), .null, .null, .null, .null, .null, .null, .null, .null] .null) (E1 : Exa Z h0 a1 "java/util/ArrayList") (Fm : Fld Z h0 a1 "java/util/AbstractList" "modCount" "I" (.int mc)) (Fe : Fld Z h0 a1 "java/util/ArrayList" "elementData" "[Ljava/lang/Object;" (.ref ea)) (Fs : Fld Z h0 a1 "java/util/ArrayList" "size" "I" (.int (2 : Int32))) (Eo : Exa Z h0 o "java/lang/Integer") :
    OMet l (⟨"java/util/ArrayList", "add", "(Ljava/lang/Object;)Z"⟩ : MethodName) jdk_38_method_25_code 2 (some .boolean) ws ({ frames := 1, cells := 0, slots := 0, locals := 15 } : Room) Z #[(.ref a1), (.ref o)] h0 (fun v h L => v = some (.int (1 : Int32)) ∧ Fr n0 L ∧ Keep h0 h [a1, ea] ∧ Arv Z h ea kd (.object "java/lang/Object") (10 : Int32) [(.ref y0), (.ref y1), (.ref o), .null, .null, .null, .null, .null, .null, .null] .null ∧ Exa Z h a1 "java/util/ArrayList" ∧ Fld Z h a1 "java/util/AbstractList" "modCount" "I" (.int (mc + (1 : Int32))) ∧ Fld Z h a1 "java/util/ArrayList" "elementData" "[Ljava/lang/Object;" (.ref ea) ∧ Fld Z h a1 "java/util/ArrayList" "size" "I" (.int (3 : Int32))) := by
  refine own_body (plainFor_of_name pn_2) ?_
  intro p e s m below meth cdx T0 X0 hx hZ hby hml hown hnm hret hlk e0
  have N0 := Fr.nil n0
  refine own_entry (g' := (mkF m 0 #[.val (.ref a1), .val (.ref o)] [])) (by first | rfl | (simp [entryFrame, mkF, argsToLocals, Value.category, maxLocals]; done)) ?_
  have KC0 := Keep.refl h0 [a1, ea]
  have ne_a1_ea : a1 ≠ ea := Exa.neArv E1 Ve (hw _ (List.mem_of_getElem? (i := 8) rfl))
  refine own_step (g' := (mkF m 1 #[.val (.ref a1), .val (.ref o)] [(.ref a1)])) (fun _ k => XS.aloadN X0.here hx rfl (hb hby d15_0) rfl rfl k) ?_
  refine own_step (g' := (mkF m 2 #[.val (.ref a1), .val (.ref o)] [(.ref a1), (.ref a1)])) (fun _ k => XS.dup X0.here hx rfl (hb hby d15_1) rfl rfl k) ?_
  obtain ⟨T1, X1, e1, st1⟩ := getF X0 hx hZ hown (host := "") (Or.inl (hw _ (List.mem_of_getElem? (i := 113) rfl))) (Via.of (hw _ (List.mem_of_getElem? (i := 59) rfl))) e0 Fm (g := (mkF m 2 #[.val (.ref a1), .val (.ref o)] [(.ref a1), (.ref a1)])) rfl rfl (hb hby d15_2)
  refine own_via (g' := (mkF m 5 #[.val (.ref a1), .val (.ref o)] [(.int mc), (.ref a1)])) st1 ?_
  refine own_step (g' := (mkF m 6 #[.val (.ref a1), .val (.ref o)] [(.int (1 : Int32)), (.int mc), (.ref a1)])) (fun _ k => XS.iconst X1.here hx rfl (hb hby d15_5) k) ?_
  refine own_step (g' := (mkF m 7 #[.val (.ref a1), .val (.ref o)] [(.int (mc + (1 : Int32))), (.ref a1)])) (fun _ k => XS.iadd X1.here hx rfl (hb hby d15_6) rfl k) ?_
  obtain ⟨T2, h2, X2, e2, W2, st2⟩ := putF X1 hx hZ hown (host := "") (Or.inl (hw _ (List.mem_of_getElem? (i := 113) rfl))) (Via.of (hw _ (List.mem_of_getElem? (i := 59) rfl))) e1 Fm E1 (Or.inl (hw _ (List.mem_of_getElem? (i := 29) rfl))) (hw _ (List.mem_of_getElem? (i := 8) rfl)) (ty := .int) (by decide) rfl rfl (g := (mkF m 7 #[.val (.ref a1), .val (.ref o)] [(.int (mc + (1 : Int32))), (.ref a1)])) rfl rfl (hb hby d15_7)
  have Fw2 := Fld.same W2 Fm
  have N2 := Fr.snoc X2 N0 g_a1
  have K2 : Keep h0 h2 [a1, ea] := KC0.wr W2 (Or.inl (List.mem_of_getElem? (i := 0) rfl))
  refine own_via (g' := (mkF m 10 #[.val (.ref a1), .val (.ref o)] [])) st2 ?_
  refine own_step (g' := (mkF m 11 #[.val (.ref a1), .val (.ref o)] [(.ref a1)])) (fun _ k => XS.aloadN X2.here hx rfl (hb hby d15_10) rfl rfl k) ?_
  refine own_step (g' := (mkF m 12 #[.val (.ref a1), .val (.ref o)] [(.ref o), (.ref a1)])) (fun _ k => XS.aloadN X2.here hx rfl (hb hby d15_11) rfl rfl k) ?_
  refine own_step (g' := (mkF m 13 #[.val (.ref a1), .val (.ref o)] [(.ref a1), (.ref o), (.ref a1)])) (fun _ k => XS.aloadN X2.here hx rfl (hb hby d15_12) rfl rfl k) ?_
  have F_3 : Fld Z h2 a1 "java/util/ArrayList" "elementData" "[Ljava/lang/Object;" (.ref ea) := (Fld.other W2 Fe (Or.inr (slot_ne (Or.inl (hw _ (List.mem_of_getElem? (i := 32) rfl))) (Or.inl (hw _ (List.mem_of_getElem? (i := 29) rfl))) (by decide) (t := (.array (.object "java/lang/Object"))) (t' := .int) (by decide) (by decide))))
  obtain ⟨T4, X4, e4, st4⟩ := getF X2 hx hZ hown (host := "") (Or.inl (hw _ (List.mem_of_getElem? (i := 31) rfl))) Via.refl e2 F_3 (g := (mkF m 13 #[.val (.ref a1), .val (.ref o)] [(.ref a1), (.ref o), (.ref a1)])) rfl rfl (hb hby d15_13)
  refine own_via (g' := (mkF m 16 #[.val (.ref a1), .val (.ref o)] [(.ref ea), (.ref o), (.ref a1)])) st4 ?_
  refine own_step (g' := (mkF m 17 #[.val (.ref a1), .val (.ref o)] [(.ref a1), (.ref ea), (.ref o), (.ref a1)])) (fun _ k => XS.aloadN X4.here hx rfl (hb hby d15_16) rfl rfl k) ?_
  have F_5 : Fld Z h2 a1 "java/util/ArrayList" "size" "I" (.int (2 : Int32)) := (Fld.other W2 Fs (Or.inr (slot_ne (Or.inl (hw _ (List.mem_of_getElem? (i := 82) rfl))) (Or.inl (hw _ (List.mem_of_getElem? (i := 29) rfl))) (by decide) (t := .int) (t' := .int) (by decide) (by decide))))
  obtain ⟨T6, X6, e6, st6⟩ := getF X4 hx hZ hown (host := "") (Or.inl (hw _ (List.mem_of_getElem? (i := 92) rfl))) Via.refl e4 F_5 (g := (mkF m 17 #[.val (.ref a1), .val (.ref o)] [(.ref a1), (.ref ea), (.ref o), (.ref a1)])) rfl rfl (hb hby d15_17)
  refine own_via (g' := (mkF m 20 #[.val (.ref a1), .val (.ref o)] [(.int (2 : Int32)), (.ref ea), (.ref o), (.ref a1)])) st6 ?_
  have V_7 : Arv Z h2 ea kd (.object "java/lang/Object") (10 : Int32) [(.ref y0), (.ref y1), .null, .null, .null, .null, .null, .null, .null, .null] .null := (Ve.other W2 (Ne.symm ne_a1_ea))
  have C_8 : Exa Z h2 a1 "java/util/ArrayList" := (Exa.wr W2 E1)
  have C_9 : Exa Z h2 o "java/lang/Integer" := (Exa.wr W2 Eo)
  refine own_callP X6 hx hZ (W := 0) hown e6 (rmHelp2 l Z a0 hw [] a1 o ea y0 y1 kd (mc + (1 : Int32)) h2 n0 (Nat.le_trans Z0 (Nat.le_of_eq W2.size.symm)) g_a1 g_ea Oe V_7 C_8 Fw2 F_3 F_5 C_9) C_8 (hw _ (List.mem_of_getElem? (i := 114) rfl)) (hw _ (List.mem_of_getElem? (i := 115) rfl)) (hw _ (List.mem_of_getElem? (i := 117) rfl)) (hw _ (List.mem_of_getElem? (i := 116) rfl)) (hw _ (List.mem_of_getElem? (i := 118) rfl)) (hw _ (List.mem_of_getElem? (i := 9) rfl)) (by decide) (by decide) (by decide) (g := (mkF m 20 #[.val (.ref a1), .val (.ref o)] [(.int (2 : Int32)), (.ref ea), (.ref o), (.ref a1)])) rfl (by rw [hml]; rfl) (argsL := [(.ref o), (.ref ea), (.int (2 : Int32))]) (rest := []) rfl (lenOf pd_5 rfl) rfl (by show 2 * 0 + _ ≤ _; exact Nat.le_of_eq rfl) (hb hby d15_20) (by decide) (by decide) ?_
  intro v10 T10 L10 X10 hQ10
  obtain ⟨rfl, Nq10, Kq10, Vg, Cg, Fg1, Fg2, Fg3⟩ := hQ10
  have N10 := Fr.app N2 Nq10
  have K10 : Keep h0 T10.heap [a1, ea] := K2.trans Kq10 (allS (Or.inl (List.mem_of_getElem? (i := 0) rfl)) (allS (Or.inl (List.mem_of_getElem? (i := 1) rfl)) all0))
  show OGo p e below _ T10 (mkF m 23 #[.val (.ref a1), .val (.ref o)] [])
  refine own_step (g' := (mkF m 24 #[.val (.ref a1), .val (.ref o)] [(.int (1 : Int32))])) (fun _ k => XS.iconst X10.here hx rfl (hb hby d15_23) k) ?_
  exact own_retN X10 hx (t := .boolean) hret (by simp) hlk (hb hby d15_24) rfl (by exact ⟨rfl, N10, K10, Vg, Cg, Fg1, Fg2, Fg3⟩) (by decide) (by decide)
theorem d12_0 : decode jdk_38_method_8_code 0 = .ok (.aload_n 0, 1) := by decide +kernel
theorem d12_1 : decode jdk_38_method_8_code 1 = .ok (.getfield 48, 3) := by decide +kernel
theorem d12_4 : decode jdk_38_method_8_code 4 = .ok (.ireturn, 1) := by decide +kernel
set_option maxRecDepth 65536 in
set_option maxHeartbeats 40000000 in
theorem rmSize (l : Launch) (Z : State) (a0 : Array Value) (hw : ∀ d ∈ tables_1, d.before a0 Z = true) (ws : List Jvm.Cond) (a1 : Addr) (n : Int32) (h0 : Heap) (n0 : Nat) (Z0 : n0 ≤ h0.size) (Fs : Fld Z h0 a1 "java/util/ArrayList" "size" "I" (.int n)) :
    OMet l (⟨"java/util/ArrayList", "size", "()I"⟩ : MethodName) jdk_38_method_8_code 1 (some .int) ws ({ frames := 0, cells := 0, slots := 0, locals := 0 } : Room) Z #[(.ref a1)] h0 (fun v h L => v = some (.int n) ∧ L = [] ∧ h = h0) := by
  refine own_body (plainFor_of_name pn_2) ?_
  intro p e s m below meth cdx T0 X0 hx hZ hby hml hown hnm hret hlk e0
  have N0 := Fr.nil n0
  refine own_entry (g' := (mkF m 0 #[.val (.ref a1)] [])) (by first | rfl | (simp [entryFrame, mkF, argsToLocals, Value.category, maxLocals]; done)) ?_
  refine own_step (g' := (mkF m 1 #[.val (.ref a1)] [(.ref a1)])) (fun _ k => XS.aloadN X0.here hx rfl (hb hby d12_0) rfl rfl k) ?_
  obtain ⟨T1, X1, e1, st1⟩ := getF X0 hx hZ hown (host := "") (Or.inl (hw _ (List.mem_of_getElem? (i := 92) rfl))) Via.refl e0 Fs (g := (mkF m 1 #[.val (.ref a1)] [(.ref a1)])) rfl rfl (hb hby d12_1)
  refine own_via (g' := (mkF m 4 #[.val (.ref a1)] [(.int n)])) st1 ?_
  exact own_retI X1 hx hret hlk (hb hby d12_4) e1 (by exact ⟨rfl, rfl, rfl⟩) (by decide) (by decide)
theorem d8_0 : decode jdk_49_method_1_code 0 = .ok (.aload_n 0, 1) := by decide +kernel
theorem d8_1 : decode jdk_49_method_1_code 1 = .ok (.aload_n 1, 1) := by decide +kernel
theorem d8_2 : decode jdk_49_method_1_code 2 = .ok (.putfield 1, 3) := by decide +kernel
theorem d8_5 : decode jdk_49_method_1_code 5 = .ok (.aload_n 0, 1) := by decide +kernel
theorem d8_6 : decode jdk_49_method_1_code 6 = .ok (.invokespecial 7, 3) := by decide +kernel
theorem d8_9 : decode jdk_49_method_1_code 9 = .ok (.aload_n 0, 1) := by decide +kernel
theorem d8_10 : decode jdk_49_method_1_code 10 = .ok (.iconst (-1), 1) := by decide +kernel
theorem d8_11 : decode jdk_49_method_1_code 11 = .ok (.putfield 13, 3) := by decide +kernel
theorem d8_14 : decode jdk_49_method_1_code 14 = .ok (.aload_n 0, 1) := by decide +kernel
theorem d8_15 : decode jdk_49_method_1_code 15 = .ok (.aload_n 0, 1) := by decide +kernel
theorem d8_16 : decode jdk_49_method_1_code 16 = .ok (.getfield 1, 3) := by decide +kernel
theorem d8_19 : decode jdk_49_method_1_code 19 = .ok (.getfield 17, 3) := by decide +kernel
theorem d8_22 : decode jdk_49_method_1_code 22 = .ok (.putfield 22, 3) := by decide +kernel
theorem d8_25 : decode jdk_49_method_1_code 25 = .ok (.return_, 1) := by decide +kernel
theorem pn_8 : plainName "java/util/ArrayList$Itr" = true := by first | (simp [plainName, overriddenIn]; done) | decide +kernel
set_option maxRecDepth 65536 in
set_option maxHeartbeats 40000000 in
theorem rmItI (l : Launch) (Z : State) (a0 : Array Value) (hw : ∀ d ∈ tables_1, d.before a0 Z = true) (ws : List Jvm.Cond) (a1 b2 : Addr) (mc : Int32) (h0 : Heap) (n0 : Nat) (Z0 : n0 ≤ h0.size) (g_a1 : n0 ≤ a1) (E1 : Exa Z h0 a1 "java/util/ArrayList$Itr") (E2 : Exa Z h0 b2 "java/util/ArrayList") (Fm : Fld Z h0 b2 "java/util/AbstractList" "modCount" "I" (.int mc)) (F1 : Fld Z h0 a1 "java/util/ArrayList$Itr" "this$0" "Ljava/util/ArrayList;" .null) (F2 : Fld Z h0 a1 "java/util/ArrayList$Itr" "cursor" "I" (.int (0 : Int32))) (F3 : Fld Z h0 a1 "java/util/ArrayList$Itr" "lastRet" "I" (.int (0 : Int32))) (F4 : Fld Z h0 a1 "java/util/ArrayList$Itr" "expectedModCount" "I" (.int (0 : Int32))) :
    OMet l (⟨"java/util/ArrayList$Itr", "<init>", "(Ljava/util/ArrayList;)V"⟩ : MethodName) jdk_49_method_1_code 2 none ws ({ frames := 1, cells := 0, slots := 0, locals := 12 } : Room) Z #[(.ref a1), (.ref b2)] h0 (fun v h L => v = none ∧ Fr n0 L ∧ Keep h0 h [a1] ∧ Exa Z h a1 "java/util/ArrayList$Itr" ∧ Fld Z h a1 "java/util/ArrayList$Itr" "this$0" "Ljava/util/ArrayList;" (.ref b2) ∧ Fld Z h a1 "java/util/ArrayList$Itr" "cursor" "I" (.int (0 : Int32)) ∧ Fld Z h a1 "java/util/ArrayList$Itr" "lastRet" "I" (.int (-1 : Int32)) ∧ Fld Z h a1 "java/util/ArrayList$Itr" "expectedModCount" "I" (.int mc)) := by
  refine own_body (plainFor_of_name pn_8) ?_
  intro p e s m below meth cdx T0 X0 hx hZ hby hml hown hnm hret hlk e0
  have N0 := Fr.nil n0
  refine own_entry (g' := (mkF m 0 #[.val (.ref a1), .val (.ref b2)] [])) (by first | rfl | (simp [entryFrame, mkF, argsToLocals, Value.category, maxLocals]; done)) ?_
  have KC0 := Keep.refl h0 [a1]
  have ne_a1_b2 : a1 ≠ b2 := Exa.ne E1 E2 (by decide)
  refine own_step (g' := (mkF m 1 #[.val (.ref a1), .val (.ref b2)] [(.ref a1)])) (fun _ k => XS.aloadN X0.here hx rfl (hb hby d8_0) rfl rfl k) ?_
  refine own_step (g' := (mkF m 2 #[.val (.ref a1), .val (.ref b2)] [(.ref b2), (.ref a1)])) (fun _ k => XS.aloadN X0.here hx rfl (hb hby d8_1) rfl rfl k) ?_
  obtain ⟨T1, h1, X1, e1, W1, st1⟩ := putF X0 hx hZ hown (host := "") (Or.inl (hw _ (List.mem_of_getElem? (i := 53) rfl))) Via.refl e0 F1 E1 (Or.inr ⟨(hw _ (List.mem_of_getElem? (i := 54) rfl)), rfl, hnm⟩) (hw _ (List.mem_of_getElem? (i := 47) rfl)) (ty := (.object "java/util/ArrayList")) (by decide) rfl rfl (g := (mkF m 2 #[.val (.ref a1), .val (.ref b2)] [(.ref b2), (.ref a1)])) rfl rfl (hb hby d8_2)
  have Fw1 := Fld.same W1 F1
  have N1 := Fr.snoc X1 N0 g_a1
  have K1 : Keep h0 h1 [a1] := KC0.wr W1 (Or.inl (List.mem_of_getElem? (i := 0) rfl))
  refine own_via (g' := (mkF m 5 #[.val (.ref a1), .val (.ref b2)] [])) st1 ?_
  refine own_step (g' := (mkF m 6 #[.val (.ref a1), .val (.ref b2)] [(.ref a1)])) (fun _ k => XS.aloadN X1.here hx rfl (hb hby d8_5) rfl rfl k) ?_
  obtain ⟨T2, X2, e2, st2⟩ := initO X1 hx hZ hown (hw _ (List.mem_of_getElem? (i := 55) rfl)) (hw _ (List.mem_of_getElem? (i := 26) rfl)) (hw _ (List.mem_of_getElem? (i := 27) rfl)) e1 (g := (mkF m 6 #[.val (.ref a1), .val (.ref b2)] [(.ref a1)])) rfl (by rw [hml]; rfl) rfl (hb hby d8_6) (by decide) (W := 0) (by show 2 * 0 + _ ≤ _; exact Nat.le_of_eq rfl) (by decide)
  refine own_via (g' := (mkF m 9 #[.val (.ref a1), .val (.ref b2)] [])) st2 ?_
  refine own_step (g' := (mkF m 10 #[.val (.ref a1), .val (.ref b2)] [(.ref a1)])) (fun _ k => XS.aloadN X2.here hx rfl (hb hby d8_9) rfl rfl k) ?_
  refine own_step (g' := (mkF m 11 #[.val (.ref a1), .val (.ref b2)] [(.int (-1 : Int32)), (.ref a1)])) (fun _ k => XS.iconst X2.here hx rfl (hb hby d8_10) k) ?_
  have F_3 : Fld Z h1 a1 "java/util/ArrayList$Itr" "lastRet" "I" (.int (0 : Int32)) := (Fld.other W1 F3 (Or.inr (slot_ne (Or.inl (hw _ (List.mem_of_getElem? (i := 57) rfl))) (Or.inr (hw _ (List.mem_of_getElem? (i := 54) rfl))) (by decide) (t := .int) (t' := (.object "java/util/ArrayList")) (by decide) (by decide))))
  have C_4 : Exa Z h1 a1 "java/util/ArrayList$Itr" := (Exa.wr W1 E1)
  obtain ⟨T5, h5, X5, e5, W5, st5⟩ := putF X2 hx hZ hown (host := "") (Or.inl (hw _ (List.mem_of_getElem? (i := 56) rfl))) Via.refl e2 F_3 C_4 (Or.inl (hw _ (List.mem_of_getElem? (i := 57) rfl))) (hw _ (List.mem_of_getElem? (i := 47) rfl)) (ty := .int) (by decide) rfl rfl (g := (mkF m 11 #[.val (.ref a1), .val (.ref b2)] [(.int (-1 : Int32)), (.ref a1)])) rfl rfl (hb hby d8_11)
  have Fw5 := Fld.same W5 F_3
  have N5 := Fr.snoc X5 N1 g_a1
  have K5 : Keep h0 h5 [a1] := K1.wr W5 (Or.inl (List.mem_of_getElem? (i := 0) rfl))
  refine own_via (g' := (mkF m 14 #[.val (.ref a1), .val (.ref b2)] [])) st5 ?_
  refine own_step (g' := (mkF m 15 #[.val (.ref a1), .val (.ref b2)] [(.ref a1)])) (fun _ k => XS.aloadN X5.here hx rfl (hb hby d8_14) rfl rfl k) ?_
  refine own_step (g' := (mkF m 16 #[.val (.ref a1), .val (.ref b2)] [(.ref a1), (.ref a1)])) (fun _ k => XS.aloadN X5.here hx rfl (hb hby d8_15) rfl rfl k) ?_
  have F_6 : Fld Z h5 a1 "java/util/ArrayList$Itr" "this$0" "Ljava/util/ArrayList;" (.ref b2) := (Fld.other W5 Fw1 (Or.inr (slot_ne (Or.inr (hw _ (List.mem_of_getElem? (i := 54) rfl))) (Or.inl (hw _ (List.mem_of_getElem? (i := 57) rfl))) (by decide) (t := (.object "java/util/ArrayList")) (t' := .int) (by decide) (by decide))))
  obtain ⟨T7, X7, e7, st7⟩ := getF X5 hx hZ hown (host := "") (Or.inl (hw _ (List.mem_of_getElem? (i := 53) rfl))) Via.refl e5 F_6 (g := (mkF m 16 #[.val (.ref a1), .val (.ref b2)] [(.ref a1), (.ref a1)])) rfl rfl (hb hby d8_16)
  refine own_via (g' := (mkF m 19 #[.val (.ref a1), .val (.ref b2)] [(.ref b2), (.ref a1)])) st7 ?_
  have F_8 : Fld Z h5 b2 "java/util/AbstractList" "modCount" "I" (.int mc) := (Fld.other W5 (Fld.other W1 Fm (Or.inl (Ne.symm ne_a1_b2))) (Or.inl (Ne.symm ne_a1_b2)))
  obtain ⟨T9, X9, e9, st9⟩ := getF X7 hx hZ hown (host := "") (Or.inl (hw _ (List.mem_of_getElem? (i := 58) rfl))) (Via.of (hw _ (List.mem_of_getElem? (i := 59) rfl))) e7 F_8 (g := (mkF m 19 #[.val (.ref a1), .val (.ref b2)] [(.ref b2), (.ref a1)])) rfl rfl (hb hby d8_19)
  refine own_via (g' := (mkF m 22 #[.val (.ref a1), .val (.ref b2)] [(.int mc), (.ref a1)])) st9 ?_
  have F_10 : Fld Z h5 a1 "java/util/ArrayList$Itr" "expectedModCount" "I" (.int (0 : Int32)) := (Fld.other W5 (Fld.other W1 F4 (Or.inr (slot_ne (Or.inl (hw _ (List.mem_of_getElem? (i := 61) rfl))) (Or.inr (hw _ (List.mem_of_getElem? (i := 54) rfl))) (by decide) (t := .int) (t' := (.object "java/util/ArrayList")) (by decide) (by decide)))) (Or.inr (slot_ne (Or.inl (hw _ (List.mem_of_getElem? (i := 61) rfl))) (Or.inl (hw _ (List.mem_of_getElem? (i := 57) rfl))) (by decide) (t := .int) (t' := .int) (by decide) (by decide))))
  have C_11 : Exa Z h5 a1 "java/util/ArrayList$Itr" := (Exa.wr W5 C_4)
  obtain ⟨T12, h12, X12, e12, W12, st12⟩ := putF X9 hx hZ hown (host := "") (Or.inl (hw _ (List.mem_of_getElem? (i := 60) rfl))) Via.refl e9 F_10 C_11 (Or.inl (hw _ (List.mem_of_getElem? (i := 61) rfl))) (hw _ (List.mem_of_getElem? (i := 47) rfl)) (ty := .int) (by decide) rfl rfl (g := (mkF m 22 #[.val (.ref a1), .val (.ref b2)] [(.int mc), (.ref a1)])) rfl rfl (hb hby d8_22)
  have Fw12 := Fld.same W12 F_10
  have N12 := Fr.snoc X12 N5 g_a1
  have K12 : Keep h0 h12 [a1] := K5.wr W12 (Or.inl (List.mem_of_getElem? (i := 0) rfl))
  refine own_via (g' := (mkF m 25 #[.val (.ref a1), .val (.ref b2)] [])) st12 ?_
  have C_13 : Exa Z h12 a1 "java/util/ArrayList$Itr" := (Exa.wr W12 C_11)
  have F_14 : Fld Z h12 a1 "java/util/ArrayList$Itr" "this$0" "Ljava/util/ArrayList;" (.ref b2) := (Fld.other W12 F_6 (Or.inr (slot_ne (Or.inr (hw _ (List.mem_of_getElem? (i := 54) rfl))) (Or.inl (hw _ (List.mem_of_getElem? (i := 61) rfl))) (by decide) (t := (.object "java/util/ArrayList")) (t' := .int) (by decide) (by decide))))
  have F_15 : Fld Z h12 a1 "java/util/ArrayList$Itr" "cursor" "I" (.int (0 : Int32)) := (Fld.other W12 (Fld.other W5 (Fld.other W1 F2 (Or.inr (slot_ne (Or.inl (hw _ (List.mem_of_getElem? (i := 80) rfl))) (Or.inr (hw _ (List.mem_of_getElem? (i := 54) rfl))) (by decide) (t := .int) (t' := (.object "java/util/ArrayList")) (by decide) (by decide)))) (Or.inr (slot_ne (Or.inl (hw _ (List.mem_of_getElem? (i := 80) rfl))) (Or.inl (hw _ (List.mem_of_getElem? (i := 57) rfl))) (by decide) (t := .int) (t' := .int) (by decide) (by decide)))) (Or.inr (slot_ne (Or.inl (hw _ (List.mem_of_getElem? (i := 80) rfl))) (Or.inl (hw _ (List.mem_of_getElem? (i := 61) rfl))) (by decide) (t := .int) (t' := .int) (by decide) (by decide))))
  have F_16 : Fld Z h12 a1 "java/util/ArrayList$Itr" "lastRet" "I" (.int (-1 : Int32)) := (Fld.other W12 Fw5 (Or.inr (slot_ne (Or.inl (hw _ (List.mem_of_getElem? (i := 57) rfl))) (Or.inl (hw _ (List.mem_of_getElem? (i := 61) rfl))) (by decide) (t := .int) (t' := .int) (by decide) (by decide))))
  exact own_retV X12 hx hret hlk (hb hby d8_25) e12 (by exact ⟨rfl, N12, K12, C_13, F_14, F_15, F_16, Fw12⟩) (by decide) (by decide)
theorem d7_0 : decode jdk_38_method_55_code 0 = .ok (.new 267, 3) := by decide +kernel
theorem d7_3 : decode jdk_38_method_55_code 3 = .ok (.dup, 1) := by decide +kernel
theorem d7_4 : decode jdk_38_method_55_code 4 = .ok (.aload_n 0, 1) := by decide +kernel
theorem d7_5 : decode jdk_38_method_55_code 5 = .ok (.invokespecial 269, 3) := by decide +kernel
theorem d7_8 : decode jdk_38_method_55_code 8 = .ok (.areturn, 1) := by decide +kernel
theorem pd_6 : parseMethodDescriptor "(Ljava/util/ArrayList;)V" = some ⟨[(.object "java/util/ArrayList")], none⟩ := by decide +kernel
set_option maxRecDepth 65536 in
set_option maxHeartbeats 40000000 in
theorem rmIter (l : Launch) (Z : State) (a0 : Array Value) (hw : ∀ d ∈ tables_1, d.before a0 Z = true) (ws : List Jvm.Cond) (b2 : Addr) (mc : Int32) (h0 : Heap) (n0 : Nat) (Z0 : n0 ≤ h0.size) (E2 : Exa Z h0 b2 "java/util/ArrayList") (Fm : Fld Z h0 b2 "java/util/AbstractList" "modCount" "I" (.int mc)) :
    OMet l (⟨"java/util/ArrayList", "iterator", "()Ljava/util/Iterator;"⟩ : MethodName) jdk_38_method_55_code 1 (some (.object "java/util/Iterator")) ws ({ frames := 2, cells := 1, slots := 4, locals := 26 } : Room) Z #[(.ref b2)] h0 (fun v h L => (∃ b, v = some (.ref b) ∧ h0.size ≤ b ∧ n0 ≤ b ∧ Exa Z h b "java/util/ArrayList$Itr" ∧ Fld Z h b "java/util/ArrayList$Itr" "this$0" "Ljava/util/ArrayList;" (.ref b2) ∧ Fld Z h b "java/util/ArrayList$Itr" "cursor" "I" (.int (0 : Int32)) ∧ Fld Z h b "java/util/ArrayList$Itr" "lastRet" "I" (.int (-1 : Int32)) ∧ Fld Z h b "java/util/ArrayList$Itr" "expectedModCount" "I" (.int mc)) ∧ Fr n0 L ∧ Keep h0 h []) := by
  refine own_body (plainFor_of_name pn_2) ?_
  intro p e s m below meth cdx T0 X0 hx hZ hby hml hown hnm hret hlk e0
  have N0 := Fr.nil n0
  refine own_entry (g' := (mkF m 0 #[.val (.ref b2)] [])) (by first | rfl | (simp [entryFrame, mkF, argsToLocals, Value.category, maxLocals]; done)) ?_
  have KC0 := Keep.refl h0 []
  obtain ⟨T1, h1, X1, e1, Ex1, A1, D1, -, st1⟩ := newO X0 hx hZ hown (hw _ (List.mem_of_getElem? (i := 46) rfl)) (hw _ (List.mem_of_getElem? (i := 47) rfl)) (hw _ (List.mem_of_getElem? (i := 48) rfl)) e0 (g := (mkF m 0 #[.val (.ref b2)] [])) rfl (hb hby d7_0) (by decide) (by decide)
  obtain ⟨nb1, g1⟩ : ∃ z, z = h0.size := ⟨_, rfl⟩
  rw [← g1] at A1 D1 st1
  have g_nb1 : n0 ≤ nb1 := Nat.le_trans Z0 (Nat.le_of_eq g1.symm)
  have ne_b2_nb1 : b2 ≠ nb1 := Nat.ne_of_lt (Nat.lt_of_lt_of_le E2.lt (Nat.le_of_eq g1.symm))
  have sz_nb1 : h0.size ≤ nb1 := Nat.le_trans KC0.1 (Nat.le_of_eq g1.symm)
  have K1 : Keep h0 h1 [] := KC0.ext Ex1
  have F1_this_0 : Fld Z h1 nb1 "java/util/ArrayList$Itr" "this$0" "Ljava/util/ArrayList;" .null := D1 (Or.inr (hw _ (List.mem_of_getElem? (i := 54) rfl))) (ty := (.object "java/util/ArrayList")) (by decide)
  have F1_lastRet : Fld Z h1 nb1 "java/util/ArrayList$Itr" "lastRet" "I" (.int (0 : Int32)) := D1 (Or.inl (hw _ (List.mem_of_getElem? (i := 57) rfl))) (ty := .int) (by decide)
  have F1_expectedModCount : Fld Z h1 nb1 "java/util/ArrayList$Itr" "expectedModCount" "I" (.int (0 : Int32)) := D1 (Or.inl (hw _ (List.mem_of_getElem? (i := 61) rfl))) (ty := .int) (by decide)
  have F1_cursor : Fld Z h1 nb1 "java/util/ArrayList$Itr" "cursor" "I" (.int (0 : Int32)) := D1 (Or.inl (hw _ (List.mem_of_getElem? (i := 80) rfl))) (ty := .int) (by decide)
  refine own_via (g' := (mkF m 3 #[.val (.ref b2)] [(.ref nb1)])) st1 ?_
  refine own_step (g' := (mkF m 4 #[.val (.ref b2)] [(.ref nb1), (.ref nb1)])) (fun _ k => XS.dup X1.here hx rfl (hb hby d7_3) rfl rfl k) ?_
  refine own_step (g' := (mkF m 5 #[.val (.ref b2)] [(.ref b2), (.ref nb1), (.ref nb1)])) (fun _ k => XS.aloadN X1.here hx rfl (hb hby d7_4) rfl rfl k) ?_
  have C_2 : Exa Z h1 b2 "java/util/ArrayList" := (Exa.ext Ex1 E2)
  have F_3 : Fld Z h1 b2 "java/util/AbstractList" "modCount" "I" (.int mc) := (Fld.ext Ex1 Fm)
  refine own_init X1 hx hZ (W := 1) hown e1 (rmItI l Z a0 hw [] nb1 b2 mc h1 n0 (Nat.le_trans Z0 Ex1.1) g_nb1 A1 C_2 F_3 F1_this_0 F1_cursor F1_lastRet F1_expectedModCount) rfl (hw _ (List.mem_of_getElem? (i := 49) rfl)) (hw _ (List.mem_of_getElem? (i := 50) rfl)) (hw _ (List.mem_of_getElem? (i := 52) rfl)) (hw _ (List.mem_of_getElem? (i := 48) rfl)) (by decide) (by decide) (by decide) (g := (mkF m 5 #[.val (.ref b2)] [(.ref b2), (.ref nb1), (.ref nb1)])) rfl (by rw [hml]; rfl) (argsL := [(.ref b2)]) (rest := [(.ref nb1)]) rfl (lenOf pd_6 rfl) rfl (by show 2 * 0 + _ ≤ _; exact Nat.le_of_eq rfl) (hb hby d7_5) (by decide) (by decide) ?_
  intro v4 T4 L4 X4 hQ4
  obtain ⟨rfl, Nq4, Kq4, Ci, I1, I2, I3, I4⟩ := hQ4
  have N4 := Fr.app N0 Nq4
  have K4 : Keep h0 T4.heap [] := K1.trans Kq4 (allS (Or.inr sz_nb1) all0)
  show OGo p e below _ T4 (mkF m 8 #[.val (.ref b2)] [(.ref nb1)])
  exact own_retA X4 hx hret rfl rfl hlk (hb hby d7_8) rfl (by exact ⟨⟨_, rfl, sz_nb1, g_nb1, Ci, I1, I2, I3, I4⟩, N4, K4⟩) (by decide) (by decide)
theorem d10_0 : decode jdk_49_method_2_code 0 = .ok (.aload_n 0, 1) := by decide +kernel
theorem d10_1 : decode jdk_49_method_2_code 1 = .ok (.getfield 25, 3) := by decide +kernel
theorem d10_4 : decode jdk_49_method_2_code 4 = .ok (.aload_n 0, 1) := by decide +kernel
theorem d10_5 : decode jdk_49_method_2_code 5 = .ok (.getfield 1, 3) := by decide +kernel
theorem d10_8 : decode jdk_49_method_2_code 8 = .ok (.getfield 28, 3) := by decide +kernel
theorem d10_11 : decode jdk_49_method_2_code 11 = .ok (.if_icmp .eq 7, 3) := by decide +kernel
theorem d10_18 : decode jdk_49_method_2_code 18 = .ok (.iconst 0, 1) := by decide +kernel
theorem d10_19 : decode jdk_49_method_2_code 19 = .ok (.ireturn, 1) := by decide +kernel
set_option maxRecDepth 65536 in
set_option maxHeartbeats 40000000 in
theorem rmHas0_0 (l : Launch) (Z : State) (a0 : Array Value) (hw : ∀ d ∈ tables_1, d.before a0 Z = true) (ws : List Jvm.Cond) (a1 b2 : Addr) (h0 : Heap) (n0 : Nat) (Z0 : n0 ≤ h0.size) (E1 : Exa Z h0 a1 "java/util/ArrayList$Itr") (F1 : Fld Z h0 a1 "java/util/ArrayList$Itr" "this$0" "Ljava/util/ArrayList;" (.ref b2)) (F2 : Fld Z h0 a1 "java/util/ArrayList$Itr" "cursor" "I" (.int (0 : Int32))) (F3 : Fld Z h0 a1 "java/util/ArrayList$Itr" "lastRet" "I" (.int (-1 : Int32))) (F4 : Fld Z h0 a1 "java/util/ArrayList$Itr" "expectedModCount" "I" (.int (0 : Int32))) (E2 : Exa Z h0 b2 "java/util/ArrayList") (Fm : Fld Z h0 b2 "java/util/AbstractList" "modCount" "I" (.int (0 : Int32))) (Fs : Fld Z h0 b2 "java/util/ArrayList" "size" "I" (.int (0 : Int32))) :
    OMet l (⟨"java/util/ArrayList$Itr", "hasNext", "()Z"⟩ : MethodName) jdk_49_method_2_code 1 (some .boolean) ws ({ frames := 0, cells := 0, slots := 0, locals := 0 } : Room) Z #[(.ref a1)] h0 (fun v h L => v = some (.int (0 : Int32)) ∧ L = [] ∧ h = h0) := by
  refine own_body (plainFor_of_name pn_8) ?_
  intro p e s m below meth cdx T0 X0 hx hZ hby hml hown hnm hret hlk e0
  have N0 := Fr.nil n0
  refine own_entry (g' := (mkF m 0 #[.val (.ref a1)] [])) (by first | rfl | (simp [entryFrame, mkF, argsToLocals, Value.category, maxLocals]; done)) ?_
  have ne_a1_b2 : a1 ≠ b2 := Exa.ne E1 E2 (by decide)
  refine own_step (g' := (mkF m 1 #[.val (.ref a1)] [(.ref a1)])) (fun _ k => XS.aloadN X0.here hx rfl (hb hby d10_0) rfl rfl k) ?_
  obtain ⟨T1, X1, e1, st1⟩ := getF X0 hx hZ hown (host := "") (Or.inl (hw _ (List.mem_of_getElem? (i := 79) rfl))) Via.refl e0 F2 (g := (mkF m 1 #[.val (.ref a1)] [(.ref a1)])) rfl rfl (hb hby d10_1)
  refine own_via (g' := (mkF m 4 #[.val (.ref a1)] [(.int (0 : Int32))])) st1 ?_
  refine own_step (g' := (mkF m 5 #[.val (.ref a1)] [(.ref a1), (.int (0 : Int32))])) (fun _ k => XS.aloadN X1.here hx rfl (hb hby d10_4) rfl rfl k) ?_
  obtain ⟨T2, X2, e2, st2⟩ := getF X1 hx hZ hown (host := "") (Or.inl (hw _ (List.mem_of_getElem? (i := 53) rfl))) Via.refl e1 F1 (g := (mkF m 5 #[.val (.ref a1)] [(.ref a1), (.int (0 : Int32))])) rfl rfl (hb hby d10_5)
  refine own_via (g' := (mkF m 8 #[.val (.ref a1)] [(.ref b2), (.int (0 : Int32))])) st2 ?_
  obtain ⟨T3, X3, e3, st3⟩ := getF X2 hx hZ hown (Or.inr (hw _ (List.mem_of_getElem? (i := 81) rfl))) Via.refl e2 Fs (g := (mkF m 8 #[.val (.ref a1)] [(.ref b2), (.int (0 : Int32))])) rfl rfl (hb hby d10_8)
  refine own_via (g' := (mkF m 11 #[.val (.ref a1)] [(.int (0 : Int32)), (.int (0 : Int32))])) st3 ?_
  refine own_step (g' := (mkF m 18 #[.val (.ref a1)] [])) (fun _ k => XS.icmpYes X3.here hx rfl (pc0 := 11) (pc' := 18) rfl (hb hby d10_11) rfl (teq (by decide : (0 : Int32) = (0 : Int32))).1 (by decide) (by decide) k) ?_
  refine own_step (g' := (mkF m 19 #[.val (.ref a1)] [(.int (0 : Int32))])) (fun _ k => XS.iconst X3.here hx rfl (hb hby d10_18) k) ?_
  exact own_retN X3 hx (t := .boolean) hret (by simp) hlk (hb hby d10_19) e3 (by exact ⟨rfl, rfl, rfl⟩) (by decide) (by decide)
theorem d9_0 : decode prog_23_method_3_code 0 = .ok (.aload_n 0, 1) := by decide +kernel
theorem d9_1 : decode prog_23_method_3_code 1 = .ok (.invokeinterface 11 1, 5) := by decide +kernel
theorem d9_6 : decode prog_23_method_3_code 6 = .ok (.ifCond .eq 12, 3) := by decide +kernel
theorem d9_18 : decode prog_23_method_3_code 18 = .ok (.aconst_null, 1) := by decide +kernel
theorem d9_19 : decode prog_23_method_3_code 19 = .ok (.areturn, 1) := by decide +kernel
theorem pd_7 : parseMethodDescriptor "()Z" = some ⟨[], some .boolean⟩ := by decide +kernel
theorem pn_9 : plainName "com/example/cuttlefish/cuttlefish/store/RecordCursor" = true := by first | (simp [plainName, overriddenIn]; done) | decide +kernel
set_option maxRecDepth 65536 in
set_option maxHeartbeats 40000000 in
theorem rmLam0_0 (l : Launch) (Z : State) (a0 : Array Value) (hw : ∀ d ∈ tables_1, d.before a0 Z = true) (ws : List Jvm.Cond) (a1 b2 : Addr) (h0 : Heap) (n0 : Nat) (Z0 : n0 ≤ h0.size) (E1 : Exa Z h0 a1 "java/util/ArrayList$Itr") (F1 : Fld Z h0 a1 "java/util/ArrayList$Itr" "this$0" "Ljava/util/ArrayList;" (.ref b2)) (F2 : Fld Z h0 a1 "java/util/ArrayList$Itr" "cursor" "I" (.int (0 : Int32))) (F3 : Fld Z h0 a1 "java/util/ArrayList$Itr" "lastRet" "I" (.int (-1 : Int32))) (F4 : Fld Z h0 a1 "java/util/ArrayList$Itr" "expectedModCount" "I" (.int (0 : Int32))) (E2 : Exa Z h0 b2 "java/util/ArrayList") (Fm : Fld Z h0 b2 "java/util/AbstractList" "modCount" "I" (.int (0 : Int32))) (Fs : Fld Z h0 b2 "java/util/ArrayList" "size" "I" (.int (0 : Int32))) :
    OMet l (⟨"com/example/cuttlefish/cuttlefish/store/RecordCursor", "lambda$over$0", "(Ljava/util/Iterator;)Ljava/lang/Object;"⟩ : MethodName) prog_23_method_3_code 1 (some (.object "java/lang/Object")) ws ({ frames := 1, cells := 0, slots := 0, locals := 12 } : Room) Z #[(.ref a1)] h0 (fun v h L => v = some .null ∧ Fr n0 L ∧ Keep h0 h [a1] ∧ Exa Z h a1 "java/util/ArrayList$Itr" ∧ Fld Z h a1 "java/util/ArrayList$Itr" "this$0" "Ljava/util/ArrayList;" (.ref b2) ∧ Fld Z h a1 "java/util/ArrayList$Itr" "cursor" "I" (.int (0 : Int32)) ∧ Fld Z h a1 "java/util/ArrayList$Itr" "lastRet" "I" (.int (-1 : Int32)) ∧ Fld Z h a1 "java/util/ArrayList$Itr" "expectedModCount" "I" (.int (0 : Int32))) := by
  refine own_body (plainFor_of_name pn_9) ?_
  intro p e s m below meth cdx T0 X0 hx hZ hby hml hown hnm hret hlk e0
  have N0 := Fr.nil n0
  refine own_entry (g' := (mkF m 0 #[.val (.ref a1)] [])) (by first | rfl | (simp [entryFrame, mkF, argsToLocals, Value.category, maxLocals]; done)) ?_
  have KC0 := Keep.refl h0 [a1]
  have ne_a1_b2 : a1 ≠ b2 := Exa.ne E1 E2 (by decide)
  refine own_step (g' := (mkF m 1 #[.val (.ref a1)] [(.ref a1)])) (fun _ k => XS.aloadN X0.here hx rfl (hb hby d9_0) rfl rfl k) ?_
  refine own_callI X0 hx hZ (W := 0) hown e0 (rmHas0_0 l Z a0 hw [] a1 b2 h0 n0 Z0 E1 F1 F2 F3 F4 E2 Fm Fs) E1 (hw _ (List.mem_of_getElem? (i := 70) rfl)) (hw _ (List.mem_of_getElem? (i := 71) rfl)) (mvT hZ (hw _ (List.mem_of_getElem? (i := 72) rfl))) (hw _ (List.mem_of_getElem? (i := 73) rfl)) (hw _ (List.mem_of_getElem? (i := 74) rfl)) (hw _ (List.mem_of_getElem? (i := 75) rfl)) (hw _ (List.mem_of_getElem? (i := 76) rfl)) (hw _ (List.mem_of_getElem? (i := 77) rfl)) (hw _ (List.mem_of_getElem? (i := 78) rfl)) (hw _ (List.mem_of_getElem? (i := 48) rfl)) (by decide) (by decide) (by decide) (g := (mkF m 1 #[.val (.ref a1)] [(.ref a1)])) rfl (by rw [hml]; rfl) (argsL := []) (rest := []) rfl (lenOf pd_7 rfl) rfl (by show 2 * 0 + _ ≤ _; exact Nat.le_of_eq rfl) (hb hby d9_1) (by decide) (by decide) ?_
  intro v1 T1 L1 X1 hQ1
  obtain ⟨rfl, rfl, e1⟩ := hQ1
  replace X1 := own_pureX X1
  show OGo p e below _ T1 (mkF m 6 #[.val (.ref a1)] [(.int (0 : Int32))])
  refine own_step (g' := (mkF m 18 #[.val (.ref a1)] [])) (fun _ k => XS.ifYes X1.here hx rfl (pc0 := 6) (pc' := 18) rfl (hb hby d9_6) rfl ((if0 _ _).trans (teq (by decide : (0 : Int32) = (0 : Int32))).1) (by decide) (by decide) k) ?_
  refine own_step (g' := (mkF m 19 #[.val (.ref a1)] [.null])) (fun _ k => XS.aconstNull X1.here hx rfl (hb hby d9_18) k) ?_
  exact own_retA X1 hx hret rfl rfl hlk (hb hby d9_19) e1 (by exact ⟨rfl, N0, KC0, E1, F1, F2, F3, F4⟩) (by decide) (by decide)
theorem d10_14 : decode jdk_49_method_2_code 14 = .ok (.iconst 1, 1) := by decide +kernel
theorem d10_15 : decode jdk_49_method_2_code 15 = .ok (.goto 4, 3) := by decide +kernel
set_option maxRecDepth 65536 in
set_option maxHeartbeats 40000000 in
theorem rmHas1_0 (l : Launch) (Z : State) (a0 : Array Value) (hw : ∀ d ∈ tables_1, d.before a0 Z = true) (ws : List Jvm.Cond) (a1 b2 : Addr) (h0 : Heap) (n0 : Nat) (Z0 : n0 ≤ h0.size) (E1 : Exa Z h0 a1 "java/util/ArrayList$Itr") (F1 : Fld Z h0 a1 "java/util/ArrayList$Itr" "this$0" "Ljava/util/ArrayList;" (.ref b2)) (F2 : Fld Z h0 a1 "java/util/ArrayList$Itr" "cursor" "I" (.int (0 : Int32))) (F3 : Fld Z h0 a1 "java/util/ArrayList$Itr" "lastRet" "I" (.int (-1 : Int32))) (F4 : Fld Z h0 a1 "java/util/ArrayList$Itr" "expectedModCount" "I" (.int (1 : Int32))) (E2 : Exa Z h0 b2 "java/util/ArrayList") (Fm : Fld Z h0 b2 "java/util/AbstractList" "modCount" "I" (.int (1 : Int32))) (Fs : Fld Z h0 b2 "java/util/ArrayList" "size" "I" (.int (1 : Int32))) :
    OMet l (⟨"java/util/ArrayList$Itr", "hasNext", "()Z"⟩ : MethodName) jdk_49_method_2_code 1 (some .boolean) ws ({ frames := 0, cells := 0, slots := 0, locals := 0 } : Room) Z #[(.ref a1)] h0 (fun v h L => v = some (.int (1 : Int32)) ∧ L = [] ∧ h = h0) := by
  refine own_body (plainFor_of_name pn_8) ?_
  intro p e s m below meth cdx T0 X0 hx hZ hby hml hown hnm hret hlk e0
  have N0 := Fr.nil n0
  refine own_entry (g' := (mkF m 0 #[.val (.ref a1)] [])) (by first | rfl | (simp [entryFrame, mkF, argsToLocals, Value.category, maxLocals]; done)) ?_
  have ne_a1_b2 : a1 ≠ b2 := Exa.ne E1 E2 (by decide)
  refine own_step (g' := (mkF m 1 #[.val (.ref a1)] [(.ref a1)])) (fun _ k => XS.aloadN X0.here hx rfl (hb hby d10_0) rfl rfl k) ?_
  obtain ⟨T1, X1, e1, st1⟩ := getF X0 hx hZ hown (host := "") (Or.inl (hw _ (List.mem_of_getElem? (i := 79) rfl))) Via.refl e0 F2 (g := (mkF m 1 #[.val (.ref a1)] [(.ref a1)])) rfl rfl (hb hby d10_1)
  refine own_via (g' := (mkF m 4 #[.val (.ref a1)] [(.int (0 : Int32))])) st1 ?_
  refine own_step (g' := (mkF m 5 #[.val (.ref a1)] [(.ref a1), (.int (0 : Int32))])) (fun _ k => XS.aloadN X1.here hx rfl (hb hby d10_4) rfl rfl k) ?_
  obtain ⟨T2, X2, e2, st2⟩ := getF X1 hx hZ hown (host := "") (Or.inl (hw _ (List.mem_of_getElem? (i := 53) rfl))) Via.refl e1 F1 (g := (mkF m 5 #[.val (.ref a1)] [(.ref a1), (.int (0 : Int32))])) rfl rfl (hb hby d10_5)
  refine own_via (g' := (mkF m 8 #[.val (.ref a1)] [(.ref b2), (.int (0 : Int32))])) st2 ?_
  obtain ⟨T3, X3, e3, st3⟩ := getF X2 hx hZ hown (Or.inr (hw _ (List.mem_of_getElem? (i := 81) rfl))) Via.refl e2 Fs (g := (mkF m 8 #[.val (.ref a1)] [(.ref b2), (.int (0 : Int32))])) rfl rfl (hb hby d10_8)
  refine own_via (g' := (mkF m 11 #[.val (.ref a1)] [(.int (1 : Int32)), (.int (0 : Int32))])) st3 ?_
  refine own_step (g' := (mkF m 14 #[.val (.ref a1)] [])) (fun _ k => XS.icmpNo X3.here hx rfl (hb hby d10_11) rfl (feq (by decide : ¬ ((0 : Int32) = (1 : Int32)))).1 k) ?_
  refine own_step (g' := (mkF m 15 #[.val (.ref a1)] [(.int (1 : Int32))])) (fun _ k => XS.iconst X3.here hx rfl (hb hby d10_14) k) ?_
  refine own_step (g' := (mkF m 19 #[.val (.ref a1)] [(.int (1 : Int32))])) (fun _ k => XS.goto X3.here hx rfl (pc0 := 15) (pc' := 19) rfl (hb hby d10_15) (by decide) (by decide) k) ?_
  exact own_retN X3 hx (t := .boolean) hret (by simp) hlk (hb hby d10_19) e3 (by exact ⟨rfl, rfl, rfl⟩) (by decide) (by decide)
theorem d21_0 : decode jdk_49_method_6_code 0 = .ok (.aload_n 0, 1) := by decide +kernel
theorem d21_1 : decode jdk_49_method_6_code 1 = .ok (.getfield 1, 3) := by decide +kernel
theorem d21_4 : decode jdk_49_method_6_code 4 = .ok (.getfield 17, 3) := by decide +kernel
theorem d21_7 : decode jdk_49_method_6_code 7 = .ok (.aload_n 0, 1) := by decide +kernel
theorem d21_8 : decode jdk_49_method_6_code 8 = .ok (.getfield 22, 3) := by decide +kernel
theorem d21_11 : decode jdk_49_method_6_code 11 = .ok (.if_icmp .eq 11, 3) := by decide +kernel
theorem d21_22 : decode jdk_49_method_6_code 22 = .ok (.return_, 1) := by decide +kernel
set_option maxRecDepth 65536 in
set_option maxHeartbeats 40000000 in
theorem rmChk1_0 (l : Launch) (Z : State) (a0 : Array Value) (hw : ∀ d ∈ tables_1, d.before a0 Z = true) (ws : List Jvm.Cond) (a1 b2 : Addr) (h0 : Heap) (n0 : Nat) (Z0 : n0 ≤ h0.size) (E1 : Exa Z h0 a1 "java/util/ArrayList$Itr") (F1 : Fld Z h0 a1 "java/util/ArrayList$Itr" "this$0" "Ljava/util/ArrayList;" (.ref b2)) (F2 : Fld Z h0 a1 "java/util/ArrayList$Itr" "cursor" "I" (.int (0 : Int32))) (F3 : Fld Z h0 a1 "java/util/ArrayList$Itr" "lastRet" "I" (.int (-1 : Int32))) (F4 : Fld Z h0 a1 "java/util/ArrayList$Itr" "expectedModCount" "I" (.int (1 : Int32))) (E2 : Exa Z h0 b2 "java/util/ArrayList") (Fm : Fld Z h0 b2 "java/util/AbstractList" "modCount" "I" (.int (1 : Int32))) (Fs : Fld Z h0 b2 "java/util/ArrayList" "size" "I" (.int (1 : Int32))) :
    OMet l (⟨"java/util/ArrayList$Itr", "checkForComodification", "()V"⟩ : MethodName) jdk_49_method_6_code 1 none ws ({ frames := 0, cells := 0, slots := 0, locals := 0 } : Room) Z #[(.ref a1)] h0 (fun v h L => v = none ∧ L = [] ∧ h = h0) := by
  refine own_body (plainFor_of_name pn_8) ?_
  intro p e s m below meth cdx T0 X0 hx hZ hby hml hown hnm hret hlk e0
  have N0 := Fr.nil n0
  refine own_entry (g' := (mkF m 0 #[.val (.ref a1)] [])) (by first | rfl | (simp [entryFrame, mkF, argsToLocals, Value.category, maxLocals]; done)) ?_
  have ne_a1_b2 : a1 ≠ b2 := Exa.ne E1 E2 (by decide)
  refine own_step (g' := (mkF m 1 #[.val (.ref a1)] [(.ref a1)])) (fun _ k => XS.aloadN X0.here hx rfl (hb hby d21_0) rfl rfl k) ?_
  obtain ⟨T1, X1, e1, st1⟩ := getF X0 hx hZ hown (host := "") (Or.inl (hw _ (List.mem_of_getElem? (i := 53) rfl))) Via.refl e0 F1 (g := (mkF m 1 #[.val (.ref a1)] [(.ref a1)])) rfl rfl (hb hby d21_1)
  refine own_via (g' := (mkF m 4 #[.val (.ref a1)] [(.ref b2)])) st1 ?_
  obtain ⟨T2, X2, e2, st2⟩ := getF X1 hx hZ hown (host := "") (Or.inl (hw _ (List.mem_of_getElem? (i := 58) rfl))) (Via.of (hw _ (List.mem_of_getElem? (i := 59) rfl))) e1 Fm (g := (mkF m 4 #[.val (.ref a1)] [(.ref b2)])) rfl rfl (hb hby d21_4)
  refine own_via (g' := (mkF m 7 #[.val (.ref a1)] [(.int (1 : Int32))])) st2 ?_
  refine own_step (g' := (mkF m 8 #[.val (.ref a1)] [(.ref a1), (.int (1 : Int32))])) (fun _ k => XS.aloadN X2.here hx rfl (hb hby d21_7) rfl rfl k) ?_
  obtain ⟨T3, X3, e3, st3⟩ := getF X2 hx hZ hown (host := "") (Or.inl (hw _ (List.mem_of_getElem? (i := 60) rfl))) Via.refl e2 F4 (g := (mkF m 8 #[.val (.ref a1)] [(.ref a1), (.int (1 : Int32))])) rfl rfl (hb hby d21_8)
  refine own_via (g' := (mkF m 11 #[.val (.ref a1)] [(.int (1 : Int32)), (.int (1 : Int32))])) st3 ?_
  refine own_step (g' := (mkF m 22 #[.val (.ref a1)] [])) (fun _ k => XS.icmpYes X3.here hx rfl (pc0 := 11) (pc' := 22) rfl (hb hby d21_11) rfl (teq (by decide : (1 : Int32) = (1 : Int32))).1 (by decide) (by decide) k) ?_
  exact own_retV X3 hx hret hlk (hb hby d21_22) e3 (by exact ⟨rfl, rfl, rfl⟩) (by decide) (by decide)
theorem d20_0 : decode jdk_49_method_3_code 0 = .ok (.aload_n 0, 1) := by decide +kernel
theorem d20_1 : decode jdk_49_method_3_code 1 = .ok (.invokevirtual 31, 3) := by decide +kernel
theorem d20_4 : decode jdk_49_method_3_code 4 = .ok (.aload_n 0, 1) := by decide +kernel
theorem d20_5 : decode jdk_49_method_3_code 5 = .ok (.getfield 25, 3) := by decide +kernel
theorem d20_8 : decode jdk_49_method_3_code 8 = .ok (.istore_n 1, 1) := by decide +kernel
theorem d20_9 : decode jdk_49_method_3_code 9 = .ok (.iload_n 1, 1) := by decide +kernel
theorem d20_10 : decode jdk_49_method_3_code 10 = .ok (.aload_n 0, 1) := by decide +kernel
theorem d20_11 : decode jdk_49_method_3_code 11 = .ok (.getfield 1, 3) := by decide +kernel
theorem d20_14 : decode jdk_49_method_3_code 14 = .ok (.getfield 28, 3) := by decide +kernel
theorem d20_17 : decode jdk_49_method_3_code 17 = .ok (.if_icmp .lt 11, 3) := by decide +kernel
theorem d20_28 : decode jdk_49_method_3_code 28 = .ok (.aload_n 0, 1) := by decide +kernel
theorem d20_29 : decode jdk_49_method_3_code 29 = .ok (.getfield 1, 3) := by decide +kernel
theorem d20_32 : decode jdk_49_method_3_code 32 = .ok (.getfield 37, 3) := by decide +kernel
theorem d20_35 : decode jdk_49_method_3_code 35 = .ok (.astore_n 2, 1) := by decide +kernel
theorem d20_36 : decode jdk_49_method_3_code 36 = .ok (.iload_n 1, 1) := by decide +kernel
theorem d20_37 : decode jdk_49_method_3_code 37 = .ok (.aload_n 2, 1) := by decide +kernel
theorem d20_38 : decode jdk_49_method_3_code 38 = .ok (.arraylength, 1) := by decide +kernel
theorem d20_39 : decode jdk_49_method_3_code 39 = .ok (.if_icmp .lt 11, 3) := by decide +kernel
theorem d20_50 : decode jdk_49_method_3_code 50 = .ok (.aload_n 0, 1) := by decide +kernel
theorem d20_51 : decode jdk_49_method_3_code 51 = .ok (.iload_n 1, 1) := by decide +kernel
theorem d20_52 : decode jdk_49_method_3_code 52 = .ok (.iconst 1, 1) := by decide +kernel
theorem d20_53 : decode jdk_49_method_3_code 53 = .ok (.iadd, 1) := by decide +kernel
theorem d20_54 : decode jdk_49_method_3_code 54 = .ok (.putfield 25, 3) := by decide +kernel
theorem d20_57 : decode jdk_49_method_3_code 57 = .ok (.aload_n 2, 1) := by decide +kernel
theorem d20_58 : decode jdk_49_method_3_code 58 = .ok (.aload_n 0, 1) := by decide +kernel
theorem d20_59 : decode jdk_49_method_3_code 59 = .ok (.iload_n 1, 1) := by decide +kernel
theorem d20_60 : decode jdk_49_method_3_code 60 = .ok (.dup_x1, 1) := by decide +kernel
theorem d20_61 : decode jdk_49_method_3_code 61 = .ok (.putfield 13, 3) := by decide +kernel
theorem d20_64 : decode jdk_49_method_3_code 64 = .ok (.aaload, 1) := by decide +kernel
theorem d20_65 : decode jdk_49_method_3_code 65 = .ok (.areturn, 1) := by decide +kernel
set_option maxRecDepth 65536 in
set_option maxHeartbeats 40000000 in
theorem rmNxt1_0 (l : Launch) (Z : State) (a0 : Array Value) (hw : ∀ d ∈ tables_1, d.before a0 Z = true) (ws : List Jvm.Cond) (a1 b2 : Addr) (ea y0 : Addr) (kd : ClassId) (h0 : Heap) (n0 : Nat) (Z0 : n0 ≤ h0.size) (E1 : Exa Z h0 a1 "java/util/ArrayList$Itr") (F1 : Fld Z h0 a1 "java/util/ArrayList$Itr" "this$0" "Ljava/util/ArrayList;" (.ref b2)) (F2 : Fld Z h0 a1 "java/util/ArrayList$Itr" "cursor" "I" (.int (0 : Int32))) (F3 : Fld Z h0 a1 "java/util/ArrayList$Itr" "lastRet" "I" (.int (-1 : Int32))) (F4 : Fld Z h0 a1 "java/util/ArrayList$Itr" "expectedModCount" "I" (.int (1 : Int32))) (E2 : Exa Z h0 b2 "java/util/ArrayList") (Fm : Fld Z h0 b2 "java/util/AbstractList" "modCount" "I" (.int (1 : Int32))) (Fs : Fld Z h0 b2 "java/util/ArrayList" "size" "I" (.int (1 : Int32))) (g_a1 : n0 ≤ a1) (Fe : Fld Z h0 b2 "java/util/ArrayList" "elementData" "[Ljava/lang/Object;" (.ref ea)) (Ve : Arv Z h0 ea kd (.object "java/lang/Object") (10 : Int32) [(.ref y0), .null, .null, .null, .null, .null, .null, .null, .null, .null] .null) :
    OMet l (⟨"java/util/ArrayList$Itr", "next", "()Ljava/lang/Object;"⟩ : MethodName) jdk_49_method_3_code 3 (some (.object "java/lang/Object")) ws ({ frames := 1, cells := 0, slots := 0, locals := 12 } : Room) Z #[(.ref a1)] h0 (fun v h L => v = some (.ref y0) ∧ Fr n0 L ∧ Keep h0 h [a1] ∧ Exa Z h a1 "java/util/ArrayList$Itr" ∧ Fld Z h a1 "java/util/ArrayList$Itr" "this$0" "Ljava/util/ArrayList;" (.ref b2) ∧ Fld Z h a1 "java/util/ArrayList$Itr" "cursor" "I" (.int (1 : Int32)) ∧ Fld Z h a1 "java/util/ArrayList$Itr" "lastRet" "I" (.int (0 : Int32)) ∧ Fld Z h a1 "java/util/ArrayList$Itr" "expectedModCount" "I" (.int (1 : Int32))) := by
  refine own_body (plainFor_of_name pn_8) ?_
  intro p e s m below meth cdx T0 X0 hx hZ hby hml hown hnm hret hlk e0
  have N0 := Fr.nil n0
  refine own_entry (g' := (mkF m 0 #[.val (.ref a1), .unset, .unset] [])) (by first | rfl | (simp [entryFrame, mkF, argsToLocals, Value.category, maxLocals]; done)) ?_
  have KC0 := Keep.refl h0 [a1]
  have ne_a1_b2 : a1 ≠ b2 := Exa.ne E1 E2 (by decide)
  have ne_a1_ea : a1 ≠ ea := Exa.neArv E1 Ve (hw _ (List.mem_of_getElem? (i := 47) rfl))
  refine own_step (g' := (mkF m 1 #[.val (.ref a1), .unset, .unset] [(.ref a1)])) (fun _ k => XS.aloadN X0.here hx rfl (hb hby d20_0) rfl rfl k) ?_
  refine own_callV X0 hx hZ (W := 0) hown e0 (rmChk1_0 l Z a0 hw [] a1 b2 h0 n0 Z0 E1 F1 F2 F3 F4 E2 Fm Fs) E1 (hw _ (List.mem_of_getElem? (i := 144) rfl)) (hw _ (List.mem_of_getElem? (i := 145) rfl)) (notFace_of_selects (args := #[]) (mvT hZ (hw _ (List.mem_of_getElem? (i := 147) rfl)))) (hw _ (List.mem_of_getElem? (i := 147) rfl)) (hw _ (List.mem_of_getElem? (i := 146) rfl)) (hw _ (List.mem_of_getElem? (i := 148) rfl)) (hw _ (List.mem_of_getElem? (i := 48) rfl)) (by decide) (by decide) (by decide) (g := (mkF m 1 #[.val (.ref a1), .unset, .unset] [(.ref a1)])) rfl (by rw [hml]; rfl) (argsL := []) (rest := []) rfl (lenOf pd_0 rfl) rfl (by show 2 * 0 + _ ≤ _; exact Nat.le_of_eq rfl) (hb hby d20_1) (by decide) (by decide) ?_
  intro v1 T1 L1 X1 hQ1
  obtain ⟨rfl, rfl, e1⟩ := hQ1
  replace X1 := own_pureX X1
  show OGo p e below _ T1 (mkF m 4 #[.val (.ref a1), .unset, .unset] [])
  refine own_step (g' := (mkF m 5 #[.val (.ref a1), .unset, .unset] [(.ref a1)])) (fun _ k => XS.aloadN X1.here hx rfl (hb hby d20_4) rfl rfl k) ?_
  obtain ⟨T2, X2, e2, st2⟩ := getF X1 hx hZ hown (host := "") (Or.inl (hw _ (List.mem_of_getElem? (i := 79) rfl))) Via.refl e1 F2 (g := (mkF m 5 #[.val (.ref a1), .unset, .unset] [(.ref a1)])) rfl rfl (hb hby d20_5)
  refine own_via (g' := (mkF m 8 #[.val (.ref a1), .unset, .unset] [(.int (0 : Int32))])) st2 ?_
  refine own_step (g' := (mkF m 9 #[.val (.ref a1), .val (.int (0 : Int32)), .unset] [])) (fun _ k => XS.istoreN X2.here hx rfl (hb hby d20_8) rfl (l' := #[.val (.ref a1), .val (.int (0 : Int32)), .unset]) rfl k) ?_
  refine own_step (g' := (mkF m 10 #[.val (.ref a1), .val (.int (0 : Int32)), .unset] [(.int (0 : Int32))])) (fun _ k => XS.iloadN X2.here hx rfl (hb hby d20_9) rfl k) ?_
  refine own_step (g' := (mkF m 11 #[.val (.ref a1), .val (.int (0 : Int32)), .unset] [(.ref a1), (.int (0 : Int32))])) (fun _ k => XS.aloadN X2.here hx rfl (hb hby d20_10) rfl rfl k) ?_
  obtain ⟨T3, X3, e3, st3⟩ := getF X2 hx hZ hown (host := "") (Or.inl (hw _ (List.mem_of_getElem? (i := 53) rfl))) Via.refl e2 F1 (g := (mkF m 11 #[.val (.ref a1), .val (.int (0 : Int32)), .unset] [(.ref a1), (.int (0 : Int32))])) rfl rfl (hb hby d20_11)
  refine own_via (g' := (mkF m 14 #[.val (.ref a1), .val (.int (0 : Int32)), .unset] [(.ref b2), (.int (0 : Int32))])) st3 ?_
  obtain ⟨T4, X4, e4, st4⟩ := getF X3 hx hZ hown (Or.inr (hw _ (List.mem_of_getElem? (i := 81) rfl))) Via.refl e3 Fs (g := (mkF m 14 #[.val (.ref a1), .val (.int (0 : Int32)), .unset] [(.ref b2), (.int (0 : Int32))])) rfl rfl (hb hby d20_14)
  refine own_via (g' := (mkF m 17 #[.val (.ref a1), .val (.int (0 : Int32)), .unset] [(.int (1 : Int32)), (.int (0 : Int32))])) st4 ?_
  refine own_step (g' := (mkF m 28 #[.val (.ref a1), .val (.int (0 : Int32)), .unset] [])) (fun _ k => XS.icmpYes X4.here hx rfl (pc0 := 17) (pc' := 28) rfl (hb hby d20_17) rfl (tlt (by decide : (0 : Int32) < (1 : Int32))).1 (by decide) (by decide) k) ?_
  refine own_step (g' := (mkF m 29 #[.val (.ref a1), .val (.int (0 : Int32)), .unset] [(.ref a1)])) (fun _ k => XS.aloadN X4.here hx rfl (hb hby d20_28) rfl rfl k) ?_
  obtain ⟨T5, X5, e5, st5⟩ := getF X4 hx hZ hown (host := "") (Or.inl (hw _ (List.mem_of_getElem? (i := 53) rfl))) Via.refl e4 F1 (g := (mkF m 29 #[.val (.ref a1), .val (.int (0 : Int32)), .unset] [(.ref a1)])) rfl rfl (hb hby d20_29)
  refine own_via (g' := (mkF m 32 #[.val (.ref a1), .val (.int (0 : Int32)), .unset] [(.ref b2)])) st5 ?_
  obtain ⟨T6, X6, e6, st6⟩ := getF X5 hx hZ hown (host := "") (Or.inl (hw _ (List.mem_of_getElem? (i := 149) rfl))) Via.refl e5 Fe (g := (mkF m 32 #[.val (.ref a1), .val (.int (0 : Int32)), .unset] [(.ref b2)])) rfl rfl (hb hby d20_32)
  refine own_via (g' := (mkF m 35 #[.val (.ref a1), .val (.int (0 : Int32)), .unset] [(.ref ea)])) st6 ?_
  refine own_step (g' := (mkF m 36 #[.val (.ref a1), .val (.int (0 : Int32)), .val (.ref ea)] [])) (fun _ k => XS.astoreN X6.here hx rfl (hb hby d20_35) rfl rfl (l' := #[.val (.ref a1), .val (.int (0 : Int32)), .val (.ref ea)]) rfl k) ?_
  refine own_step (g' := (mkF m 37 #[.val (.ref a1), .val (.int (0 : Int32)), .val (.ref ea)] [(.int (0 : Int32))])) (fun _ k => XS.iloadN X6.here hx rfl (hb hby d20_36) rfl k) ?_
  refine own_step (g' := (mkF m 38 #[.val (.ref a1), .val (.int (0 : Int32)), .val (.ref ea)] [(.ref ea), (.int (0 : Int32))])) (fun _ k => XS.aloadN X6.here hx rfl (hb hby d20_37) rfl rfl k) ?_
  obtain ⟨cl7, Ar7, q7, S7, M7, H7, G7⟩ := id Ve
  refine own_step (g' := (mkF m 39 #[.val (.ref a1), .val (.int (0 : Int32)), .val (.ref ea)] [(.int (10 : Int32)), (.int (0 : Int32))])) (own_len (len_of S7 M7) (X6.arraylength hx (by rw [e6]; exact Ar7.1) (State.isArrayOf_alike hZ.alike Ar7.2.1) (g := (mkF m 38 #[.val (.ref a1), .val (.int (0 : Int32)), .val (.ref ea)] [(.ref ea), (.int (0 : Int32))])) rfl rfl (hb hby d20_38))) ?_
  refine own_step (g' := (mkF m 50 #[.val (.ref a1), .val (.int (0 : Int32)), .val (.ref ea)] [])) (fun _ k => XS.icmpYes X6.here hx rfl (pc0 := 39) (pc' := 50) rfl (hb hby d20_39) rfl (tlt (by decide : (0 : Int32) < (10 : Int32))).1 (by decide) (by decide) k) ?_
  refine own_step (g' := (mkF m 51 #[.val (.ref a1), .val (.int (0 : Int32)), .val (.ref ea)] [(.ref a1)])) (fun _ k => XS.aloadN X6.here hx rfl (hb hby d20_50) rfl rfl k) ?_
  refine own_step (g' := (mkF m 52 #[.val (.ref a1), .val (.int (0 : Int32)), .val (.ref ea)] [(.int (0 : Int32)), (.ref a1)])) (fun _ k => XS.iloadN X6.here hx rfl (hb hby d20_51) rfl k) ?_
  refine own_step (g' := (mkF m 53 #[.val (.ref a1), .val (.int (0 : Int32)), .val (.ref ea)] [(.int (1 : Int32)), (.int (0 : Int32)), (.ref a1)])) (fun _ k => XS.iconst X6.here hx rfl (hb hby d20_52) k) ?_
  refine own_step (g' := (mkF m 54 #[.val (.ref a1), .val (.int (0 : Int32)), .val (.ref ea)] [(.int (1 : Int32)), (.ref a1)])) (fun _ k => XS.iadd X6.here hx rfl (hb hby d20_53) rfl k) ?_
  obtain ⟨T8, h8, X8, e8, W8, st8⟩ := putF X6 hx hZ hown (host := "") (Or.inl (hw _ (List.mem_of_getElem? (i := 79) rfl))) Via.refl e6 F2 E1 (Or.inl (hw _ (List.mem_of_getElem? (i := 80) rfl))) (hw _ (List.mem_of_getElem? (i := 47) rfl)) (ty := .int) (by decide) rfl rfl (g := (mkF m 54 #[.val (.ref a1), .val (.int (0 : Int32)), .val (.ref ea)] [(.int (1 : Int32)), (.ref a1)])) rfl rfl (hb hby d20_54)
  have Fw8 := Fld.same W8 F2
  have N8 := Fr.snoc X8 N0 g_a1
  have K8 : Keep h0 h8 [a1] := KC0.wr W8 (Or.inl (List.mem_of_getElem? (i := 0) rfl))
  refine own_via (g' := (mkF m 57 #[.val (.ref a1), .val (.int (0 : Int32)), .val (.ref ea)] [])) st8 ?_
  refine own_step (g' := (mkF m 58 #[.val (.ref a1), .val (.int (0 : Int32)), .val (.ref ea)] [(.ref ea)])) (fun _ k => XS.aloadN X8.here hx rfl (hb hby d20_57) rfl rfl k) ?_
  refine own_step (g' := (mkF m 59 #[.val (.ref a1), .val (.int (0 : Int32)), .val (.ref ea)] [(.ref a1), (.ref ea)])) (fun _ k => XS.aloadN X8.here hx rfl (hb hby d20_58) rfl rfl k) ?_
  refine own_step (g' := (mkF m 60 #[.val (.ref a1), .val (.int (0 : Int32)), .val (.ref ea)] [(.int (0 : Int32)), (.ref a1), (.ref ea)])) (fun _ k => XS.iloadN X8.here hx rfl (hb hby d20_59) rfl k) ?_
  refine own_step (g' := (mkF m 61 #[.val (.ref a1), .val (.int (0 : Int32)), .val (.ref ea)] [(.int (0 : Int32)), (.ref a1), (.int (0 : Int32)), (.ref ea)])) (fun _ k => XS.dupX1 X8.here hx rfl (hb hby d20_60) rfl rfl rfl k) ?_
  have F_9 : Fld Z h8 a1 "java/util/ArrayList$Itr" "lastRet" "I" (.int (-1 : Int32)) := (Fld.other W8 F3 (Or.inr (slot_ne (Or.inl (hw _ (List.mem_of_getElem? (i := 57) rfl))) (Or.inl (hw _ (List.mem_of_getElem? (i := 80) rfl))) (by decide) (t := .int) (t' := .int) (by decide) (by decide))))
  have C_10 : Exa Z h8 a1 "java/util/ArrayList$Itr" := (Exa.wr W8 E1)
  obtain ⟨T11, h11, X11, e11, W11, st11⟩ := putF X8 hx hZ hown (host := "") (Or.inl (hw _ (List.mem_of_getElem? (i := 56) rfl))) Via.refl e8 F_9 C_10 (Or.inl (hw _ (List.mem_of_getElem? (i := 57) rfl))) (hw _ (List.mem_of_getElem? (i := 47) rfl)) (ty := .int) (by decide) rfl rfl (g := (mkF m 61 #[.val (.ref a1), .val (.int (0 : Int32)), .val (.ref ea)] [(.int (0 : Int32)), (.ref a1), (.int (0 : Int32)), (.ref ea)])) rfl rfl (hb hby d20_61)
  have Fw11 := Fld.same W11 F_9
  have N11 := Fr.snoc X11 N8 g_a1
  have K11 : Keep h0 h11 [a1] := K8.wr W11 (Or.inl (List.mem_of_getElem? (i := 0) rfl))
  refine own_via (g' := (mkF m 64 #[.val (.ref a1), .val (.int (0 : Int32)), .val (.ref ea)] [(.int (0 : Int32)), (.ref ea)])) st11 ?_
  have V_12 : Arv Z h11 ea kd (.object "java/lang/Object") (10 : Int32) [(.ref y0), .null, .null, .null, .null, .null, .null, .null, .null, .null] .null := ((Ve.other W8 (Ne.symm ne_a1_ea)).other W11 (Ne.symm ne_a1_ea))
  obtain ⟨cl13, Ar13, q13, S13, M13, H13, G13⟩ := id V_12
  refine own_step (g' := (mkF m 65 #[.val (.ref a1), .val (.int (0 : Int32)), .val (.ref ea)] [(.ref y0)])) (X11.aaload hx (j := (0 : Int32)) (v := (.ref y0)) (by rw [e11]; exact Ar13.1) (State.isArrayOf_alike hZ.alike Ar13.2.1) rfl Ar13.2.2 (inb_of S13 ⟨by decide, by decide⟩) (Has.at H13 (inb_of S13 ⟨by decide, by decide⟩) rfl) (g := (mkF m 64 #[.val (.ref a1), .val (.int (0 : Int32)), .val (.ref ea)] [(.int (0 : Int32)), (.ref ea)])) rfl rfl (hb hby d20_64)) ?_
  have C_14 : Exa Z h11 a1 "java/util/ArrayList$Itr" := (Exa.wr W11 C_10)
  have F_15 : Fld Z h11 a1 "java/util/ArrayList$Itr" "this$0" "Ljava/util/ArrayList;" (.ref b2) := (Fld.other W11 (Fld.other W8 F1 (Or.inr (slot_ne (Or.inr (hw _ (List.mem_of_getElem? (i := 54) rfl))) (Or.inl (hw _ (List.mem_of_getElem? (i := 80) rfl))) (by decide) (t := (.object "java/util/ArrayList")) (t' := .int) (by decide) (by decide)))) (Or.inr (slot_ne (Or.inr (hw _ (List.mem_of_getElem? (i := 54) rfl))) (Or.inl (hw _ (List.mem_of_getElem? (i := 57) rfl))) (by decide) (t := (.object "java/util/ArrayList")) (t' := .int) (by decide) (by decide))))
  have F_16 : Fld Z h11 a1 "java/util/ArrayList$Itr" "cursor" "I" (.int (1 : Int32)) := (Fld.other W11 Fw8 (Or.inr (slot_ne (Or.inl (hw _ (List.mem_of_getElem? (i := 80) rfl))) (Or.inl (hw _ (List.mem_of_getElem? (i := 57) rfl))) (by decide) (t := .int) (t' := .int) (by decide) (by decide))))
  have F_17 : Fld Z h11 a1 "java/util/ArrayList$Itr" "expectedModCount" "I" (.int (1 : Int32)) := (Fld.other W11 (Fld.other W8 F4 (Or.inr (slot_ne (Or.inl (hw _ (List.mem_of_getElem? (i := 61) rfl))) (Or.inl (hw _ (List.mem_of_getElem? (i := 80) rfl))) (by decide) (t := .int) (t' := .int) (by decide) (by decide)))) (Or.inr (slot_ne (Or.inl (hw _ (List.mem_of_getElem? (i := 61) rfl))) (Or.inl (hw _ (List.mem_of_getElem? (i := 57) rfl))) (by decide) (t := .int) (t' := .int) (by decide) (by decide))))
  exact own_retA X11 hx hret rfl rfl hlk (hb hby d20_65) e11 (by exact ⟨rfl, N11, K11, C_14, F_15, F_16, Fw11, F_17⟩) (by decide) (by decide)
theorem d9_9 : decode prog_23_method_3_code 9 = .ok (.aload_n 0, 1) := by decide +kernel
theorem d9_10 : decode prog_23_method_3_code 10 = .ok (.invokeinterface 17 1, 5) := by decide +kernel
theorem d9_15 : decode prog_23_method_3_code 15 = .ok (.goto 4, 3) := by decide +kernel
theorem pd_8 : parseMethodDescriptor "()Ljava/lang/Object;" = some ⟨[], some (.object "java/lang/Object")⟩ := by decide +kernel
set_option maxRecDepth 65536 in
set_option maxHeartbeats 40000000 in
theorem rmLam1_0 (l : Launch) (Z : State) (a0 : Array Value) (hw : ∀ d ∈ tables_1, d.before a0 Z = true) (ws : List Jvm.Cond) (a1 b2 : Addr) (ea y0 : Addr) (kd : ClassId) (h0 : Heap) (n0 : Nat) (Z0 : n0 ≤ h0.size) (E1 : Exa Z h0 a1 "java/util/ArrayList$Itr") (F1 : Fld Z h0 a1 "java/util/ArrayList$Itr" "this$0" "Ljava/util/ArrayList;" (.ref b2)) (F2 : Fld Z h0 a1 "java/util/ArrayList$Itr" "cursor" "I" (.int (0 : Int32))) (F3 : Fld Z h0 a1 "java/util/ArrayList$Itr" "lastRet" "I" (.int (-1 : Int32))) (F4 : Fld Z h0 a1 "java/util/ArrayList$Itr" "expectedModCount" "I" (.int (1 : Int32))) (E2 : Exa Z h0 b2 "java/util/ArrayList") (Fm : Fld Z h0 b2 "java/util/AbstractList" "modCount" "I" (.int (1 : Int32))) (Fs : Fld Z h0 b2 "java/util/ArrayList" "size" "I" (.int (1 : Int32))) (g_a1 : n0 ≤ a1) (Fe : Fld Z h0 b2 "java/util/ArrayList" "elementData" "[Ljava/lang/Object;" (.ref ea)) (Ve : Arv Z h0 ea kd (.object "java/lang/Object") (10 : Int32) [(.ref y0), .null, .null, .null, .null, .null, .null, .null, .null, .null] .null) :
    OMet l (⟨"com/example/cuttlefish/cuttlefish/store/RecordCursor", "lambda$over$0", "(Ljava/util/Iterator;)Ljava/lang/Object;"⟩ : MethodName) prog_23_method_3_code 1 (some (.object "java/lang/Object")) ws ({ frames := 2, cells := 0, slots := 0, locals := 26 } : Room) Z #[(.ref a1)] h0 (fun v h L => v = some (.ref y0) ∧ Fr n0 L ∧ Keep h0 h [a1] ∧ Exa Z h a1 "java/util/ArrayList$Itr" ∧ Fld Z h a1 "java/util/ArrayList$Itr" "this$0" "Ljava/util/ArrayList;" (.ref b2) ∧ Fld Z h a1 "java/util/ArrayList$Itr" "cursor" "I" (.int (1 : Int32)) ∧ Fld Z h a1 "java/util/ArrayList$Itr" "lastRet" "I" (.int (0 : Int32)) ∧ Fld Z h a1 "java/util/ArrayList$Itr" "expectedModCount" "I" (.int (1 : Int32))) := by
  refine own_body (plainFor_of_name pn_9) ?_
  intro p e s m below meth cdx T0 X0 hx hZ hby hml hown hnm hret hlk e0
  have N0 := Fr.nil n0
  refine own_entry (g' := (mkF m 0 #[.val (.ref a1)] [])) (by first | rfl | (simp [entryFrame, mkF, argsToLocals, Value.category, maxLocals]; done)) ?_
  have KC0 := Keep.refl h0 [a1]
  have ne_a1_b2 : a1 ≠ b2 := Exa.ne E1 E2 (by decide)
  have ne_a1_ea : a1 ≠ ea := Exa.neArv E1 Ve (hw _ (List.mem_of_getElem? (i := 47) rfl))
  refine own_step (g' := (mkF m 1 #[.val (.ref a1)] [(.ref a1)])) (fun _ k => XS.aloadN X0.here hx rfl (hb hby d9_0) rfl rfl k) ?_
  refine own_callI X0 hx hZ (W := 0) hown e0 (rmHas1_0 l Z a0 hw [] a1 b2 h0 n0 Z0 E1 F1 F2 F3 F4 E2 Fm Fs) E1 (hw _ (List.mem_of_getElem? (i := 70) rfl)) (hw _ (List.mem_of_getElem? (i := 71) rfl)) (mvT hZ (hw _ (List.mem_of_getElem? (i := 72) rfl))) (hw _ (List.mem_of_getElem? (i := 73) rfl)) (hw _ (List.mem_of_getElem? (i := 74) rfl)) (hw _ (List.mem_of_getElem? (i := 75) rfl)) (hw _ (List.mem_of_getElem? (i := 76) rfl)) (hw _ (List.mem_of_getElem? (i := 77) rfl)) (hw _ (List.mem_of_getElem? (i := 78) rfl)) (hw _ (List.mem_of_getElem? (i := 48) rfl)) (by decide) (by decide) (by decide) (g := (mkF m 1 #[.val (.ref a1)] [(.ref a1)])) rfl (by rw [hml]; rfl) (argsL := []) (rest := []) rfl (lenOf pd_7 rfl) rfl (by show 2 * 0 + _ ≤ _; exact Nat.le_of_eq rfl) (hb hby d9_1) (by decide) (by decide) ?_
  intro v1 T1 L1 X1 hQ1
  obtain ⟨rfl, rfl, e1⟩ := hQ1
  replace X1 := own_pureX X1
  show OGo p e below _ T1 (mkF m 6 #[.val (.ref a1)] [(.int (1 : Int32))])
  refine own_step (g' := (mkF m 9 #[.val (.ref a1)] [])) (fun _ k => XS.ifNo X1.here hx rfl (hb hby d9_6) rfl ((if0 _ _).trans (feq (by decide : ¬ ((1 : Int32) = (0 : Int32)))).1) k) ?_
  refine own_step (g' := (mkF m 10 #[.val (.ref a1)] [(.ref a1)])) (fun _ k => XS.aloadN X1.here hx rfl (hb hby d9_9) rfl rfl k) ?_
  refine own_callI X1 hx hZ (W := 0) hown e1 (rmNxt1_0 l Z a0 hw [] a1 b2 ea y0 kd h0 n0 Z0 E1 F1 F2 F3 F4 E2 Fm Fs g_a1 Fe Ve) E1 (hw _ (List.mem_of_getElem? (i := 136) rfl)) (hw _ (List.mem_of_getElem? (i := 137) rfl)) (mvT hZ (hw _ (List.mem_of_getElem? (i := 138) rfl))) (hw _ (List.mem_of_getElem? (i := 139) rfl)) (hw _ (List.mem_of_getElem? (i := 140) rfl)) (hw _ (List.mem_of_getElem? (i := 141) rfl)) (hw _ (List.mem_of_getElem? (i := 142) rfl)) (hw _ (List.mem_of_getElem? (i := 77) rfl)) (hw _ (List.mem_of_getElem? (i := 143) rfl)) (hw _ (List.mem_of_getElem? (i := 48) rfl)) (by decide) (by decide) (by decide) (g := (mkF m 10 #[.val (.ref a1)] [(.ref a1)])) rfl (by rw [hml]; rfl) (argsL := []) (rest := []) rfl (lenOf pd_8 rfl) rfl (by show 2 * 0 + _ ≤ _; exact Nat.le_of_eq rfl) (hb hby d9_10) (by decide) (by decide) ?_
  intro v2 T2 L2 X2 hQ2
  obtain ⟨rfl, Nq2, Kq2, Cn, Fn1, Fn2, Fn3, Fn4⟩ := hQ2
  have N2 := Fr.app N0 Nq2
  have K2 : Keep h0 T2.heap [a1] := KC0.trans Kq2 (allS (Or.inl (List.mem_of_getElem? (i := 0) rfl)) all0)
  show OGo p e below _ T2 (mkF m 15 #[.val (.ref a1)] [(.ref y0)])
  refine own_step (g' := (mkF m 19 #[.val (.ref a1)] [(.ref y0)])) (fun _ k => XS.goto X2.here hx rfl (pc0 := 15) (pc' := 19) rfl (hb hby d9_15) (by decide) (by decide) k) ?_
  exact own_retA X2 hx hret rfl rfl hlk (hb hby d9_19) rfl (by exact ⟨rfl, N2, K2, Cn, Fn1, Fn2, Fn3, Fn4⟩) (by decide) (by decide)
set_option maxRecDepth 65536 in
set_option maxHeartbeats 40000000 in
theorem rmHas1_1 (l : Launch) (Z : State) (a0 : Array Value) (hw : ∀ d ∈ tables_1, d.before a0 Z = true) (ws : List Jvm.Cond) (a1 b2 : Addr) (h0 : Heap) (n0 : Nat) (Z0 : n0 ≤ h0.size) (E1 : Exa Z h0 a1 "java/util/ArrayList$Itr") (F1 : Fld Z h0 a1 "java/util/ArrayList$Itr" "this$0" "Ljava/util/ArrayList;" (.ref b2)) (F2 : Fld Z h0 a1 "java/util/ArrayList$Itr" "cursor" "I" (.int (1 : Int32))) (F3 : Fld Z h0 a1 "java/util/ArrayList$Itr" "lastRet" "I" (.int (0 : Int32))) (F4 : Fld Z h0 a1 "java/util/ArrayList$Itr" "expectedModCount" "I" (.int (1 : Int32))) (E2 : Exa Z h0 b2 "java/util/ArrayList") (Fm : Fld Z h0 b2 "java/util/AbstractList" "modCount" "I" (.int (1 : Int32))) (Fs : Fld Z h0 b2 "java/util/ArrayList" "size" "I" (.int (1 : Int32))) :
    OMet l (⟨"java/util/ArrayList$Itr", "hasNext", "()Z"⟩ : MethodName) jdk_49_method_2_code 1 (some .boolean) ws ({ frames := 0, cells := 0, slots := 0, locals := 0 } : Room) Z #[(.ref a1)] h0 (fun v h L => v = some (.int (0 : Int32)) ∧ L = [] ∧ h = h0) := by
  refine own_body (plainFor_of_name pn_8) ?_
  intro p e s m below meth cdx T0 X0 hx hZ hby hml hown hnm hret hlk e0
  have N0 := Fr.nil n0
  refine own_entry (g' := (mkF m 0 #[.val (.ref a1)] [])) (by first | rfl | (simp [entryFrame, mkF, argsToLocals, Value.category, maxLocals]; done)) ?_
  have ne_a1_b2 : a1 ≠ b2 := Exa.ne E1 E2 (by decide)
  refine own_step (g' := (mkF m 1 #[.val (.ref a1)] [(.ref a1)])) (fun _ k => XS.aloadN X0.here hx rfl (hb hby d10_0) rfl rfl k) ?_
  obtain ⟨T1, X1, e1, st1⟩ := getF X0 hx hZ hown (host := "") (Or.inl (hw _ (List.mem_of_getElem? (i := 79) rfl))) Via.refl e0 F2 (g := (mkF m 1 #[.val (.ref a1)] [(.ref a1)])) rfl rfl (hb hby d10_1)
  refine own_via (g' := (mkF m 4 #[.val (.ref a1)] [(.int (1 : Int32))])) st1 ?_
  refine own_step (g' := (mkF m 5 #[.val (.ref a1)] [(.ref a1), (.int (1 : Int32))])) (fun _ k => XS.aloadN X1.here hx rfl (hb hby d10_4) rfl rfl k) ?_
  obtain ⟨T2, X2, e2, st2⟩ := getF X1 hx hZ hown (host := "") (Or.inl (hw _ (List.mem_of_getElem? (i := 53) rfl))) Via.refl e1 F1 (g := (mkF m 5 #[.val (.ref a1)] [(.ref a1), (.int (1 : Int32))])) rfl rfl (hb hby d10_5)
  refine own_via (g' := (mkF m 8 #[.val (.ref a1)] [(.ref b2), (.int (1 : Int32))])) st2 ?_
  obtain ⟨T3, X3, e3, st3⟩ := getF X2 hx hZ hown (Or.inr (hw _ (List.mem_of_getElem? (i := 81) rfl))) Via.refl e2 Fs (g := (mkF m 8 #[.val (.ref a1)] [(.ref b2), (.int (1 : Int32))])) rfl rfl (hb hby d10_8)
  refine own_via (g' := (mkF m 11 #[.val (.ref a1)] [(.int (1 : Int32)), (.int (1 : Int32))])) st3 ?_
  refine own_step (g' := (mkF m 18 #[.val (.ref a1)] [])) (fun _ k => XS.icmpYes X3.here hx rfl (pc0 := 11) (pc' := 18) rfl (hb hby d10_11) rfl (teq (by decide : (1 : Int32) = (1 : Int32))).1 (by decide) (by decide) k) ?_
  refine own_step (g' := (mkF m 19 #[.val (.ref a1)] [(.int (0 : Int32))])) (fun _ k => XS.iconst X3.here hx rfl (hb hby d10_18) k) ?_
  exact own_retN X3 hx (t := .boolean) hret (by simp) hlk (hb hby d10_19) e3 (by exact ⟨rfl, rfl, rfl⟩) (by decide) (by decide)
set_option maxRecDepth 65536 in
set_option maxHeartbeats 40000000 in
theorem rmLam1_1 (l : Launch) (Z : State) (a0 : Array Value) (hw : ∀ d ∈ tables_1, d.before a0 Z = true) (ws : List Jvm.Cond) (a1 b2 : Addr) (h0 : Heap) (n0 : Nat) (Z0 : n0 ≤ h0.size) (E1 : Exa Z h0 a1 "java/util/ArrayList$Itr") (F1 : Fld Z h0 a1 "java/util/ArrayList$Itr" "this$0" "Ljava/util/ArrayList;" (.ref b2)) (F2 : Fld Z h0 a1 "java/util/ArrayList$Itr" "cursor" "I" (.int (1 : Int32))) (F3 : Fld Z h0 a1 "java/util/ArrayList$Itr" "lastRet" "I" (.int (0 : Int32))) (F4 : Fld Z h0 a1 "java/util/ArrayList$Itr" "expectedModCount" "I" (.int (1 : Int32))) (E2 : Exa Z h0 b2 "java/util/ArrayList") (Fm : Fld Z h0 b2 "java/util/AbstractList" "modCount" "I" (.int (1 : Int32))) (Fs : Fld Z h0 b2 "java/util/ArrayList" "size" "I" (.int (1 : Int32))) :
    OMet l (⟨"com/example/cuttlefish/cuttlefish/store/RecordCursor", "lambda$over$0", "(Ljava/util/Iterator;)Ljava/lang/Object;"⟩ : MethodName) prog_23_method_3_code 1 (some (.object "java/lang/Object")) ws ({ frames := 1, cells := 0, slots := 0, locals := 12 } : Room) Z #[(.ref a1)] h0 (fun v h L => v = some .null ∧ Fr n0 L ∧ Keep h0 h [a1] ∧ Exa Z h a1 "java/util/ArrayList$Itr" ∧ Fld Z h a1 "java/util/ArrayList$Itr" "this$0" "Ljava/util/ArrayList;" (.ref b2) ∧ Fld Z h a1 "java/util/ArrayList$Itr" "cursor" "I" (.int (1 : Int32)) ∧ Fld Z h a1 "java/util/ArrayList$Itr" "lastRet" "I" (.int (0 : Int32)) ∧ Fld Z h a1 "java/util/ArrayList$Itr" "expectedModCount" "I" (.int (1 : Int32))) := by
  refine own_body (plainFor_of_name pn_9) ?_
  intro p e s m below meth cdx T0 X0 hx hZ hby hml hown hnm hret hlk e0
  have N0 := Fr.nil n0
  refine own_entry (g' := (mkF m 0 #[.val (.ref a1)] [])) (by first | rfl | (simp [entryFrame, mkF, argsToLocals, Value.category, maxLocals]; done)) ?_
  have KC0 := Keep.refl h0 [a1]
  have ne_a1_b2 : a1 ≠ b2 := Exa.ne E1 E2 (by decide)
  refine own_step (g' := (mkF m 1 #[.val (.ref a1)] [(.ref a1)])) (fun _ k => XS.aloadN X0.here hx rfl (hb hby d9_0) rfl rfl k) ?_
  refine own_callI X0 hx hZ (W := 0) hown e0 (rmHas1_1 l Z a0 hw [] a1 b2 h0 n0 Z0 E1 F1 F2 F3 F4 E2 Fm Fs) E1 (hw _ (List.mem_of_getElem? (i := 70) rfl)) (hw _ (List.mem_of_getElem? (i := 71) rfl)) (mvT hZ (hw _ (List.mem_of_getElem? (i := 72) rfl))) (hw _ (List.mem_of_getElem? (i := 73) rfl)) (hw _ (List.mem_of_getElem? (i := 74) rfl)) (hw _ (List.mem_of_getElem? (i := 75) rfl)) (hw _ (List.mem_of_getElem? (i := 76) rfl)) (hw _ (List.mem_of_getElem? (i := 77) rfl)) (hw _ (List.mem_of_getElem? (i := 78) rfl)) (hw _ (List.mem_of_getElem? (i := 48) rfl)) (by decide) (by decide) (by decide) (g := (mkF m 1 #[.val (.ref a1)] [(.ref a1)])) rfl (by rw [hml]; rfl) (argsL := []) (rest := []) rfl (lenOf pd_7 rfl) rfl (by show 2 * 0 + _ ≤ _; exact Nat.le_of_eq rfl) (hb hby d9_1) (by decide) (by decide) ?_
  intro v1 T1 L1 X1 hQ1
  obtain ⟨rfl, rfl, e1⟩ := hQ1
  replace X1 := own_pureX X1
  show OGo p e below _ T1 (mkF m 6 #[.val (.ref a1)] [(.int (0 : Int32))])
  refine own_step (g' := (mkF m 18 #[.val (.ref a1)] [])) (fun _ k => XS.ifYes X1.here hx rfl (pc0 := 6) (pc' := 18) rfl (hb hby d9_6) rfl ((if0 _ _).trans (teq (by decide : (0 : Int32) = (0 : Int32))).1) (by decide) (by decide) k) ?_
  refine own_step (g' := (mkF m 19 #[.val (.ref a1)] [.null])) (fun _ k => XS.aconstNull X1.here hx rfl (hb hby d9_18) k) ?_
  exact own_retA X1 hx hret rfl rfl hlk (hb hby d9_19) e1 (by exact ⟨rfl, N0, KC0, E1, F1, F2, F3, F4⟩) (by decide) (by decide)
set_option maxRecDepth 65536 in
set_option maxHeartbeats 40000000 in
theorem rmHas2_0 (l : Launch) (Z : State) (a0 : Array Value) (hw : ∀ d ∈ tables_1, d.before a0 Z = true) (ws : List Jvm.Cond) (a1 b2 : Addr) (h0 : Heap) (n0 : Nat) (Z0 : n0 ≤ h0.size) (E1 : Exa Z h0 a1 "java/util/ArrayList$Itr") (F1 : Fld Z h0 a1 "java/util/ArrayList$Itr" "this$0" "Ljava/util/ArrayList;" (.ref b2)) (F2 : Fld Z h0 a1 "java/util/ArrayList$Itr" "cursor" "I" (.int (0 : Int32))) (F3 : Fld Z h0 a1 "java/util/ArrayList$Itr" "lastRet" "I" (.int (-1 : Int32))) (F4 : Fld Z h0 a1 "java/util/ArrayList$Itr" "expectedModCount" "I" (.int (2 : Int32))) (E2 : Exa Z h0 b2 "java/util/ArrayList") (Fm : Fld Z h0 b2 "java/util/AbstractList" "modCount" "I" (.int (2 : Int32))) (Fs : Fld Z h0 b2 "java/util/ArrayList" "size" "I" (.int (2 : Int32))) :
    OMet l (⟨"java/util/ArrayList$Itr", "hasNext", "()Z"⟩ : MethodName) jdk_49_method_2_code 1 (some .boolean) ws ({ frames := 0, cells := 0, slots := 0, locals := 0 } : Room) Z #[(.ref a1)] h0 (fun v h L => v = some (.int (1 : Int32)) ∧ L = [] ∧ h = h0) := by
  refine own_body (plainFor_of_name pn_8) ?_
  intro p e s m below meth cdx T0 X0 hx hZ hby hml hown hnm hret hlk e0
  have N0 := Fr.nil n0
  refine own_entry (g' := (mkF m 0 #[.val (.ref a1)] [])) (by first | rfl | (simp [entryFrame, mkF, argsToLocals, Value.category, maxLocals]; done)) ?_
  have ne_a1_b2 : a1 ≠ b2 := Exa.ne E1 E2 (by decide)
  refine own_step (g' := (mkF m 1 #[.val (.ref a1)] [(.ref a1)])) (fun _ k => XS.aloadN X0.here hx rfl (hb hby d10_0) rfl rfl k) ?_
  obtain ⟨T1, X1, e1, st1⟩ := getF X0 hx hZ hown (host := "") (Or.inl (hw _ (List.mem_of_getElem? (i := 79) rfl))) Via.refl e0 F2 (g := (mkF m 1 #[.val (.ref a1)] [(.ref a1)])) rfl rfl (hb hby d10_1)
  refine own_via (g' := (mkF m 4 #[.val (.ref a1)] [(.int (0 : Int32))])) st1 ?_
  refine own_step (g' := (mkF m 5 #[.val (.ref a1)] [(.ref a1), (.int (0 : Int32))])) (fun _ k => XS.aloadN X1.here hx rfl (hb hby d10_4) rfl rfl k) ?_
  obtain ⟨T2, X2, e2, st2⟩ := getF X1 hx hZ hown (host := "") (Or.inl (hw _ (List.mem_of_getElem? (i := 53) rfl))) Via.refl e1 F1 (g := (mkF m 5 #[.val (.ref a1)] [(.ref a1), (.int (0 : Int32))])) rfl rfl (hb hby d10_5)
  refine own_via (g' := (mkF m 8 #[.val (.ref a1)] [(.ref b2), (.int (0 : Int32))])) st2 ?_
  obtain ⟨T3, X3, e3, st3⟩ := getF X2 hx hZ hown (Or.inr (hw _ (List.mem_of_getElem? (i := 81) rfl))) Via.refl e2 Fs (g := (mkF m 8 #[.val (.ref a1)] [(.ref b2), (.int (0 : Int32))])) rfl rfl (hb hby d10_8)
  refine own_via (g' := (mkF m 11 #[.val (.ref a1)] [(.int (2 : Int32)), (.int (0 : Int32))])) st3 ?_
  refine own_step (g' := (mkF m 14 #[.val (.ref a1)] [])) (fun _ k => XS.icmpNo X3.here hx rfl (hb hby d10_11) rfl (feq (by decide : ¬ ((0 : Int32) = (2 : Int32)))).1 k) ?_
  refine own_step (g' := (mkF m 15 #[.val (.ref a1)] [(.int (1 : Int32))])) (fun _ k => XS.iconst X3.here hx rfl (hb hby d10_14) k) ?_
  refine own_step (g' := (mkF m 19 #[.val (.ref a1)] [(.int (1 : Int32))])) (fun _ k => XS.goto X3.here hx rfl (pc0 := 15) (pc' := 19) rfl (hb hby d10_15) (by decide) (by decide) k) ?_
  exact own_retN X3 hx (t := .boolean) hret (by simp) hlk (hb hby d10_19) e3 (by exact ⟨rfl, rfl, rfl⟩) (by decide) (by decide)
set_option maxRecDepth 65536 in
set_option maxHeartbeats 40000000 in
theorem rmChk2_0 (l : Launch) (Z : State) (a0 : Array Value) (hw : ∀ d ∈ tables_1, d.before a0 Z = true) (ws : List Jvm.Cond) (a1 b2 : Addr) (h0 : Heap) (n0 : Nat) (Z0 : n0 ≤ h0.size) (E1 : Exa Z h0 a1 "java/util/ArrayList$Itr") (F1 : Fld Z h0 a1 "java/util/ArrayList$Itr" "this$0" "Ljava/util/ArrayList;" (.ref b2)) (F2 : Fld Z h0 a1 "java/util/ArrayList$Itr" "cursor" "I" (.int (0 : Int32))) (F3 : Fld Z h0 a1 "java/util/ArrayList$Itr" "lastRet" "I" (.int (-1 : Int32))) (F4 : Fld Z h0 a1 "java/util/ArrayList$Itr" "expectedModCount" "I" (.int (2 : Int32))) (E2 : Exa Z h0 b2 "java/util/ArrayList") (Fm : Fld Z h0 b2 "java/util/AbstractList" "modCount" "I" (.int (2 : Int32))) (Fs : Fld Z h0 b2 "java/util/ArrayList" "size" "I" (.int (2 : Int32))) :
    OMet l (⟨"java/util/ArrayList$Itr", "checkForComodification", "()V"⟩ : MethodName) jdk_49_method_6_code 1 none ws ({ frames := 0, cells := 0, slots := 0, locals := 0 } : Room) Z #[(.ref a1)] h0 (fun v h L => v = none ∧ L = [] ∧ h = h0) := by
  refine own_body (plainFor_of_name pn_8) ?_
  intro p e s m below meth cdx T0 X0 hx hZ hby hml hown hnm hret hlk e0
  have N0 := Fr.nil n0
  refine own_entry (g' := (mkF m 0 #[.val (.ref a1)] [])) (by first | rfl | (simp [entryFrame, mkF, argsToLocals, Value.category, maxLocals]; done)) ?_
  have ne_a1_b2 : a1 ≠ b2 := Exa.ne E1 E2 (by decide)
  refine own_step (g' := (mkF m 1 #[.val (.ref a1)] [(.ref a1)])) (fun _ k => XS.aloadN X0.here hx rfl (hb hby d21_0) rfl rfl k) ?_
  obtain ⟨T1, X1, e1, st1⟩ := getF X0 hx hZ hown (host := "") (Or.inl (hw _ (List.mem_of_getElem? (i := 53) rfl))) Via.refl e0 F1 (g := (mkF m 1 #[.val (.ref a1)] [(.ref a1)])) rfl rfl (hb hby d21_1)
  refine own_via (g' := (mkF m 4 #[.val (.ref a1)] [(.ref b2)])) st1 ?_
  obtain ⟨T2, X2, e2, st2⟩ := getF X1 hx hZ hown (host := "") (Or.inl (hw _ (List.mem_of_getElem? (i := 58) rfl))) (Via.of (hw _ (List.mem_of_getElem? (i := 59) rfl))) e1 Fm (g := (mkF m 4 #[.val (.ref a1)] [(.ref b2)])) rfl rfl (hb hby d21_4)
  refine own_via (g' := (mkF m 7 #[.val (.ref a1)] [(.int (2 : Int32))])) st2 ?_
  refine own_step (g' := (mkF m 8 #[.val (.ref a1)] [(.ref a1), (.int (2 : Int32))])) (fun _ k => XS.aloadN X2.here hx rfl (hb hby d21_7) rfl rfl k) ?_
  obtain ⟨T3, X3, e3, st3⟩ := getF X2 hx hZ hown (host := "") (Or.inl (hw _ (List.mem_of_getElem? (i := 60) rfl))) Via.refl e2 F4 (g := (mkF m 8 #[.val (.ref a1)] [(.ref a1), (.int (2 : Int32))])) rfl rfl (hb hby d21_8)
  refine own_via (g' := (mkF m 11 #[.val (.ref a1)] [(.int (2 : Int32)), (.int (2 : Int32))])) st3 ?_
  refine own_step (g' := (mkF m 22 #[.val (.ref a1)] [])) (fun _ k => XS.icmpYes X3.here hx rfl (pc0 := 11) (pc' := 22) rfl (hb hby d21_11) rfl (teq (by decide : (2 : Int32) = (2 : Int32))).1 (by decide) (by decide) k) ?_
  exact own_retV X3 hx hret hlk (hb hby d21_22) e3 (by exact ⟨rfl, rfl, rfl⟩) (by decide) (by decide)
set_option maxRecDepth 65536 in
set_option maxHeartbeats 40000000 in
theorem rmNxt2_0 (l : Launch) (Z : State) (a0 : Array Value) (hw : ∀ d ∈ tables_1, d.before a0 Z = true) (ws : List Jvm.Cond) (a1 b2 : Addr) (ea y0 y1 : Addr) (kd : ClassId) (h0 : Heap) (n0 : Nat) (Z0 : n0 ≤ h0.size) (E1 : Exa Z h0 a1 "java/util/ArrayList$Itr") (F1 : Fld Z h0 a1 "java/util/ArrayList$Itr" "this$0" "Ljava/util/ArrayList;" (.ref b2)) (F2 : Fld Z h0 a1 "java/util/ArrayList$Itr" "cursor" "I" (.int (0 : Int32))) (F3 : Fld Z h0 a1 "java/util/ArrayList$Itr" "lastRet" "I" (.int (-1 : Int32))) (F4 : Fld Z h0 a1 "java/util/ArrayList$Itr" "expectedModCount" "I" (.int (2 : Int32))) (E2 : Exa Z h0 b2 "java/util/ArrayList") (Fm : Fld Z h0 b2 "java/util/AbstractList" "modCount" "I" (.int (2 : Int32))) (Fs : Fld Z h0 b2 "java/util/ArrayList" "size" "I" (.int (2 : Int32))) (g_a1 : n0 ≤ a1) (Fe : Fld Z h0 b2 "java/util/ArrayList" "elementData" "[Ljava/lang/Object;" (.ref ea)) (Ve : Arv Z h0 ea kd (.object "java/lang/Object") (10 : Int32) [(.ref y0), (.ref y1), .null, .null, .null, .null, .null, .null, .null, .null] .null) :
    OMet l (⟨"java/util/ArrayList$Itr", "next", "()Ljava/lang/Object;"⟩ : MethodName) jdk_49_method_3_code 3 (some (.object "java/lang/Object")) ws ({ frames := 1, cells := 0, slots := 0, locals := 12 } : Room) Z #[(.ref a1)] h0 (fun v h L => v = some (.ref y0) ∧ Fr n0 L ∧ Keep h0 h [a1] ∧ Exa Z h a1 "java/util/ArrayList$Itr" ∧ Fld Z h a1 "java/util/ArrayList$Itr" "this$0" "Ljava/util/ArrayList;" (.ref b2) ∧ Fld Z h a1 "java/util/ArrayList$Itr" "cursor" "I" (.int (1 : Int32)) ∧ Fld Z h a1 "java/util/ArrayList$Itr" "lastRet" "I" (.int (0 : Int32)) ∧ Fld Z h a1 "java/util/ArrayList$Itr" "expectedModCount" "I" (.int (2 : Int32))) := by
  refine own_body (plainFor_of_name pn_8) ?_
  intro p e s m below meth cdx T0 X0 hx hZ hby hml hown hnm hret hlk e0
  have N0 := Fr.nil n0
  refine own_entry (g' := (mkF m 0 #[.val (.ref a1), .unset, .unset] [])) (by first | rfl | (simp [entryFrame, mkF, argsToLocals, Value.category, maxLocals]; done)) ?_
  have KC0 := Keep.refl h0 [a1]
  have ne_a1_b2 : a1 ≠ b2 := Exa.ne E1 E2 (by decide)
  have ne_a1_ea : a1 ≠ ea := Exa.neArv E1 Ve (hw _ (List.mem_of_getElem? (i := 47) rfl))
  refine own_step (g' := (mkF m 1 #[.val (.ref a1), .unset, .unset] [(.ref a1)])) (fun _ k => XS.aloadN X0.here hx rfl (hb hby d20_0) rfl rfl k) ?_
  refine own_callV X0 hx hZ (W := 0) hown e0 (rmChk2_0 l Z a0 hw [] a1 b2 h0 n0 Z0 E1 F1 F2 F3 F4 E2 Fm Fs) E1 (hw _ (List.mem_of_getElem? (i := 144) rfl)) (hw _ (List.mem_of_getElem? (i := 145) rfl)) (notFace_of_selects (args := #[]) (mvT hZ (hw _ (List.mem_of_getElem? (i := 147) rfl)))) (hw _ (List.mem_of_getElem? (i := 147) rfl)) (hw _ (List.mem_of_getElem? (i := 146) rfl)) (hw _ (List.mem_of_getElem? (i := 148) rfl)) (hw _ (List.mem_of_getElem? (i := 48) rfl)) (by decide) (by decide) (by decide) (g := (mkF m 1 #[.val (.ref a1), .unset, .unset] [(.ref a1)])) rfl (by rw [hml]; rfl) (argsL := []) (rest := []) rfl (lenOf pd_0 rfl) rfl (by show 2 * 0 + _ ≤ _; exact Nat.le_of_eq rfl) (hb hby d20_1) (by decide) (by decide) ?_
  intro v1 T1 L1 X1 hQ1
  obtain ⟨rfl, rfl, e1⟩ := hQ1
  replace X1 := own_pureX X1
  show OGo p e below _ T1 (mkF m 4 #[.val (.ref a1), .unset, .unset] [])
  refine own_step (g' := (mkF m 5 #[.val (.ref a1), .unset, .unset] [(.ref a1)])) (fun _ k => XS.aloadN X1.here hx rfl (hb hby d20_4) rfl rfl k) ?_
  obtain ⟨T2, X2, e2, st2⟩ := getF X1 hx hZ hown (host := "") (Or.inl (hw _ (List.mem_of_getElem? (i := 79) rfl))) Via.refl e1 F2 (g := (mkF m 5 #[.val (.ref a1), .unset, .unset] [(.ref a1)])) rfl rfl (hb hby d20_5)
  refine own_via (g' := (mkF m 8 #[.val (.ref a1), .unset, .unset] [(.int (0 : Int32))])) st2 ?_
  refine own_step (g' := (mkF m 9 #[.val (.ref a1), .val (.int (0 : Int32)), .unset] [])) (fun _ k => XS.istoreN X2.here hx rfl (hb hby d20_8) rfl (l' := #[.val (.ref a1), .val (.int (0 : Int32)), .unset]) rfl k) ?_
  refine own_step (g' := (mkF m 10 #[.val (.ref a1), .val (.int (0 : Int32)), .unset] [(.int (0 : Int32))])) (fun _ k => XS.iloadN X2.here hx rfl (hb hby d20_9) rfl k) ?_
  refine own_step (g' := (mkF m 11 #[.val (.ref a1), .val (.int (0 : Int32)), .unset] [(.ref a1), (.int (0 : Int32))])) (fun _ k => XS.aloadN X2.here hx rfl (hb hby d20_10) rfl rfl k) ?_
  obtain ⟨T3, X3, e3, st3⟩ := getF X2 hx hZ hown (host := "") (Or.inl (hw _ (List.mem_of_getElem? (i := 53) rfl))) Via.refl e2 F1 (g := (mkF m 11 #[.val (.ref a1), .val (.int (0 : Int32)), .unset] [(.ref a1), (.int (0 : Int32))])) rfl rfl (hb hby d20_11)
  refine own_via (g' := (mkF m 14 #[.val (.ref a1), .val (.int (0 : Int32)), .unset] [(.ref b2), (.int (0 : Int32))])) st3 ?_
  obtain ⟨T4, X4, e4, st4⟩ := getF X3 hx hZ hown (Or.inr (hw _ (List.mem_of_getElem? (i := 81) rfl))) Via.refl e3 Fs (g := (mkF m 14 #[.val (.ref a1), .val (.int (0 : Int32)), .unset] [(.ref b2), (.int (0 : Int32))])) rfl rfl (hb hby d20_14)
  refine own_via (g' := (mkF m 17 #[.val (.ref a1), .val (.int (0 : Int32)), .unset] [(.int (2 : Int32)), (.int (0 : Int32))])) st4 ?_
  refine own_step (g' := (mkF m 28 #[.val (.ref a1), .val (.int (0 : Int32)), .unset] [])) (fun _ k => XS.icmpYes X4.here hx rfl (pc0 := 17) (pc' := 28) rfl (hb hby d20_17) rfl (tlt (by decide : (0 : Int32) < (2 : Int32))).1 (by decide) (by decide) k) ?_
  refine own_step (g' := (mkF m 29 #[.val (.ref a1), .val (.int (0 : Int32)), .unset] [(.ref a1)])) (fun _ k => XS.aloadN X4.here hx rfl (hb hby d20_28) rfl rfl k) ?_
  obtain ⟨T5, X5, e5, st5⟩ := getF X4 hx hZ hown (host := "") (Or.inl (hw _ (List.mem_of_getElem? (i := 53) rfl))) Via.refl e4 F1 (g := (mkF m 29 #[.val (.ref a1), .val (.int (0 : Int32)), .unset] [(.ref a1)])) rfl rfl (hb hby d20_29)
  refine own_via (g' := (mkF m 32 #[.val (.ref a1), .val (.int (0 : Int32)), .unset] [(.ref b2)])) st5 ?_
  obtain ⟨T6, X6, e6, st6⟩ := getF X5 hx hZ hown (host := "") (Or.inl (hw _ (List.mem_of_getElem? (i := 149) rfl))) Via.refl e5 Fe (g := (mkF m 32 #[.val (.ref a1), .val (.int (0 : Int32)), .unset] [(.ref b2)])) rfl rfl (hb hby d20_32)
  refine own_via (g' := (mkF m 35 #[.val (.ref a1), .val (.int (0 : Int32)), .unset] [(.ref ea)])) st6 ?_
  refine own_step (g' := (mkF m 36 #[.val (.ref a1), .val (.int (0 : Int32)), .val (.ref ea)] [])) (fun _ k => XS.astoreN X6.here hx rfl (hb hby d20_35) rfl rfl (l' := #[.val (.ref a1), .val (.int (0 : Int32)), .val (.ref ea)]) rfl k) ?_
  refine own_step (g' := (mkF m 37 #[.val (.ref a1), .val (.int (0 : Int32)), .val (.ref ea)] [(.int (0 : Int32))])) (fun _ k => XS.iloadN X6.here hx rfl (hb hby d20_36) rfl k) ?_
  refine own_step (g' := (mkF m 38 #[.val (.ref a1), .val (.int (0 : Int32)), .val (.ref ea)] [(.ref ea), (.int (0 : Int32))])) (fun _ k => XS.aloadN X6.here hx rfl (hb hby d20_37) rfl rfl k) ?_
  obtain ⟨cl7, Ar7, q7, S7, M7, H7, G7⟩ := id Ve
  refine own_step (g' := (mkF m 39 #[.val (.ref a1), .val (.int (0 : Int32)), .val (.ref ea)] [(.int (10 : Int32)), (.int (0 : Int32))])) (own_len (len_of S7 M7) (X6.arraylength hx (by rw [e6]; exact Ar7.1) (State.isArrayOf_alike hZ.alike Ar7.2.1) (g := (mkF m 38 #[.val (.ref a1), .val (.int (0 : Int32)), .val (.ref ea)] [(.ref ea), (.int (0 : Int32))])) rfl rfl (hb hby d20_38))) ?_
  refine own_step (g' := (mkF m 50 #[.val (.ref a1), .val (.int (0 : Int32)), .val (.ref ea)] [])) (fun _ k => XS.icmpYes X6.here hx rfl (pc0 := 39) (pc' := 50) rfl (hb hby d20_39) rfl (tlt (by decide : (0 : Int32) < (10 : Int32))).1 (by decide) (by decide) k) ?_
  refine own_step (g' := (mkF m 51 #[.val (.ref a1), .val (.int (0 : Int32)), .val (.ref ea)] [(.ref a1)])) (fun _ k => XS.aloadN X6.here hx rfl (hb hby d20_50) rfl rfl k) ?_
  refine own_step (g' := (mkF m 52 #[.val (.ref a1), .val (.int (0 : Int32)), .val (.ref ea)] [(.int (0 : Int32)), (.ref a1)])) (fun _ k => XS.iloadN X6.here hx rfl (hb hby d20_51) rfl k) ?_
  refine own_step (g' := (mkF m 53 #[.val (.ref a1), .val (.int (0 : Int32)), .val (.ref ea)] [(.int (1 : Int32)), (.int (0 : Int32)), (.ref a1)])) (fun _ k => XS.iconst X6.here hx rfl (hb hby d20_52) k) ?_
  refine own_step (g' := (mkF m 54 #[.val (.ref a1), .val (.int (0 : Int32)), .val (.ref ea)] [(.int (1 : Int32)), (.ref a1)])) (fun _ k => XS.iadd X6.here hx rfl (hb hby d20_53) rfl k) ?_
  obtain ⟨T8, h8, X8, e8, W8, st8⟩ := putF X6 hx hZ hown (host := "") (Or.inl (hw _ (List.mem_of_getElem? (i := 79) rfl))) Via.refl e6 F2 E1 (Or.inl (hw _ (List.mem_of_getElem? (i := 80) rfl))) (hw _ (List.mem_of_getElem? (i := 47) rfl)) (ty := .int) (by decide) rfl rfl (g := (mkF m 54 #[.val (.ref a1), .val (.int (0 : Int32)), .val (.ref ea)] [(.int (1 : Int32)), (.ref a1)])) rfl rfl (hb hby d20_54)
  have Fw8 := Fld.same W8 F2
  have N8 := Fr.snoc X8 N0 g_a1
  have K8 : Keep h0 h8 [a1] := KC0.wr W8 (Or.inl (List.mem_of_getElem? (i := 0) rfl))
  refine own_via (g' := (mkF m 57 #[.val (.ref a1), .val (.int (0 : Int32)), .val (.ref ea)] [])) st8 ?_
  refine own_step (g' := (mkF m 58 #[.val (.ref a1), .val (.int (0 : Int32)), .val (.ref ea)] [(.ref ea)])) (fun _ k => XS.aloadN X8.here hx rfl (hb hby d20_57) rfl rfl k) ?_
  refine own_step (g' := (mkF m 59 #[.val (.ref a1), .val (.int (0 : Int32)), .val (.ref ea)] [(.ref a1), (.ref ea)])) (fun _ k => XS.aloadN X8.here hx rfl (hb hby d20_58) rfl rfl k) ?_
  refine own_step (g' := (mkF m 60 #[.val (.ref a1), .val (.int (0 : Int32)), .val (.ref ea)] [(.int (0 : Int32)), (.ref a1), (.ref ea)])) (fun _ k => XS.iloadN X8.here hx rfl (hb hby d20_59) rfl k) ?_
  refine own_step (g' := (mkF m 61 #[.val (.ref a1), .val (.int (0 : Int32)), .val (.ref ea)] [(.int (0 : Int32)), (.ref a1), (.int (0 : Int32)), (.ref ea)])) (fun _ k => XS.dupX1 X8.here hx rfl (hb hby d20_60) rfl rfl rfl k) ?_
  have F_9 : Fld Z h8 a1 "java/util/ArrayList$Itr" "lastRet" "I" (.int (-1 : Int32)) := (Fld.other W8 F3 (Or.inr (slot_ne (Or.inl (hw _ (List.mem_of_getElem? (i := 57) rfl))) (Or.inl (hw _ (List.mem_of_getElem? (i := 80) rfl))) (by decide) (t := .int) (t' := .int) (by decide) (by decide))))
  have C_10 : Exa Z h8 a1 "java/util/ArrayList$Itr" := (Exa.wr W8 E1)
  obtain ⟨T11, h11, X11, e11, W11, st11⟩ := putF X8 hx hZ hown (host := "") (Or.inl (hw _ (List.mem_of_getElem? (i := 56) rfl))) Via.refl e8 F_9 C_10 (Or.inl (hw _ (List.mem_of_getElem? (i := 57) rfl))) (hw _ (List.mem_of_getElem? (i := 47) rfl)) (ty := .int) (by decide) rfl rfl (g := (mkF m 61 #[.val (.ref a1), .val (.int (0 : Int32)), .val (.ref ea)] [(.int (0 : Int32)), (.ref a1), (.int (0 : Int32)), (.ref ea)])) rfl rfl (hb hby d20_61)
  have Fw11 := Fld.same W11 F_9
  have N11 := Fr.snoc X11 N8 g_a1
  have K11 : Keep h0 h11 [a1] := K8.wr W11 (Or.inl (List.mem_of_getElem? (i := 0) rfl))
  refine own_via (g' := (mkF m 64 #[.val (.ref a1), .val (.int (0 : Int32)), .val (.ref ea)] [(.int (0 : Int32)), (.ref ea)])) st11 ?_
  have V_12 : Arv Z h11 ea kd (.object "java/lang/Object") (10 : Int32) [(.ref y0), (.ref y1), .null, .null, .null, .null, .null, .null, .null, .null] .null := ((Ve.other W8 (Ne.symm ne_a1_ea)).other W11 (Ne.symm ne_a1_ea))
  obtain ⟨cl13, Ar13, q13, S13, M13, H13, G13⟩ := id V_12
  refine own_step (g' := (mkF m 65 #[.val (.ref a1), .val (.int (0 : Int32)), .val (.ref ea)] [(.ref y0)])) (X11.aaload hx (j := (0 : Int32)) (v := (.ref y0)) (by rw [e11]; exact Ar13.1) (State.isArrayOf_alike hZ.alike Ar13.2.1) rfl Ar13.2.2 (inb_of S13 ⟨by decide, by decide⟩) (Has.at H13 (inb_of S13 ⟨by decide, by decide⟩) rfl) (g := (mkF m 64 #[.val (.ref a1), .val (.int (0 : Int32)), .val (.ref ea)] [(.int (0 : Int32)), (.ref ea)])) rfl rfl (hb hby d20_64)) ?_
  have C_14 : Exa Z h11 a1 "java/util/ArrayList$Itr" := (Exa.wr W11 C_10)
  have F_15 : Fld Z h11 a1 "java/util/ArrayList$Itr" "this$0" "Ljava/util/ArrayList;" (.ref b2) := (Fld.other W11 (Fld.other W8 F1 (Or.inr (slot_ne (Or.inr (hw _ (List.mem_of_getElem? (i := 54) rfl))) (Or.inl (hw _ (List.mem_of_getElem? (i := 80) rfl))) (by decide) (t := (.object "java/util/ArrayList")) (t' := .int) (by decide) (by decide)))) (Or.inr (slot_ne (Or.inr (hw _ (List.mem_of_getElem? (i := 54) rfl))) (Or.inl (hw _ (List.mem_of_getElem? (i := 57) rfl))) (by decide) (t := (.object "java/util/ArrayList")) (t' := .int) (by decide) (by decide))))
  have F_16 : Fld Z h11 a1 "java/util/ArrayList$Itr" "cursor" "I" (.int (1 : Int32)) := (Fld.other W11 Fw8 (Or.inr (slot_ne (Or.inl (hw _ (List.mem_of_getElem? (i := 80) rfl))) (Or.inl (hw _ (List.mem_of_getElem? (i := 57) rfl))) (by decide) (t := .int) (t' := .int) (by decide) (by decide))))
  have F_17 : Fld Z h11 a1 "java/util/ArrayList$Itr" "expectedModCount" "I" (.int (2 : Int32)) := (Fld.other W11 (Fld.other W8 F4 (Or.inr (slot_ne (Or.inl (hw _ (List.mem_of_getElem? (i := 61) rfl))) (Or.inl (hw _ (List.mem_of_getElem? (i := 80) rfl))) (by decide) (t := .int) (t' := .int) (by decide) (by decide)))) (Or.inr (slot_ne (Or.inl (hw _ (List.mem_of_getElem? (i := 61) rfl))) (Or.inl (hw _ (List.mem_of_getElem? (i := 57) rfl))) (by decide) (t := .int) (t' := .int) (by decide) (by decide))))
  exact own_retA X11 hx hret rfl rfl hlk (hb hby d20_65) e11 (by exact ⟨rfl, N11, K11, C_14, F_15, F_16, Fw11, F_17⟩) (by decide) (by decide)
set_option maxRecDepth 65536 in
set_option maxHeartbeats 40000000 in
theorem rmLam2_0 (l : Launch) (Z : State) (a0 : Array Value) (hw : ∀ d ∈ tables_1, d.before a0 Z = true) (ws : List Jvm.Cond) (a1 b2 : Addr) (ea y0 y1 : Addr) (kd : ClassId) (h0 : Heap) (n0 : Nat) (Z0 : n0 ≤ h0.size) (E1 : Exa Z h0 a1 "java/util/ArrayList$Itr") (F1 : Fld Z h0 a1 "java/util/ArrayList$Itr" "this$0" "Ljava/util/ArrayList;" (.ref b2)) (F2 : Fld Z h0 a1 "java/util/ArrayList$Itr" "cursor" "I" (.int (0 : Int32))) (F3 : Fld Z h0 a1 "java/util/ArrayList$Itr" "lastRet" "I" (.int (-1 : Int32))) (F4 : Fld Z h0 a1 "java/util/ArrayList$Itr" "expectedModCount" "I" (.int (2 : Int32))) (E2 : Exa Z h0 b2 "java/util/ArrayList") (Fm : Fld Z h0 b2 "java/util/AbstractList" "modCount" "I" (.int (2 : Int32))) (Fs : Fld Z h0 b2 "java/util/ArrayList" "size" "I" (.int (2 : Int32))) (g_a1 : n0 ≤ a1) (Fe : Fld Z h0 b2 "java/util/ArrayList" "elementData" "[Ljava/lang/Object;" (.ref ea)) (Ve : Arv Z h0 ea kd (.object "java/lang/Object") (10 : Int32) [(.ref y0), (.ref y1), .null, .null, .null, .null, .null, .null, .null, .null] .null) :
    OMet l (⟨"com/example/cuttlefish/cuttlefish/store/RecordCursor", "lambda$over$0", "(Ljava/util/Iterator;)Ljava/lang/Object;"⟩ : MethodName) prog_23_method_3_code 1 (some (.object "java/lang/Object")) ws ({ frames := 2, cells := 0, slots := 0, locals := 26 } : Room) Z #[(.ref a1)] h0 (fun v h L => v = some (.ref y0) ∧ Fr n0 L ∧ Keep h0 h [a1] ∧ Exa Z h a1 "java/util/ArrayList$Itr" ∧ Fld Z h a1 "java/util/ArrayList$Itr" "this$0" "Ljava/util/ArrayList;" (.ref b2) ∧ Fld Z h a1 "java/util/ArrayList$Itr" "cursor" "I" (.int (1 : Int32)) ∧ Fld Z h a1 "java/util/ArrayList$Itr" "lastRet" "I" (.int (0 : Int32)) ∧ Fld Z h a1 "java/util/ArrayList$Itr" "expectedModCount" "I" (.int (2 : Int32))) := by
  refine own_body (plainFor_of_name pn_9) ?_
  intro p e s m below meth cdx T0 X0 hx hZ hby hml hown hnm hret hlk e0
  have N0 := Fr.nil n0
  refine own_entry (g' := (mkF m 0 #[.val (.ref a1)] [])) (by first | rfl | (simp [entryFrame, mkF, argsToLocals, Value.category, maxLocals]; done)) ?_
  have KC0 := Keep.refl h0 [a1]
  have ne_a1_b2 : a1 ≠ b2 := Exa.ne E1 E2 (by decide)
  have ne_a1_ea : a1 ≠ ea := Exa.neArv E1 Ve (hw _ (List.mem_of_getElem? (i := 47) rfl))
  refine own_step (g' := (mkF m 1 #[.val (.ref a1)] [(.ref a1)])) (fun _ k => XS.aloadN X0.here hx rfl (hb hby d9_0) rfl rfl k) ?_
  refine own_callI X0 hx hZ (W := 0) hown e0 (rmHas2_0 l Z a0 hw [] a1 b2 h0 n0 Z0 E1 F1 F2 F3 F4 E2 Fm Fs) E1 (hw _ (List.mem_of_getElem? (i := 70) rfl)) (hw _ (List.mem_of_getElem? (i := 71) rfl)) (mvT hZ (hw _ (List.mem_of_getElem? (i := 72) rfl))) (hw _ (List.mem_of_getElem? (i := 73) rfl)) (hw _ (List.mem_of_getElem? (i := 74) rfl)) (hw _ (List.mem_of_getElem? (i := 75) rfl)) (hw _ (List.mem_of_getElem? (i := 76) rfl)) (hw _ (List.mem_of_getElem? (i := 77) rfl)) (hw _ (List.mem_of_getElem? (i := 78) rfl)) (hw _ (List.mem_of_getElem? (i := 48) rfl)) (by decide) (by decide) (by decide) (g := (mkF m 1 #[.val (.ref a1)] [(.ref a1)])) rfl (by rw [hml]; rfl) (argsL := []) (rest := []) rfl (lenOf pd_7 rfl) rfl (by show 2 * 0 + _ ≤ _; exact Nat.le_of_eq rfl) (hb hby d9_1) (by decide) (by decide) ?_
  intro v1 T1 L1 X1 hQ1
  obtain ⟨rfl, rfl, e1⟩ := hQ1
  replace X1 := own_pureX X1
  show OGo p e below _ T1 (mkF m 6 #[.val (.ref a1)] [(.int (1 : Int32))])
  refine own_step (g' := (mkF m 9 #[.val (.ref a1)] [])) (fun _ k => XS.ifNo X1.here hx rfl (hb hby d9_6) rfl ((if0 _ _).trans (feq (by decide : ¬ ((1 : Int32) = (0 : Int32)))).1) k) ?_
  refine own_step (g' := (mkF m 10 #[.val (.ref a1)] [(.ref a1)])) (fun _ k => XS.aloadN X1.here hx rfl (hb hby d9_9) rfl rfl k) ?_
  refine own_callI X1 hx hZ (W := 0) hown e1 (rmNxt2_0 l Z a0 hw [] a1 b2 ea y0 y1 kd h0 n0 Z0 E1 F1 F2 F3 F4 E2 Fm Fs g_a1 Fe Ve) E1 (hw _ (List.mem_of_getElem? (i := 136) rfl)) (hw _ (List.mem_of_getElem? (i := 137) rfl)) (mvT hZ (hw _ (List.mem_of_getElem? (i := 138) rfl))) (hw _ (List.mem_of_getElem? (i := 139) rfl)) (hw _ (List.mem_of_getElem? (i := 140) rfl)) (hw _ (List.mem_of_getElem? (i := 141) rfl)) (hw _ (List.mem_of_getElem? (i := 142) rfl)) (hw _ (List.mem_of_getElem? (i := 77) rfl)) (hw _ (List.mem_of_getElem? (i := 143) rfl)) (hw _ (List.mem_of_getElem? (i := 48) rfl)) (by decide) (by decide) (by decide) (g := (mkF m 10 #[.val (.ref a1)] [(.ref a1)])) rfl (by rw [hml]; rfl) (argsL := []) (rest := []) rfl (lenOf pd_8 rfl) rfl (by show 2 * 0 + _ ≤ _; exact Nat.le_of_eq rfl) (hb hby d9_10) (by decide) (by decide) ?_
  intro v2 T2 L2 X2 hQ2
  obtain ⟨rfl, Nq2, Kq2, Cn, Fn1, Fn2, Fn3, Fn4⟩ := hQ2
  have N2 := Fr.app N0 Nq2
  have K2 : Keep h0 T2.heap [a1] := KC0.trans Kq2 (allS (Or.inl (List.mem_of_getElem? (i := 0) rfl)) all0)
  show OGo p e below _ T2 (mkF m 15 #[.val (.ref a1)] [(.ref y0)])
  refine own_step (g' := (mkF m 19 #[.val (.ref a1)] [(.ref y0)])) (fun _ k => XS.goto X2.here hx rfl (pc0 := 15) (pc' := 19) rfl (hb hby d9_15) (by decide) (by decide) k) ?_
  exact own_retA X2 hx hret rfl rfl hlk (hb hby d9_19) rfl (by exact ⟨rfl, N2, K2, Cn, Fn1, Fn2, Fn3, Fn4⟩) (by decide) (by decide)
set_option maxRecDepth 65536 in
set_option maxHeartbeats 40000000 in
theorem rmHas2_1 (l : Launch) (Z : State) (a0 : Array Value) (hw : ∀ d ∈ tables_1, d.before a0 Z = true) (ws : List Jvm.Cond) (a1 b2 : Addr) (h0 : Heap) (n0 : Nat) (Z0 : n0 ≤ h0.size) (E1 : Exa Z h0 a1 "java/util/ArrayList$Itr") (F1 : Fld Z h0 a1 "java/util/ArrayList$Itr" "this$0" "Ljava/util/ArrayList;" (.ref b2)) (F2 : Fld Z h0 a1 "java/util/ArrayList$Itr" "cursor" "I" (.int (1 : Int32))) (F3 : Fld Z h0 a1 "java/util/ArrayList$Itr" "lastRet" "I" (.int (0 : Int32))) (F4 : Fld Z h0 a1 "java/util/ArrayList$Itr" "expectedModCount" "I" (.int (2 : Int32))) (E2 : Exa Z h0 b2 "java/util/ArrayList") (Fm : Fld Z h0 b2 "java/util/AbstractList" "modCount" "I" (.int (2 : Int32))) (Fs : Fld Z h0 b2 "java/util/ArrayList" "size" "I" (.int (2 : Int32))) :
    OMet l (⟨"java/util/ArrayList$Itr", "hasNext", "()Z"⟩ : MethodName) jdk_49_method_2_code 1 (some .boolean) ws ({ frames := 0, cells := 0, slots := 0, locals := 0 } : Room) Z #[(.ref a1)] h0 (fun v h L => v = some (.int (1 : Int32)) ∧ L = [] ∧ h = h0) := by
  refine own_body (plainFor_of_name pn_8) ?_
  intro p e s m below meth cdx T0 X0 hx hZ hby hml hown hnm hret hlk e0
  have N0 := Fr.nil n0
  refine own_entry (g' := (mkF m 0 #[.val (.ref a1)] [])) (by first | rfl | (simp [entryFrame, mkF, argsToLocals, Value.category, maxLocals]; done)) ?_
  have ne_a1_b2 : a1 ≠ b2 := Exa.ne E1 E2 (by decide)
  refine own_step (g' := (mkF m 1 #[.val (.ref a1)] [(.ref a1)])) (fun _ k => XS.aloadN X0.here hx rfl (hb hby d10_0) rfl rfl k) ?_
  obtain ⟨T1, X1, e1, st1⟩ := getF X0 hx hZ hown (host := "") (Or.inl (hw _ (List.mem_of_getElem? (i := 79) rfl))) Via.refl e0 F2 (g := (mkF m 1 #[.val (.ref a1)] [(.ref a1)])) rfl rfl (hb hby d10_1)
  refine own_via (g' := (mkF m 4 #[.val (.ref a1)] [(.int (1 : Int32))])) st1 ?_
  refine own_step (g' := (mkF m 5 #[.val (.ref a1)] [(.ref a1), (.int (1 : Int32))])) (fun _ k => XS.aloadN X1.here hx rfl (hb hby d10_4) rfl rfl k) ?_
  obtain ⟨T2, X2, e2, st2⟩ := getF X1 hx hZ hown (host := "") (Or.inl (hw _ (List.mem_of_getElem? (i := 53) rfl))) Via.refl e1 F1 (g := (mkF m 5 #[.val (.ref a1)] [(.ref a1), (.int (1 : Int32))])) rfl rfl (hb hby d10_5)
  refine own_via (g' := (mkF m 8 #[.val (.ref a1)] [(.ref b2), (.int (1 : Int32))])) st2 ?_
  obtain ⟨T3, X3, e3, st3⟩ := getF X2 hx hZ hown (Or.inr (hw _ (List.mem_of_getElem? (i := 81) rfl))) Via.refl e2 Fs (g := (mkF m 8 #[.val (.ref a1)] [(.ref b2), (.int (1 : Int32))])) rfl rfl (hb hby d10_8)
  refine own_via (g' := (mkF m 11 #[.val (.ref a1)] [(.int (2 : Int32)), (.int (1 : Int32))])) st3 ?_
  refine own_step (g' := (mkF m 14 #[.val (.ref a1)] [])) (fun _ k => XS.icmpNo X3.here hx rfl (hb hby d10_11) rfl (feq (by decide : ¬ ((1 : Int32) = (2 : Int32)))).1 k) ?_
  refine own_step (g' := (mkF m 15 #[.val (.ref a1)] [(.int (1 : Int32))])) (fun _ k => XS.iconst X3.here hx rfl (hb hby d10_14) k) ?_
  refine own_step (g' := (mkF m 19 #[.val (.ref a1)] [(.int (1 : Int32))])) (fun _ k => XS.goto X3.here hx rfl (pc0 := 15) (pc' := 19) rfl (hb hby d10_15) (by decide) (by decide) k) ?_
  exact own_retN X3 hx (t := .boolean) hret (by simp) hlk (hb hby d10_19) e3 (by exact ⟨rfl, rfl, rfl⟩) (by decide) (by decide)
set_option maxRecDepth 65536 in
set_option maxHeartbeats 40000000 in
theorem rmChk2_1 (l : Launch) (Z : State) (a0 : Array Value) (hw : ∀ d ∈ tables_1, d.before a0 Z = true) (ws : List Jvm.Cond) (a1 b2 : Addr) (h0 : Heap) (n0 : Nat) (Z0 : n0 ≤ h0.size) (E1 : Exa Z h0 a1 "java/util/ArrayList$Itr") (F1 : Fld Z h0 a1 "java/util/ArrayList$Itr" "this$0" "Ljava/util/ArrayList;" (.ref b2)) (F2 : Fld Z h0 a1 "java/util/ArrayList$Itr" "cursor" "I" (.int (1 : Int32))) (F3 : Fld Z h0 a1 "java/util/ArrayList$Itr" "lastRet" "I" (.int (0 : Int32))) (F4 : Fld Z h0 a1 "java/util/ArrayList$Itr" "expectedModCount" "I" (.int (2 : Int32))) (E2 : Exa Z h0 b2 "java/util/ArrayList") (Fm : Fld Z h0 b2 "java/util/AbstractList" "modCount" "I" (.int (2 : Int32))) (Fs : Fld Z h0 b2 "java/util/ArrayList" "size" "I" (.int (2 : Int32))) :
    OMet l (⟨"java/util/ArrayList$Itr", "checkForComodification", "()V"⟩ : MethodName) jdk_49_method_6_code 1 none ws ({ frames := 0, cells := 0, slots := 0, locals := 0 } : Room) Z #[(.ref a1)] h0 (fun v h L => v = none ∧ L = [] ∧ h = h0) := by
  refine own_body (plainFor_of_name pn_8) ?_
  intro p e s m below meth cdx T0 X0 hx hZ hby hml hown hnm hret hlk e0
  have N0 := Fr.nil n0
  refine own_entry (g' := (mkF m 0 #[.val (.ref a1)] [])) (by first | rfl | (simp [entryFrame, mkF, argsToLocals, Value.category, maxLocals]; done)) ?_
  have ne_a1_b2 : a1 ≠ b2 := Exa.ne E1 E2 (by decide)
  refine own_step (g' := (mkF m 1 #[.val (.ref a1)] [(.ref a1)])) (fun _ k => XS.aloadN X0.here hx rfl (hb hby d21_0) rfl rfl k) ?_
  obtain ⟨T1, X1, e1, st1⟩ := getF X0 hx hZ hown (host := "") (Or.inl (hw _ (List.mem_of_getElem? (i := 53) rfl))) Via.refl e0 F1 (g := (mkF m 1 #[.val (.ref a1)] [(.ref a1)])) rfl rfl (hb hby d21_1)
  refine own_via (g' := (mkF m 4 #[.val (.ref a1)] [(.ref b2)])) st1 ?_
  obtain ⟨T2, X2, e2, st2⟩ := getF X1 hx hZ hown (host := "") (Or.inl (hw _ (List.mem_of_getElem? (i := 58) rfl))) (Via.of (hw _ (List.mem_of_getElem? (i := 59) rfl))) e1 Fm (g := (mkF m 4 #[.val (.ref a1)] [(.ref b2)])) rfl rfl (hb hby d21_4)
  refine own_via (g' := (mkF m 7 #[.val (.ref a1)] [(.int (2 : Int32))])) st2 ?_
  refine own_step (g' := (mkF m 8 #[.val (.ref a1)] [(.ref a1), (.int (2 : Int32))])) (fun _ k => XS.aloadN X2.here hx rfl (hb hby d21_7) rfl rfl k) ?_
  obtain ⟨T3, X3, e3, st3⟩ := getF X2 hx hZ hown (host := "") (Or.inl (hw _ (List.mem_of_getElem? (i := 60) rfl))) Via.refl e2 F4 (g := (mkF m 8 #[.val (.ref a1)] [(.ref a1), (.int (2 : Int32))])) rfl rfl (hb hby d21_8)
  refine own_via (g' := (mkF m 11 #[.val (.ref a1)] [(.int (2 : Int32)), (.int (2 : Int32))])) st3 ?_
  refine own_step (g' := (mkF m 22 #[.val (.ref a1)] [])) (fun _ k => XS.icmpYes X3.here hx rfl (pc0 := 11) (pc' := 22) rfl (hb hby d21_11) rfl (teq (by decide : (2 : Int32) = (2 : Int32))).1 (by decide) (by decide) k) ?_
  exact own_retV X3 hx hret hlk (hb hby d21_22) e3 (by exact ⟨rfl, rfl, rfl⟩) (by decide) (by decide)
set_option maxRecDepth 65536 in
set_option maxHeartbeats 40000000 in
theorem rmNxt2_1 (l : Launch) (Z : State) (a0 : Array Value) (hw : ∀ d ∈ tables_1, d.before a0 Z = true) (ws : List Jvm.Cond) (a1 b2 : Addr) (ea y0 y1 : Addr) (kd : ClassId) (h0 : Heap) (n0 : Nat) (Z0 : n0 ≤ h0.size) (E1 : Exa Z h0 a1 "java/util/ArrayList$Itr") (F1 : Fld Z h0 a1 "java/util/ArrayList$Itr" "this$0" "Ljava/util/ArrayList;" (.ref b2)) (F2 : Fld Z h0 a1 "java/util/ArrayList$Itr" "cursor" "I" (.int (1 : Int32))) (F3 : Fld Z h0 a1 "java/util/ArrayList$Itr" "lastRet" "I" (.int (0 : Int32))) (F4 : Fld Z h0 a1 "java/util/ArrayList$Itr" "expectedModCount" "I" (.int (2 : Int32))) (E2 : Exa Z h0 b2 "java/util/ArrayList") (Fm : Fld Z h0 b2 "java/util/AbstractList" "modCount" "I" (.int (2 : Int32))) (Fs : Fld Z h0 b2 "java/util/ArrayList" "size" "I" (.int (2 : Int32))) (g_a1 : n0 ≤ a1) (Fe : Fld Z h0 b2 "java/util/ArrayList" "elementData" "[Ljava/lang/Object;" (.ref ea)) (Ve : Arv Z h0 ea kd (.object "java/lang/Object") (10 : Int32) [(.ref y0), (.ref y1), .null, .null, .null, .null, .null, .null, .null, .null] .null) :
    OMet l (⟨"java/util/ArrayList$Itr", "next", "()Ljava/lang/Object;"⟩ : MethodName) jdk_49_method_3_code 3 (some (.object "java/lang/Object")) ws ({ frames := 1, cells := 0, slots := 0, locals := 12 } : Room) Z #[(.ref a1)] h0 (fun v h L => v = some (.ref y1) ∧ Fr n0 L ∧ Keep h0 h [a1] ∧ Exa Z h a1 "java/util/ArrayList$Itr" ∧ Fld Z h a1 "java/util/ArrayList$Itr" "this$0" "Ljava/util/ArrayList;" (.ref b2) ∧ Fld Z h a1 "java/util/ArrayList$Itr" "cursor" "I" (.int (2 : Int32)) ∧ Fld Z h a1 "java/util/ArrayList$Itr" "lastRet" "I" (.int (1 : Int32)) ∧ Fld Z h a1 "java/util/ArrayList$Itr" "expectedModCount" "I" (.int (2 : Int32))) := by
  refine own_body (plainFor_of_name pn_8) ?_
  intro p e s m below meth cdx T0 X0 hx hZ hby hml hown hnm hret hlk e0
  have N0 := Fr.nil n0
  refine own_entry (g' := (mkF m 0 #[.val (.ref a1), .unset, .unset] [])) (by first | rfl | (simp [entryFrame, mkF, argsToLocals, Value.category, maxLocals]; done)) ?_
  have KC0 := Keep.refl h0 [a1]
  have ne_a1_b2 : a1 ≠ b2 := Exa.ne E1 E2 (by decide)
  have ne_a1_ea : a1 ≠ ea := Exa.neArv E1 Ve (hw _ (List.mem_of_getElem? (i := 47) rfl))
  refine own_step (g' := (mkF m 1 #[.val (.ref a1), .unset, .unset] [(.ref a1)])) (fun _ k => XS.aloadN X0.here hx rfl (hb hby d20_0) rfl rfl k) ?_
  refine own_callV X0 hx hZ (W := 0) hown e0 (rmChk2_1 l Z a0 hw [] a1 b2 h0 n0 Z0 E1 F1 F2 F3 F4 E2 Fm Fs) E1 (hw _ (List.mem_of_getElem? (i := 144) rfl)) (hw _ (List.mem_of_getElem? (i := 145) rfl)) (notFace_of_selects (args := #[]) (mvT hZ (hw _ (List.mem_of_getElem? (i := 147) rfl)))) (hw _ (List.mem_of_getElem? (i := 147) rfl)) (hw _ (List.mem_of_getElem? (i := 146) rfl)) (hw _ (List.mem_of_getElem? (i := 148) rfl)) (hw _ (List.mem_of_getElem? (i := 48) rfl)) (by decide) (by decide) (by decide) (g := (mkF m 1 #[.val (.ref a1), .unset, .unset] [(.ref a1)])) rfl (by rw [hml]; rfl) (argsL := []) (rest := []) rfl (lenOf pd_0 rfl) rfl (by show 2 * 0 + _ ≤ _; exact Nat.le_of_eq rfl) (hb hby d20_1) (by decide) (by decide) ?_
  intro v1 T1 L1 X1 hQ1
  obtain ⟨rfl, rfl, e1⟩ := hQ1
  replace X1 := own_pureX X1
  show OGo p e below _ T1 (mkF m 4 #[.val (.ref a1), .unset, .unset] [])
  refine own_step (g' := (mkF m 5 #[.val (.ref a1), .unset, .unset] [(.ref a1)])) (fun _ k => XS.aloadN X1.here hx rfl (hb hby d20_4) rfl rfl k) ?_
  obtain ⟨T2, X2, e2, st2⟩ := getF X1 hx hZ hown (host := "") (Or.inl (hw _ (List.mem_of_getElem? (i := 79) rfl))) Via.refl e1 F2 (g := (mkF m 5 #[.val (.ref a1), .unset, .unset] [(.ref a1)])) rfl rfl (hb hby d20_5)
  refine own_via (g' := (mkF m 8 #[.val (.ref a1), .unset, .unset] [(.int (1 : Int32))])) st2 ?_
  refine own_step (g' := (mkF m 9 #[.val (.ref a1), .val (.int (1 : Int32)), .unset] [])) (fun _ k => XS.istoreN X2.here hx rfl (hb hby d20_8) rfl (l' := #[.val (.ref a1), .val (.int (1 : Int32)), .unset]) rfl k) ?_
  refine own_step (g' := (mkF m 10 #[.val (.ref a1), .val (.int (1 : Int32)), .unset] [(.int (1 : Int32))])) (fun _ k => XS.iloadN X2.here hx rfl (hb hby d20_9) rfl k) ?_
  refine own_step (g' := (mkF m 11 #[.val (.ref a1), .val (.int (1 : Int32)), .unset] [(.ref a1), (.int (1 : Int32))])) (fun _ k => XS.aloadN X2.here hx rfl (hb hby d20_10) rfl rfl k) ?_
  obtain ⟨T3, X3, e3, st3⟩ := getF X2 hx hZ hown (host := "") (Or.inl (hw _ (List.mem_of_getElem? (i := 53) rfl))) Via.refl e2 F1 (g := (mkF m 11 #[.val (.ref a1), .val (.int (1 : Int32)), .unset] [(.ref a1), (.int (1 : Int32))])) rfl rfl (hb hby d20_11)
  refine own_via (g' := (mkF m 14 #[.val (.ref a1), .val (.int (1 : Int32)), .unset] [(.ref b2), (.int (1 : Int32))])) st3 ?_
  obtain ⟨T4, X4, e4, st4⟩ := getF X3 hx hZ hown (Or.inr (hw _ (List.mem_of_getElem? (i := 81) rfl))) Via.refl e3 Fs (g := (mkF m 14 #[.val (.ref a1), .val (.int (1 : Int32)), .unset] [(.ref b2), (.int (1 : Int32))])) rfl rfl (hb hby d20_14)
  refine own_via (g' := (mkF m 17 #[.val (.ref a1), .val (.int (1 : Int32)), .unset] [(.int (2 : Int32)), (.int (1 : Int32))])) st4 ?_
  refine own_step (g' := (mkF m 28 #[.val (.ref a1), .val (.int (1 : Int32)), .unset] [])) (fun _ k => XS.icmpYes X4.here hx rfl (pc0 := 17) (pc' := 28) rfl (hb hby d20_17) rfl (tlt (by decide : (1 : Int32) < (2 : Int32))).1 (by decide) (by decide) k) ?_
  refine own_step (g' := (mkF m 29 #[.val (.ref a1), .val (.int (1 : Int32)), .unset] [(.ref a1)])) (fun _ k => XS.aloadN X4.here hx rfl (hb hby d20_28) rfl rfl k) ?_
  obtain ⟨T5, X5, e5, st5⟩ := getF X4 hx hZ hown (host := "") (Or.inl (hw _ (List.mem_of_getElem? (i := 53) rfl))) Via.refl e4 F1 (g := (mkF m 29 #[.val (.ref a1), .val (.int (1 : Int32)), .unset] [(.ref a1)])) rfl rfl (hb hby d20_29)
  refine own_via (g' := (mkF m 32 #[.val (.ref a1), .val (.int (1 : Int32)), .unset] [(.ref b2)])) st5 ?_
  obtain ⟨T6, X6, e6, st6⟩ := getF X5 hx hZ hown (host := "") (Or.inl (hw _ (List.mem_of_getElem? (i := 149) rfl))) Via.refl e5 Fe (g := (mkF m 32 #[.val (.ref a1), .val (.int (1 : Int32)), .unset] [(.ref b2)])) rfl rfl (hb hby d20_32)
  refine own_via (g' := (mkF m 35 #[.val (.ref a1), .val (.int (1 : Int32)), .unset] [(.ref ea)])) st6 ?_
  refine own_step (g' := (mkF m 36 #[.val (.ref a1), .val (.int (1 : Int32)), .val (.ref ea)] [])) (fun _ k => XS.astoreN X6.here hx rfl (hb hby d20_35) rfl rfl (l' := #[.val (.ref a1), .val (.int (1 : Int32)), .val (.ref ea)]) rfl k) ?_
  refine own_step (g' := (mkF m 37 #[.val (.ref a1), .val (.int (1 : Int32)), .val (.ref ea)] [(.int (1 : Int32))])) (fun _ k => XS.iloadN X6.here hx rfl (hb hby d20_36) rfl k) ?_
  refine own_step (g' := (mkF m 38 #[.val (.ref a1), .val (.int (1 : Int32)), .val (.ref ea)] [(.ref ea), (.int (1 : Int32))])) (fun _ k => XS.aloadN X6.here hx rfl (hb hby d20_37) rfl rfl k) ?_
  obtain ⟨cl7, Ar7, q7, S7, M7, H7, G7⟩ := id Ve
  refine own_step (g' := (mkF m 39 #[.val (.ref a1), .val (.int (1 : Int32)), .val (.ref ea)] [(.int (10 : Int32)), (.int (1 : Int32))])) (own_len (len_of S7 M7) (X6.arraylength hx (by rw [e6]; exact Ar7.1) (State.isArrayOf_alike hZ.alike Ar7.2.1) (g := (mkF m 38 #[.val (.ref a1), .val (.int (1 : Int32)), .val (.ref ea)] [(.ref ea), (.int (1 : Int32))])) rfl rfl (hb hby d20_38))) ?_
  refine own_step (g' := (mkF m 50 #[.val (.ref a1), .val (.int (1 : Int32)), .val (.ref ea)] [])) (fun _ k => XS.icmpYes X6.here hx rfl (pc0 := 39) (pc' := 50) rfl (hb hby d20_39) rfl (tlt (by decide : (1 : Int32) < (10 : Int32))).1 (by decide) (by decide) k) ?_
  refine own_step (g' := (mkF m 51 #[.val (.ref a1), .val (.int (1 : Int32)), .val (.ref ea)] [(.ref a1)])) (fun _ k => XS.aloadN X6.here hx rfl (hb hby d20_50) rfl rfl k) ?_
  refine own_step (g' := (mkF m 52 #[.val (.ref a1), .val (.int (1 : Int32)), .val (.ref ea)] [(.int (1 : Int32)), (.ref a1)])) (fun _ k => XS.iloadN X6.here hx rfl (hb hby d20_51) rfl k) ?_
  refine own_step (g' := (mkF m 53 #[.val (.ref a1), .val (.int (1 : Int32)), .val (.ref ea)] [(.int (1 : Int32)), (.int (1 : Int32)), (.ref a1)])) (fun _ k => XS.iconst X6.here hx rfl (hb hby d20_52) k) ?_
  refine own_step (g' := (mkF m 54 #[.val (.ref a1), .val (.int (1 : Int32)), .val (.ref ea)] [(.int (2 : Int32)), (.ref a1)])) (fun _ k => XS.iadd X6.here hx rfl (hb hby d20_53) rfl k) ?_
  obtain ⟨T8, h8, X8, e8, W8, st8⟩ := putF X6 hx hZ hown (host := "") (Or.inl (hw _ (List.mem_of_getElem? (i := 79) rfl))) Via.refl e6 F2 E1 (Or.inl (hw _ (List.mem_of_getElem? (i := 80) rfl))) (hw _ (List.mem_of_getElem? (i := 47) rfl)) (ty := .int) (by decide) rfl rfl (g := (mkF m 54 #[.val (.ref a1), .val (.int (1 : Int32)), .val (.ref ea)] [(.int (2 : Int32)), (.ref a1)])) rfl rfl (hb hby d20_54)
  have Fw8 := Fld.same W8 F2
  have N8 := Fr.snoc X8 N0 g_a1
  have K8 : Keep h0 h8 [a1] := KC0.wr W8 (Or.inl (List.mem_of_getElem? (i := 0) rfl))
  refine own_via (g' := (mkF m 57 #[.val (.ref a1), .val (.int (1 : Int32)), .val (.ref ea)] [])) st8 ?_
  refine own_step (g' := (mkF m 58 #[.val (.ref a1), .val (.int (1 : Int32)), .val (.ref ea)] [(.ref ea)])) (fun _ k => XS.aloadN X8.here hx rfl (hb hby d20_57) rfl rfl k) ?_
  refine own_step (g' := (mkF m 59 #[.val (.ref a1), .val (.int (1 : Int32)), .val (.ref ea)] [(.ref a1), (.ref ea)])) (fun _ k => XS.aloadN X8.here hx rfl (hb hby d20_58) rfl rfl k) ?_
  refine own_step (g' := (mkF m 60 #[.val (.ref a1), .val (.int (1 : Int32)), .val (.ref ea)] [(.int (1 : Int32)), (.ref a1), (.ref ea)])) (fun _ k => XS.iloadN X8.here hx rfl (hb hby d20_59) rfl k) ?_
  refine own_step (g' := (mkF m 61 #[.val (.ref a1), .val (.int (1 : Int32)), .val (.ref ea)] [(.int (1 : Int32)), (.ref a1), (.int (1 : Int32)), (.ref ea)])) (fun _ k => XS.dupX1 X8.here hx rfl (hb hby d20_60) rfl rfl rfl k) ?_
  have F_9 : Fld Z h8 a1 "java/util/ArrayList$Itr" "lastRet" "I" (.int (0 : Int32)) := (Fld.other W8 F3 (Or.inr (slot_ne (Or.inl (hw _ (List.mem_of_getElem? (i := 57) rfl))) (Or.inl (hw _ (List.mem_of_getElem? (i := 80) rfl))) (by decide) (t := .int) (t' := .int) (by decide) (by decide))))
  have C_10 : Exa Z h8 a1 "java/util/ArrayList$Itr" := (Exa.wr W8 E1)
  obtain ⟨T11, h11, X11, e11, W11, st11⟩ := putF X8 hx hZ hown (host := "") (Or.inl (hw _ (List.mem_of_getElem? (i := 56) rfl))) Via.refl e8 F_9 C_10 (Or.inl (hw _ (List.mem_of_getElem? (i := 57) rfl))) (hw _ (List.mem_of_getElem? (i := 47) rfl)) (ty := .int) (by decide) rfl rfl (g := (mkF m 61 #[.val (.ref a1), .val (.int (1 : Int32)), .val (.ref ea)] [(.int (1 : Int32)), (.ref a1), (.int (1 : Int32)), (.ref ea)])) rfl rfl (hb hby d20_61)
  have Fw11 := Fld.same W11 F_9
  have N11 := Fr.snoc X11 N8 g_a1
  have K11 : Keep h0 h11 [a1] := K8.wr W11 (Or.inl (List.mem_of_getElem? (i := 0) rfl))
  refine own_via (g' := (mkF m 64 #[.val (.ref a1), .val (.int (1 : Int32)), .val (.ref ea)] [(.int (1 : Int32)), (.ref ea)])) st11 ?_
  have V_12 : Arv Z h11 ea kd (.object "java/lang/Object") (10 : Int32) [(.ref y0), (.ref y1), .null, .null, .null, .null, .null, .null, .null, .null] .null := ((Ve.other W8 (Ne.symm ne_a1_ea)).other W11 (Ne.symm ne_a1_ea))
  obtain ⟨cl13, Ar13, q13, S13, M13, H13, G13⟩ := id V_12
  refine own_step (g' := (mkF m 65 #[.val (.ref a1), .val (.int (1 : Int32)), .val (.ref ea)] [(.ref y1)])) (X11.aaload hx (j := (1 : Int32)) (v := (.ref y1)) (by rw [e11]; exact Ar13.1) (State.isArrayOf_alike hZ.alike Ar13.2.1) rfl Ar13.2.2 (inb_of S13 ⟨by decide, by decide⟩) (Has.at H13 (inb_of S13 ⟨by decide, by decide⟩) rfl) (g := (mkF m 64 #[.val (.ref a1), .val (.int (1 : Int32)), .val (.ref ea)] [(.int (1 : Int32)), (.ref ea)])) rfl rfl (hb hby d20_64)) ?_
  have C_14 : Exa Z h11 a1 "java/util/ArrayList$Itr" := (Exa.wr W11 C_10)
  have F_15 : Fld Z h11 a1 "java/util/ArrayList$Itr" "this$0" "Ljava/util/ArrayList;" (.ref b2) := (Fld.other W11 (Fld.other W8 F1 (Or.inr (slot_ne (Or.inr (hw _ (List.mem_of_getElem? (i := 54) rfl))) (Or.inl (hw _ (List.mem_of_getElem? (i := 80) rfl))) (by decide) (t := (.object "java/util/ArrayList")) (t' := .int) (by decide) (by decide)))) (Or.inr (slot_ne (Or.inr (hw _ (List.mem_of_getElem? (i := 54) rfl))) (Or.inl (hw _ (List.mem_of_getElem? (i := 57) rfl))) (by decide) (t := (.object "java/util/ArrayList")) (t' := .int) (by decide) (by decide))))
  have F_16 : Fld Z h11 a1 "java/util/ArrayList$Itr" "cursor" "I" (.int (2 : Int32)) := (Fld.other W11 Fw8 (Or.inr (slot_ne (Or.inl (hw _ (List.mem_of_getElem? (i := 80) rfl))) (Or.inl (hw _ (List.mem_of_getElem? (i := 57) rfl))) (by decide) (t := .int) (t' := .int) (by decide) (by decide))))
  have F_17 : Fld Z h11 a1 "java/util/ArrayList$Itr" "expectedModCount" "I" (.int (2 : Int32)) := (Fld.other W11 (Fld.other W8 F4 (Or.inr (slot_ne (Or.inl (hw _ (List.mem_of_getElem? (i := 61) rfl))) (Or.inl (hw _ (List.mem_of_getElem? (i := 80) rfl))) (by decide) (t := .int) (t' := .int) (by decide) (by decide)))) (Or.inr (slot_ne (Or.inl (hw _ (List.mem_of_getElem? (i := 61) rfl))) (Or.inl (hw _ (List.mem_of_getElem? (i := 57) rfl))) (by decide) (t := .int) (t' := .int) (by decide) (by decide))))
  exact own_retA X11 hx hret rfl rfl hlk (hb hby d20_65) e11 (by exact ⟨rfl, N11, K11, C_14, F_15, F_16, Fw11, F_17⟩) (by decide) (by decide)
set_option maxRecDepth 65536 in
set_option maxHeartbeats 40000000 in
theorem rmLam2_1 (l : Launch) (Z : State) (a0 : Array Value) (hw : ∀ d ∈ tables_1, d.before a0 Z = true) (ws : List Jvm.Cond) (a1 b2 : Addr) (ea y0 y1 : Addr) (kd : ClassId) (h0 : Heap) (n0 : Nat) (Z0 : n0 ≤ h0.size) (E1 : Exa Z h0 a1 "java/util/ArrayList$Itr") (F1 : Fld Z h0 a1 "java/util/ArrayList$Itr" "this$0" "Ljava/util/ArrayList;" (.ref b2)) (F2 : Fld Z h0 a1 "java/util/ArrayList$Itr" "cursor" "I" (.int (1 : Int32))) (F3 : Fld Z h0 a1 "java/util/ArrayList$Itr" "lastRet" "I" (.int (0 : Int32))) (F4 : Fld Z h0 a1 "java/util/ArrayList$Itr" "expectedModCount" "I" (.int (2 : Int32))) (E2 : Exa Z h0 b2 "java/util/ArrayList") (Fm : Fld Z h0 b2 "java/util/AbstractList" "modCount" "I" (.int (2 : Int32))) (Fs : Fld Z h0 b2 "java/util/ArrayList" "size" "I" (.int (2 : Int32))) (g_a1 : n0 ≤ a1) (Fe : Fld Z h0 b2 "java/util/ArrayList" "elementData" "[Ljava/lang/Object;" (.ref ea)) (Ve : Arv Z h0 ea kd (.object "java/lang/Object") (10 : Int32) [(.ref y0), (.ref y1), .null, .null, .null, .null, .null, .null, .null, .null] .null) :
    OMet l (⟨"com/example/cuttlefish/cuttlefish/store/RecordCursor", "lambda$over$0", "(Ljava/util/Iterator;)Ljava/lang/Object;"⟩ : MethodName) prog_23_method_3_code 1 (some (.object "java/lang/Object")) ws ({ frames := 2, cells := 0, slots := 0, locals := 26 } : Room) Z #[(.ref a1)] h0 (fun v h L => v = some (.ref y1) ∧ Fr n0 L ∧ Keep h0 h [a1] ∧ Exa Z h a1 "java/util/ArrayList$Itr" ∧ Fld Z h a1 "java/util/ArrayList$Itr" "this$0" "Ljava/util/ArrayList;" (.ref b2) ∧ Fld Z h a1 "java/util/ArrayList$Itr" "cursor" "I" (.int (2 : Int32)) ∧ Fld Z h a1 "java/util/ArrayList$Itr" "lastRet" "I" (.int (1 : Int32)) ∧ Fld Z h a1 "java/util/ArrayList$Itr" "expectedModCount" "I" (.int (2 : Int32))) := by
  refine own_body (plainFor_of_name pn_9) ?_
  intro p e s m below meth cdx T0 X0 hx hZ hby hml hown hnm hret hlk e0
  have N0 := Fr.nil n0
  refine own_entry (g' := (mkF m 0 #[.val (.ref a1)] [])) (by first | rfl | (simp [entryFrame, mkF, argsToLocals, Value.category, maxLocals]; done)) ?_
  have KC0 := Keep.refl h0 [a1]
  have ne_a1_b2 : a1 ≠ b2 := Exa.ne E1 E2 (by decide)
  have ne_a1_ea : a1 ≠ ea := Exa.neArv E1 Ve (hw _ (List.mem_of_getElem? (i := 47) rfl))
  refine own_step (g' := (mkF m 1 #[.val (.ref a1)] [(.ref a1)])) (fun _ k => XS.aloadN X0.here hx rfl (hb hby d9_0) rfl rfl k) ?_
  refine own_callI X0 hx hZ (W := 0) hown e0 (rmHas2_1 l Z a0 hw [] a1 b2 h0 n0 Z0 E1 F1 F2 F3 F4 E2 Fm Fs) E1 (hw _ (List.mem_of_getElem? (i := 70) rfl)) (hw _ (List.mem_of_getElem? (i := 71) rfl)) (mvT hZ (hw _ (List.mem_of_getElem? (i := 72) rfl))) (hw _ (List.mem_of_getElem? (i := 73) rfl)) (hw _ (List.mem_of_getElem? (i := 74) rfl)) (hw _ (List.mem_of_getElem? (i := 75) rfl)) (hw _ (List.mem_of_getElem? (i := 76) rfl)) (hw _ (List.mem_of_getElem? (i := 77) rfl)) (hw _ (List.mem_of_getElem? (i := 78) rfl)) (hw _ (List.mem_of_getElem? (i := 48) rfl)) (by decide) (by decide) (by decide) (g := (mkF m 1 #[.val (.ref a1)] [(.ref a1)])) rfl (by rw [hml]; rfl) (argsL := []) (rest := []) rfl (lenOf pd_7 rfl) rfl (by show 2 * 0 + _ ≤ _; exact Nat.le_of_eq rfl) (hb hby d9_1) (by decide) (by decide) ?_
  intro v1 T1 L1 X1 hQ1
  obtain ⟨rfl, rfl, e1⟩ := hQ1
  replace X1 := own_pureX X1
  show OGo p e below _ T1 (mkF m 6 #[.val (.ref a1)] [(.int (1 : Int32))])
  refine own_step (g' := (mkF m 9 #[.val (.ref a1)] [])) (fun _ k => XS.ifNo X1.here hx rfl (hb hby d9_6) rfl ((if0 _ _).trans (feq (by decide : ¬ ((1 : Int32) = (0 : Int32)))).1) k) ?_
  refine own_step (g' := (mkF m 10 #[.val (.ref a1)] [(.ref a1)])) (fun _ k => XS.aloadN X1.here hx rfl (hb hby d9_9) rfl rfl k) ?_
  refine own_callI X1 hx hZ (W := 0) hown e1 (rmNxt2_1 l Z a0 hw [] a1 b2 ea y0 y1 kd h0 n0 Z0 E1 F1 F2 F3 F4 E2 Fm Fs g_a1 Fe Ve) E1 (hw _ (List.mem_of_getElem? (i := 136) rfl)) (hw _ (List.mem_of_getElem? (i := 137) rfl)) (mvT hZ (hw _ (List.mem_of_getElem? (i := 138) rfl))) (hw _ (List.mem_of_getElem? (i := 139) rfl)) (hw _ (List.mem_of_getElem? (i := 140) rfl)) (hw _ (List.mem_of_getElem? (i := 141) rfl)) (hw _ (List.mem_of_getElem? (i := 142) rfl)) (hw _ (List.mem_of_getElem? (i := 77) rfl)) (hw _ (List.mem_of_getElem? (i := 143) rfl)) (hw _ (List.mem_of_getElem? (i := 48) rfl)) (by decide) (by decide) (by decide) (g := (mkF m 10 #[.val (.ref a1)] [(.ref a1)])) rfl (by rw [hml]; rfl) (argsL := []) (rest := []) rfl (lenOf pd_8 rfl) rfl (by show 2 * 0 + _ ≤ _; exact Nat.le_of_eq rfl) (hb hby d9_10) (by decide) (by decide) ?_
  intro v2 T2 L2 X2 hQ2
  obtain ⟨rfl, Nq2, Kq2, Cn, Fn1, Fn2, Fn3, Fn4⟩ := hQ2
  have N2 := Fr.app N0 Nq2
  have K2 : Keep h0 T2.heap [a1] := KC0.trans Kq2 (allS (Or.inl (List.mem_of_getElem? (i := 0) rfl)) all0)
  show OGo p e below _ T2 (mkF m 15 #[.val (.ref a1)] [(.ref y1)])
  refine own_step (g' := (mkF m 19 #[.val (.ref a1)] [(.ref y1)])) (fun _ k => XS.goto X2.here hx rfl (pc0 := 15) (pc' := 19) rfl (hb hby d9_15) (by decide) (by decide) k) ?_
  exact own_retA X2 hx hret rfl rfl hlk (hb hby d9_19) rfl (by exact ⟨rfl, N2, K2, Cn, Fn1, Fn2, Fn3, Fn4⟩) (by decide) (by decide)
set_option maxRecDepth 65536 in
set_option maxHeartbeats 40000000 in
theorem rmHas2_2 (l : Launch) (Z : State) (a0 : Array Value) (hw : ∀ d ∈ tables_1, d.before a0 Z = true) (ws : List Jvm.Cond) (a1 b2 : Addr) (h0 : Heap) (n0 : Nat) (Z0 : n0 ≤ h0.size) (E1 : Exa Z h0 a1 "java/util/ArrayList$Itr") (F1 : Fld Z h0 a1 "java/util/ArrayList$Itr" "this$0" "Ljava/util/ArrayList;" (.ref b2)) (F2 : Fld Z h0 a1 "java/util/ArrayList$Itr" "cursor" "I" (.int (2 : Int32))) (F3 : Fld Z h0 a1 "java/util/ArrayList$Itr" "lastRet" "I" (.int (1 : Int32))) (F4 : Fld Z h0 a1 "java/util/ArrayList$Itr" "expectedModCount" "I" (.int (2 : Int32))) (E2 : Exa Z h0 b2 "java/util/ArrayList") (Fm : Fld Z h0 b2 "java/util/AbstractList" "modCount" "I" (.int (2 : Int32))) (Fs : Fld Z h0 b2 "java/util/ArrayList" "size" "I" (.int (2 : Int32))) :
    OMet l (⟨"java/util/ArrayList$Itr", "hasNext", "()Z"⟩ : MethodName) jdk_49_method_2_code 1 (some .boolean) ws ({ frames := 0, cells := 0, slots := 0, locals := 0 } : Room) Z #[(.ref a1)] h0 (fun v h L => v = some (.int (0 : Int32)) ∧ L = [] ∧ h = h0) := by
  refine own_body (plainFor_of_name pn_8) ?_
  intro p e s m below meth cdx T0 X0 hx hZ hby hml hown hnm hret hlk e0
  have N0 := Fr.nil n0
  refine own_entry (g' := (mkF m 0 #[.val (.ref a1)] [])) (by first | rfl | (simp [entryFrame, mkF, argsToLocals, Value.category, maxLocals]; done)) ?_
  have ne_a1_b2 : a1 ≠ b2 := Exa.ne E1 E2 (by decide)
  refine own_step (g' := (mkF m 1 #[.val (.ref a1)] [(.ref a1)])) (fun _ k => XS.aloadN X0.here hx rfl (hb hby d10_0) rfl rfl k) ?_
  obtain ⟨T1, X1, e1, st1⟩ := getF X0 hx hZ hown (host := "") (Or.inl (hw _ (List.mem_of_getElem? (i := 79) rfl))) Via.refl e0 F2 (g := (mkF m 1 #[.val (.ref a1)] [(.ref a1)])) rfl rfl (hb hby d10_1)
  refine own_via (g' := (mkF m 4 #[.val (.ref a1)] [(.int (2 : Int32))])) st1 ?_
  refine own_step (g' := (mkF m 5 #[.val (.ref a1)] [(.ref a1), (.int (2 : Int32))])) (fun _ k => XS.aloadN X1.here hx rfl (hb hby d10_4) rfl rfl k) ?_
  obtain ⟨T2, X2, e2, st2⟩ := getF X1 hx hZ hown (host := "") (Or.inl (hw _ (List.mem_of_getElem? (i := 53) rfl))) Via.refl e1 F1 (g := (mkF m 5 #[.val (.ref a1)] [(.ref a1), (.int (2 : Int32))])) rfl rfl (hb hby d10_5)
  refine own_via (g' := (mkF m 8 #[.val (.ref a1)] [(.ref b2), (.int (2 : Int32))])) st2 ?_
  obtain ⟨T3, X3, e3, st3⟩ := getF X2 hx hZ hown (Or.inr (hw _ (List.mem_of_getElem? (i := 81) rfl))) Via.refl e2 Fs (g := (mkF m 8 #[.val (.ref a1)] [(.ref b2), (.int (2 : Int32))])) rfl rfl (hb hby d10_8)
  refine own_via (g' := (mkF m 11 #[.val (.ref a1)] [(.int (2 : Int32)), (.int (2 : Int32))])) st3 ?_
  refine own_step (g' := (mkF m 18 #[.val (.ref a1)] [])) (fun _ k => XS.icmpYes X3.here hx rfl (pc0 := 11) (pc' := 18) rfl (hb hby d10_11) rfl (teq (by decide : (2 : Int32) = (2 : Int32))).1 (by decide) (by decide) k) ?_
  refine own_step (g' := (mkF m 19 #[.val (.ref a1)] [(.int (0 : Int32))])) (fun _ k => XS.iconst X3.here hx rfl (hb hby d10_18) k) ?_
  exact own_retN X3 hx (t := .boolean) hret (by simp) hlk (hb hby d10_19) e3 (by exact ⟨rfl, rfl, rfl⟩) (by decide) (by decide)
set_option maxRecDepth 65536 in
set_option maxHeartbeats 40000000 in
theorem rmLam2_2 (l : Launch) (Z : State) (a0 : Array Value) (hw : ∀ d ∈ tables_1, d.before a0 Z = true) (ws : List Jvm.Cond) (a1 b2 : Addr) (h0 : Heap) (n0 : Nat) (Z0 : n0 ≤ h0.size) (E1 : Exa Z h0 a1 "java/util/ArrayList$Itr") (F1 : Fld Z h0 a1 "java/util/ArrayList$Itr" "this$0" "Ljava/util/ArrayList;" (.ref b2)) (F2 : Fld Z h0 a1 "java/util/ArrayList$Itr" "cursor" "I" (.int (2 : Int32))) (F3 : Fld Z h0 a1 "java/util/ArrayList$Itr" "lastRet" "I" (.int (1 : Int32))) (F4 : Fld Z h0 a1 "java/util/ArrayList$Itr" "expectedModCount" "I" (.int (2 : Int32))) (E2 : Exa Z h0 b2 "java/util/ArrayList") (Fm : Fld Z h0 b2 "java/util/AbstractList" "modCount" "I" (.int (2 : Int32))) (Fs : Fld Z h0 b2 "java/util/ArrayList" "size" "I" (.int (2 : Int32))) :
    OMet l (⟨"com/example/cuttlefish/cuttlefish/store/RecordCursor", "lambda$over$0", "(Ljava/util/Iterator;)Ljava/lang/Object;"⟩ : MethodName) prog_23_method_3_code 1 (some (.object "java/lang/Object")) ws ({ frames := 1, cells := 0, slots := 0, locals := 12 } : Room) Z #[(.ref a1)] h0 (fun v h L => v = some .null ∧ Fr n0 L ∧ Keep h0 h [a1] ∧ Exa Z h a1 "java/util/ArrayList$Itr" ∧ Fld Z h a1 "java/util/ArrayList$Itr" "this$0" "Ljava/util/ArrayList;" (.ref b2) ∧ Fld Z h a1 "java/util/ArrayList$Itr" "cursor" "I" (.int (2 : Int32)) ∧ Fld Z h a1 "java/util/ArrayList$Itr" "lastRet" "I" (.int (1 : Int32)) ∧ Fld Z h a1 "java/util/ArrayList$Itr" "expectedModCount" "I" (.int (2 : Int32))) := by
  refine own_body (plainFor_of_name pn_9) ?_
  intro p e s m below meth cdx T0 X0 hx hZ hby hml hown hnm hret hlk e0
  have N0 := Fr.nil n0
  refine own_entry (g' := (mkF m 0 #[.val (.ref a1)] [])) (by first | rfl | (simp [entryFrame, mkF, argsToLocals, Value.category, maxLocals]; done)) ?_
  have KC0 := Keep.refl h0 [a1]
  have ne_a1_b2 : a1 ≠ b2 := Exa.ne E1 E2 (by decide)
  refine own_step (g' := (mkF m 1 #[.val (.ref a1)] [(.ref a1)])) (fun _ k => XS.aloadN X0.here hx rfl (hb hby d9_0) rfl rfl k) ?_
  refine own_callI X0 hx hZ (W := 0) hown e0 (rmHas2_2 l Z a0 hw [] a1 b2 h0 n0 Z0 E1 F1 F2 F3 F4 E2 Fm Fs) E1 (hw _ (List.mem_of_getElem? (i := 70) rfl)) (hw _ (List.mem_of_getElem? (i := 71) rfl)) (mvT hZ (hw _ (List.mem_of_getElem? (i := 72) rfl))) (hw _ (List.mem_of_getElem? (i := 73) rfl)) (hw _ (List.mem_of_getElem? (i := 74) rfl)) (hw _ (List.mem_of_getElem? (i := 75) rfl)) (hw _ (List.mem_of_getElem? (i := 76) rfl)) (hw _ (List.mem_of_getElem? (i := 77) rfl)) (hw _ (List.mem_of_getElem? (i := 78) rfl)) (hw _ (List.mem_of_getElem? (i := 48) rfl)) (by decide) (by decide) (by decide) (g := (mkF m 1 #[.val (.ref a1)] [(.ref a1)])) rfl (by rw [hml]; rfl) (argsL := []) (rest := []) rfl (lenOf pd_7 rfl) rfl (by show 2 * 0 + _ ≤ _; exact Nat.le_of_eq rfl) (hb hby d9_1) (by decide) (by decide) ?_
  intro v1 T1 L1 X1 hQ1
  obtain ⟨rfl, rfl, e1⟩ := hQ1
  replace X1 := own_pureX X1
  show OGo p e below _ T1 (mkF m 6 #[.val (.ref a1)] [(.int (0 : Int32))])
  refine own_step (g' := (mkF m 18 #[.val (.ref a1)] [])) (fun _ k => XS.ifYes X1.here hx rfl (pc0 := 6) (pc' := 18) rfl (hb hby d9_6) rfl ((if0 _ _).trans (teq (by decide : (0 : Int32) = (0 : Int32))).1) (by decide) (by decide) k) ?_
  refine own_step (g' := (mkF m 19 #[.val (.ref a1)] [.null])) (fun _ k => XS.aconstNull X1.here hx rfl (hb hby d9_18) k) ?_
  exact own_retA X1 hx hret rfl rfl hlk (hb hby d9_19) e1 (by exact ⟨rfl, N0, KC0, E1, F1, F2, F3, F4⟩) (by decide) (by decide)
set_option maxRecDepth 65536 in
set_option maxHeartbeats 40000000 in
theorem rmHas3_0 (l : Launch) (Z : State) (a0 : Array Value) (hw : ∀ d ∈ tables_1, d.before a0 Z = true) (ws : List Jvm.Cond) (a1 b2 : Addr) (h0 : Heap) (n0 : Nat) (Z0 : n0 ≤ h0.size) (E1 : Exa Z h0 a1 "java/util/ArrayList$Itr") (F1 : Fld Z h0 a1 "java/util/ArrayList$Itr" "this$0" "Ljava/util/ArrayList;" (.ref b2)) (F2 : Fld Z h0 a1 "java/util/ArrayList$Itr" "cursor" "I" (.int (0 : Int32))) (F3 : Fld Z h0 a1 "java/util/ArrayList$Itr" "lastRet" "I" (.int (-1 : Int32))) (F4 : Fld Z h0 a1 "java/util/ArrayList$Itr" "expectedModCount" "I" (.int (3 : Int32))) (E2 : Exa Z h0 b2 "java/util/ArrayList") (Fm : Fld Z h0 b2 "java/util/AbstractList" "modCount" "I" (.int (3 : Int32))) (Fs : Fld Z h0 b2 "java/util/ArrayList" "size" "I" (.int (3 : Int32))) :
    OMet l (⟨"java/util/ArrayList$Itr", "hasNext", "()Z"⟩ : MethodName) jdk_49_method_2_code 1 (some .boolean) ws ({ frames := 0, cells := 0, slots := 0, locals := 0 } : Room) Z #[(.ref a1)] h0 (fun v h L => v = some (.int (1 : Int32)) ∧ L = [] ∧ h = h0) := by
  refine own_body (plainFor_of_name pn_8) ?_
  intro p e s m below meth cdx T0 X0 hx hZ hby hml hown hnm hret hlk e0
  have N0 := Fr.nil n0
  refine own_entry (g' := (mkF m 0 #[.val (.ref a1)] [])) (by first | rfl | (simp [entryFrame, mkF, argsToLocals, Value.category, maxLocals]; done)) ?_
  have ne_a1_b2 : a1 ≠ b2 := Exa.ne E1 E2 (by decide)
  refine own_step (g' := (mkF m 1 #[.val (.ref a1)] [(.ref a1)])) (fun _ k => XS.aloadN X0.here hx rfl (hb hby d10_0) rfl rfl k) ?_
  obtain ⟨T1, X1, e1, st1⟩ := getF X0 hx hZ hown (host := "") (Or.inl (hw _ (List.mem_of_getElem? (i := 79) rfl))) Via.refl e0 F2 (g := (mkF m 1 #[.val (.ref a1)] [(.ref a1)])) rfl rfl (hb hby d10_1)
  refine own_via (g' := (mkF m 4 #[.val (.ref a1)] [(.int (0 : Int32))])) st1 ?_
  refine own_step (g' := (mkF m 5 #[.val (.ref a1)] [(.ref a1), (.int (0 : Int32))])) (fun _ k => XS.aloadN X1.here hx rfl (hb hby d10_4) rfl rfl k) ?_
  obtain ⟨T2, X2, e2, st2⟩ := getF X1 hx hZ hown (host := "") (Or.inl (hw _ (List.mem_of_getElem? (i := 53) rfl))) Via.refl e1 F1 (g := (mkF m 5 #[.val (.ref a1)] [(.ref a1), (.int (0 : Int32))])) rfl rfl (hb hby d10_5)
  refine own_via (g' := (mkF m 8 #[.val (.ref a1)] [(.ref b2), (.int (0 : Int32))])) st2 ?_
  obtain ⟨T3, X3, e3, st3⟩ := getF X2 hx hZ hown (Or.inr (hw _ (List.mem_of_getElem? (i := 81) rfl))) Via.refl e2 Fs (g := (mkF m 8 #[.val (.ref a1)] [(.ref b2), (.int (0 : Int32))])) rfl rfl (hb hby d10_8)
  refine own_via (g' := (mkF m 11 #[.val (.ref a1)] [(.int (3 : Int32)), (.int (0 : Int32))])) st3 ?_
  refine own_step (g' := (mkF m 14 #[.val (.ref a1)] [])) (fun _ k => XS.icmpNo X3.here hx rfl (hb hby d10_11) rfl (feq (by decide : ¬ ((0 : Int32) = (3 : Int32)))).1 k) ?_
  refine own_step (g' := (mkF m 15 #[.val (.ref a1)] [(.int (1 : Int32))])) (fun _ k => XS.iconst X3.here hx rfl (hb hby d10_14) k) ?_
  refine own_step (g' := (mkF m 19 #[.val (.ref a1)] [(.int (1 : Int32))])) (fun _ k => XS.goto X3.here hx rfl (pc0 := 15) (pc' := 19) rfl (hb hby d10_15) (by decide) (by decide) k) ?_
  exact own_retN X3 hx (t := .boolean) hret (by simp) hlk (hb hby d10_19) e3 (by exact ⟨rfl, rfl, rfl⟩) (by decide) (by decide)
set_option maxRecDepth 65536 in
set_option maxHeartbeats 40000000 in
theorem rmChk3_0 (l : Launch) (Z : State) (a0 : Array Value) (hw : ∀ d ∈ tables_1, d.before a0 Z = true) (ws : List Jvm.Cond) (a1 b2 : Addr) (h0 : Heap) (n0 : Nat) (Z0 : n0 ≤ h0.size) (E1 : Exa Z h0 a1 "java/util/ArrayList$Itr") (F1 : Fld Z h0 a1 "java/util/ArrayList$Itr" "this$0" "Ljava/util/ArrayList;" (.ref b2)) (F2 : Fld Z h0 a1 "java/util/ArrayList$Itr" "cursor" "I" (.int (0 : Int32))) (F3 : Fld Z h0 a1 "java/util/ArrayList$Itr" "lastRet" "I" (.int (-1 : Int32))) (F4 : Fld Z h0 a1 "java/util/ArrayList$Itr" "expectedModCount" "I" (.int (3 : Int32))) (E2 : Exa Z h0 b2 "java/util/ArrayList") (Fm : Fld Z h0 b2 "java/util/AbstractList" "modCount" "I" (.int (3 : Int32))) (Fs : Fld Z h0 b2 "java/util/ArrayList" "size" "I" (.int (3 : Int32))) :
    OMet l (⟨"java/util/ArrayList$Itr", "checkForComodification", "()V"⟩ : MethodName) jdk_49_method_6_code 1 none ws ({ frames := 0, cells := 0, slots := 0, locals := 0 } : Room) Z #[(.ref a1)] h0 (fun v h L => v = none ∧ L = [] ∧ h = h0) := by
  refine own_body (plainFor_of_name pn_8) ?_
  intro p e s m below meth cdx T0 X0 hx hZ hby hml hown hnm hret hlk e0
  have N0 := Fr.nil n0
  refine own_entry (g' := (mkF m 0 #[.val (.ref a1)] [])) (by first | rfl | (simp [entryFrame, mkF, argsToLocals, Value.category, maxLocals]; done)) ?_
  have ne_a1_b2 : a1 ≠ b2 := Exa.ne E1 E2 (by decide)
  refine own_step (g' := (mkF m 1 #[.val (.ref a1)] [(.ref a1)])) (fun _ k => XS.aloadN X0.here hx rfl (hb hby d21_0) rfl rfl k) ?_
  obtain ⟨T1, X1, e1, st1⟩ := getF X0 hx hZ hown (host := "") (Or.inl (hw _ (List.mem_of_getElem? (i := 53) rfl))) Via.refl e0 F1 (g := (mkF m 1 #[.val (.ref a1)] [(.ref a1)])) rfl rfl (hb hby d21_1)
  refine own_via (g' := (mkF m 4 #[.val (.ref a1)] [(.ref b2)])) st1 ?_
  obtain ⟨T2, X2, e2, st2⟩ := getF X1 hx hZ hown (host := "") (Or.inl (hw _ (List.mem_of_getElem? (i := 58) rfl))) (Via.of (hw _ (List.mem_of_getElem? (i := 59) rfl))) e1 Fm (g := (mkF m 4 #[.val (.ref a1)] [(.ref b2)])) rfl rfl (hb hby d21_4)
  refine own_via (g' := (mkF m 7 #[.val (.ref a1)] [(.int (3 : Int32))])) st2 ?_
  refine own_step (g' := (mkF m 8 #[.val (.ref a1)] [(.ref a1), (.int (3 : Int32))])) (fun _ k => XS.aloadN X2.here hx rfl (hb hby d21_7) rfl rfl k) ?_
  obtain ⟨T3, X3, e3, st3⟩ := getF X2 hx hZ hown (host := "") (Or.inl (hw _ (List.mem_of_getElem? (i := 60) rfl))) Via.refl e2 F4 (g := (mkF m 8 #[.val (.ref a1)] [(.ref a1), (.int (3 : Int32))])) rfl rfl (hb hby d21_8)
  refine own_via (g' := (mkF m 11 #[.val (.ref a1)] [(.int (3 : Int32)), (.int (3 : Int32))])) st3 ?_
  refine own_step (g' := (mkF m 22 #[.val (.ref a1)] [])) (fun _ k => XS.icmpYes X3.here hx rfl (pc0 := 11) (pc' := 22) rfl (hb hby d21_11) rfl (teq (by decide : (3 : Int32) = (3 : Int32))).1 (by decide) (by decide) k) ?_
  exact own_retV X3 hx hret hlk (hb hby d21_22) e3 (by exact ⟨rfl, rfl, rfl⟩) (by decide) (by decide)
set_option maxRecDepth 65536 in
set_option maxHeartbeats 40000000 in
theorem rmNxt3_0 (l : Launch) (Z : State) (a0 : Array Value) (hw : ∀ d ∈ tables_1, d.before a0 Z = true) (ws : List Jvm.Cond) (a1 b2 : Addr) (ea y0 y1 y2 : Addr) (kd : ClassId) (h0 : Heap) (n0 : Nat) (Z0 : n0 ≤ h0.size) (E1 : Exa Z h0 a1 "java/util/ArrayList$Itr") (F1 : Fld Z h0 a1 "java/util/ArrayList$Itr" "this$0" "Ljava/util/ArrayList;" (.ref b2)) (F2 : Fld Z h0 a1 "java/util/ArrayList$Itr" "cursor" "I" (.int (0 : Int32))) (F3 : Fld Z h0 a1 "java/util/ArrayList$Itr" "lastRet" "I" (.int (-1 : Int32))) (F4 : Fld Z h0 a1 "java/util/ArrayList$Itr" "expectedModCount" "I" (.int (3 : Int32))) (E2 : Exa Z h0 b2 "java/util/ArrayList") (Fm : Fld Z h0 b2 "java/util/AbstractList" "modCount" "I" (.int (3 : Int32))) (Fs : Fld Z h0 b2 "java/util/ArrayList" "size" "I" (.int (3 : Int32))) (g_a1 : n0 ≤ a1) (Fe : Fld Z h0 b2 "java/util/ArrayList" "elementData" "[Ljava/lang/Object;" (.ref ea)) (Ve : Arv Z h0 ea kd (.object "java/lang/Object") (10 : Int32) [(.ref y0), (.ref y1), (.ref y2), .null, .null, .null, .null, .null, .null, .null] .null) :
    OMet l (⟨"java/util/ArrayList$Itr", "next", "()Ljava/lang/Object;"⟩ : MethodName) jdk_49_method_3_code 3 (some (.object "java/lang/Object")) ws ({ frames := 1, cells := 0, slots := 0, locals := 12 } : Room) Z #[(.ref a1)] h0 (fun v h L => v = some (.ref y0) ∧ Fr n0 L ∧ Keep h0 h [a1] ∧ Exa Z h a1 "java/util/ArrayList$Itr" ∧ Fld Z h a1 "java/util/ArrayList$Itr" "this$0" "Ljava/util/ArrayList;" (.ref b2) ∧ Fld Z h a1 "java/util/ArrayList$Itr" "cursor" "I" (.int (1 : Int32)) ∧ Fld Z h a1 "java/util/ArrayList$Itr" "lastRet" "I" (.int (0 : Int32)) ∧ Fld Z h a1 "java/util/ArrayList$Itr" "expectedModCount" "I" (.int (3 : Int32))) := by
  refine own_body (plainFor_of_name pn_8) ?_
  intro p e s m below meth cdx T0 X0 hx hZ hby hml hown hnm hret hlk e0
  have N0 := Fr.nil n0
  refine own_entry (g' := (mkF m 0 #[.val (.ref a1), .unset, .unset] [])) (by first | rfl | (simp [entryFrame, mkF, argsToLocals, Value.category, maxLocals]; done)) ?_
  have KC0 := Keep.refl h0 [a1]
  have ne_a1_b2 : a1 ≠ b2 := Exa.ne E1 E2 (by decide)
  have ne_a1_ea : a1 ≠ ea := Exa.neArv E1 Ve (hw _ (List.mem_of_getElem? (i := 47) rfl))
  refine own_step (g' := (mkF m 1 #[.val (.ref a1), .unset, .unset] [(.ref a1)])) (fun _ k => XS.aloadN X0.here hx rfl (hb hby d20_0) rfl rfl k) ?_
  refine own_callV X0 hx hZ (W := 0) hown e0 (rmChk3_0 l Z a0 hw [] a1 b2 h0 n0 Z0 E1 F1 F2 F3 F4 E2 Fm Fs) E1 (hw _ (List.mem_of_getElem? (i := 144) rfl)) (hw _ (List.mem_of_getElem? (i := 145) rfl)) (notFace_of_selects (args := #[]) (mvT hZ (hw _ (List.mem_of_getElem? (i := 147) rfl)))) (hw _ (List.mem_of_getElem? (i := 147) rfl)) (hw _ (List.mem_of_getElem? (i := 146) rfl)) (hw _ (List.mem_of_getElem? (i := 148) rfl)) (hw _ (List.mem_of_getElem? (i := 48) rfl)) (by decide) (by decide) (by decide) (g := (mkF m 1 #[.val (.ref a1), .unset, .unset] [(.ref a1)])) rfl (by rw [hml]; rfl) (argsL := []) (rest := []) rfl (lenOf pd_0 rfl) rfl (by show 2 * 0 + _ ≤ _; exact Nat.le_of_eq rfl) (hb hby d20_1) (by decide) (by decide) ?_
  intro v1 T1 L1 X1 hQ1
  obtain ⟨rfl, rfl, e1⟩ := hQ1
  replace X1 := own_pureX X1
  show OGo p e below _ T1 (mkF m 4 #[.val (.ref a1), .unset, .unset] [])
  refine own_step (g' := (mkF m 5 #[.val (.ref a1), .unset, .unset] [(.ref a1)])) (fun _ k => XS.aloadN X1.here hx rfl (hb hby d20_4) rfl rfl k) ?_
  obtain ⟨T2, X2, e2, st2⟩ := getF X1 hx hZ hown (host := "") (Or.inl (hw _ (List.mem_of_getElem? (i := 79) rfl))) Via.refl e1 F2 (g := (mkF m 5 #[.val (.ref a1), .unset, .unset] [(.ref a1)])) rfl rfl (hb hby d20_5)
  refine own_via (g' := (mkF m 8 #[.val (.ref a1), .unset, .unset] [(.int (0 : Int32))])) st2 ?_
  refine own_step (g' := (mkF m 9 #[.val (.ref a1), .val (.int (0 : Int32)), .unset] [])) (fun _ k => XS.istoreN X2.here hx rfl (hb hby d20_8) rfl (l' := #[.val (.ref a1), .val (.int (0 : Int32)), .unset]) rfl k) ?_
  refine own_step (g' := (mkF m 10 #[.val (.ref a1), .val (.int (0 : Int32)), .unset] [(.int (0 : Int32))])) (fun _ k => XS.iloadN X2.here hx rfl (hb hby d20_9) rfl k) ?_
  refine own_step (g' := (mkF m 11 #[.val (.ref a1), .val (.int (0 : Int32)), .unset] [(.ref a1), (.int (0 : Int32))])) (fun _ k => XS.aloadN X2.here hx rfl (hb hby d20_10) rfl rfl k) ?_
  obtain ⟨T3, X3, e3, st3⟩ := getF X2 hx hZ hown (host := "") (Or.inl (hw _ (List.mem_of_getElem? (i := 53) rfl))) Via.refl e2 F1 (g := (mkF m 11 #[.val (.ref a1), .val (.int (0 : Int32)), .unset] [(.ref a1), (.int (0 : Int32))])) rfl rfl (hb hby d20_11)
  refine own_via (g' := (mkF m 14 #[.val (.ref a1), .val (.int (0 : Int32)), .unset] [(.ref b2), (.int (0 : Int32))])) st3 ?_
  obtain ⟨T4, X4, e4, st4⟩ := getF X3 hx hZ hown (Or.inr (hw _ (List.mem_of_getElem? (i := 81) rfl))) Via.refl e3 Fs (g := (mkF m 14 #[.val (.ref a1), .val (.int (0 : Int32)), .unset] [(.ref b2), (.int (0 : Int32))])) rfl rfl (hb hby d20_14)
  refine own_via (g' := (mkF m 17 #[.val (.ref a1), .val (.int (0 : Int32)), .unset] [(.int (3 : Int32)), (.int (0 : Int32))])) st4 ?_
  refine own_step (g' := (mkF m 28 #[.val (.ref a1), .val (.int (0 : Int32)), .unset] [])) (fun _ k => XS.icmpYes X4.here hx rfl (pc0 := 17) (pc' := 28) rfl (hb hby d20_17) rfl (tlt (by decide : (0 : Int32) < (3 : Int32))).1 (by decide) (by decide) k) ?_
  refine own_step (g' := (mkF m 29 #[.val (.ref a1), .val (.int (0 : Int32)), .unset] [(.ref a1)])) (fun _ k => XS.aloadN X4.here hx rfl (hb hby d20_28) rfl rfl k) ?_
  obtain ⟨T5, X5, e5, st5⟩ := getF X4 hx hZ hown (host := "") (Or.inl (hw _ (List.mem_of_getElem? (i := 53) rfl))) Via.refl e4 F1 (g := (mkF m 29 #[.val (.ref a1), .val (.int (0 : Int32)), .unset] [(.ref a1)])) rfl rfl (hb hby d20_29)
  refine own_via (g' := (mkF m 32 #[.val (.ref a1), .val (.int (0 : Int32)), .unset] [(.ref b2)])) st5 ?_
  obtain ⟨T6, X6, e6, st6⟩ := getF X5 hx hZ hown (host := "") (Or.inl (hw _ (List.mem_of_getElem? (i := 149) rfl))) Via.refl e5 Fe (g := (mkF m 32 #[.val (.ref a1), .val (.int (0 : Int32)), .unset] [(.ref b2)])) rfl rfl (hb hby d20_32)
  refine own_via (g' := (mkF m 35 #[.val (.ref a1), .val (.int (0 : Int32)), .unset] [(.ref ea)])) st6 ?_
  refine own_step (g' := (mkF m 36 #[.val (.ref a1), .val (.int (0 : Int32)), .val (.ref ea)] [])) (fun _ k => XS.astoreN X6.here hx rfl (hb hby d20_35) rfl rfl (l' := #[.val (.ref a1), .val (.int (0 : Int32)), .val (.ref ea)]) rfl k) ?_
  refine own_step (g' := (mkF m 37 #[.val (.ref a1), .val (.int (0 : Int32)), .val (.ref ea)] [(.int (0 : Int32))])) (fun _ k => XS.iloadN X6.here hx rfl (hb hby d20_36) rfl k) ?_
  refine own_step (g' := (mkF m 38 #[.val (.ref a1), .val (.int (0 : Int32)), .val (.ref ea)] [(.ref ea), (.int (0 : Int32))])) (fun _ k => XS.aloadN X6.here hx rfl (hb hby d20_37) rfl rfl k) ?_
  obtain ⟨cl7, Ar7, q7, S7, M7, H7, G7⟩ := id Ve
  refine own_step (g' := (mkF m 39 #[.val (.ref a1), .val (.int (0 : Int32)), .val (.ref ea)] [(.int (10 : Int32)), (.int (0 : Int32))])) (own_len (len_of S7 M7) (X6.arraylength hx (by rw [e6]; exact Ar7.1) (State.isArrayOf_alike hZ.alike Ar7.2.1) (g := (mkF m 38 #[.val (.ref a1), .val (.int (0 : Int32)), .val (.ref ea)] [(.ref ea), (.int (0 : Int32))])) rfl rfl (hb hby d20_38))) ?_
  refine own_step (g' := (mkF m 50 #[.val (.ref a1), .val (.int (0 : Int32)), .val (.ref ea)] [])) (fun _ k => XS.icmpYes X6.here hx rfl (pc0 := 39) (pc' := 50) rfl (hb hby d20_39) rfl (tlt (by decide : (0 : Int32) < (10 : Int32))).1 (by decide) (by decide) k) ?_
  refine own_step (g' := (mkF m 51 #[.val (.ref a1), .val (.int (0 : Int32)), .val (.ref ea)] [(.ref a1)])) (fun _ k => XS.aloadN X6.here hx rfl (hb hby d20_50) rfl rfl k) ?_
  refine own_step (g' := (mkF m 52 #[.val (.ref a1), .val (.int (0 : Int32)), .val (.ref ea)] [(.int (0 : Int32)), (.ref a1)])) (fun _ k => XS.iloadN X6.here hx rfl (hb hby d20_51) rfl k) ?_
  refine own_step (g' := (mkF m 53 #[.val (.ref a1), .val (.int (0 : Int32)), .val (.ref ea)] [(.int (1 : Int32)), (.int (0 : Int32)), (.ref a1)])) (fun _ k => XS.iconst X6.here hx rfl (hb hby d20_52) k) ?_
  refine own_step (g' := (mkF m 54 #[.val (.ref a1), .val (.int (0 : Int32)), .val (.ref ea)] [(.int (1 : Int32)), (.ref a1)])) (fun _ k => XS.iadd X6.here hx rfl (hb hby d20_53) rfl k) ?_
  obtain ⟨T8, h8, X8, e8, W8, st8⟩ := putF X6 hx hZ hown (host := "") (Or.inl (hw _ (List.mem_of_getElem? (i := 79) rfl))) Via.refl e6 F2 E1 (Or.inl (hw _ (List.mem_of_getElem? (i := 80) rfl))) (hw _ (List.mem_of_getElem? (i := 47) rfl)) (ty := .int) (by decide) rfl rfl (g := (mkF m 54 #[.val (.ref a1), .val (.int (0 : Int32)), .val (.ref ea)] [(.int (1 : Int32)), (.ref a1)])) rfl rfl (hb hby d20_54)
  have Fw8 := Fld.same W8 F2
  have N8 := Fr.snoc X8 N0 g_a1
  have K8 : Keep h0 h8 [a1] := KC0.wr W8 (Or.inl (List.mem_of_getElem? (i := 0) rfl))
  refine own_via (g' := (mkF m 57 #[.val (.ref a1), .val (.int (0 : Int32)), .val (.ref ea)] [])) st8 ?_
  refine own_step (g' := (mkF m 58 #[.val (.ref a1), .val (.int (0 : Int32)), .val (.ref ea)] [(.ref ea)])) (fun _ k => XS.aloadN X8.here hx rfl (hb hby d20_57) rfl rfl k) ?_
  refine own_step (g' := (mkF m 59 #[.val (.ref a1), .val (.int (0 : Int32)), .val (.ref ea)] [(.ref a1), (.ref ea)])) (fun _ k => XS.aloadN X8.here hx rfl (hb hby d20_58) rfl rfl k) ?_
  refine own_step (g' := (mkF m 60 #[.val (.ref a1), .val (.int (0 : Int32)), .val (.ref ea)] [(.int (0 : Int32)), (.ref a1), (.ref ea)])) (fun _ k => XS.iloadN X8.here hx rfl (hb hby d20_59) rfl k) ?_
  refine own_step (g' := (mkF m 61 #[.val (.ref a1), .val (.int (0 : Int32)), .val (.ref ea)] [(.int (0 : Int32)), (.ref a1), (.int (0 : Int32)), (.ref ea)])) (fun _ k => XS.dupX1 X8.here hx rfl (hb hby d20_60) rfl rfl rfl k) ?_
  have F_9 : Fld Z h8 a1 "java/util/ArrayList$Itr" "lastRet" "I" (.int (-1 : Int32)) := (Fld.other W8 F3 (Or.inr (slot_ne (Or.inl (hw _ (List.mem_of_getElem? (i := 57) rfl))) (Or.inl (hw _ (List.mem_of_getElem? (i := 80) rfl))) (by decide) (t := .int) (t' := .int) (by decide) (by decide))))
  have C_10 : Exa Z h8 a1 "java/util/ArrayList$Itr" := (Exa.wr W8 E1)
  obtain ⟨T11, h11, X11, e11, W11, st11⟩ := putF X8 hx hZ hown (host := "") (Or.inl (hw _ (List.mem_of_getElem? (i := 56) rfl))) Via.refl e8 F_9 C_10 (Or.inl (hw _ (List.mem_of_getElem? (i := 57) rfl))) (hw _ (List.mem_of_getElem? (i := 47) rfl)) (ty := .int) (by decide) rfl rfl (g := (mkF m 61 #[.val (.ref a1), .val (.int (0 : Int32)), .val (.ref ea)] [(.int (0 : Int32)), (.ref a1), (.int (0 : Int32)), (.ref ea)])) rfl rfl (hb hby d20_61)
  have Fw11 := Fld.same W11 F_9
  have N11 := Fr.snoc X11 N8 g_a1
  have K11 : Keep h0 h11 [a1] := K8.wr W11 (Or.inl (List.mem_of_getElem? (i := 0) rfl))
  refine own_via (g' := (mkF m 64 #[.val (.ref a1), .val (.int (0 : Int32)), .val (.ref ea)] [(.int (0 : Int32)), (.ref ea)])) st11 ?_
  have V_12 : Arv Z h11 ea kd (.object "java/lang/Object") (10 : Int32) [(.ref y0), (.ref y1), (.ref y2), .null, .null, .null, .null, .null, .null, .null] .null := ((Ve.other W8 (Ne.symm ne_a1_ea)).other W11 (Ne.symm ne_a1_ea))
  obtain ⟨cl13, Ar13, q13, S13, M13, H13, G13⟩ := id V_12
  refine own_step (g' := (mkF m 65 #[.val (.ref a1), .val (.int (0 : Int32)), .val (.ref ea)] [(.ref y0)])) (X11.aaload hx (j := (0 : Int32)) (v := (.ref y0)) (by rw [e11]; exact Ar13.1) (State.isArrayOf_alike hZ.alike Ar13.2.1) rfl Ar13.2.2 (inb_of S13 ⟨by decide, by decide⟩) (Has.at H13 (inb_of S13 ⟨by decide, by decide⟩) rfl) (g := (mkF m 64 #[.val (.ref a1), .val (.int (0 : Int32)), .val (.ref ea)] [(.int (0 : Int32)), (.ref ea)])) rfl rfl (hb hby d20_64)) ?_
  have C_14 : Exa Z h11 a1 "java/util/ArrayList$Itr" := (Exa.wr W11 C_10)
  have F_15 : Fld Z h11 a1 "java/util/ArrayList$Itr" "this$0" "Ljava/util/ArrayList;" (.ref b2) := (Fld.other W11 (Fld.other W8 F1 (Or.inr (slot_ne (Or.inr (hw _ (List.mem_of_getElem? (i := 54) rfl))) (Or.inl (hw _ (List.mem_of_getElem? (i := 80) rfl))) (by decide) (t := (.object "java/util/ArrayList")) (t' := .int) (by decide) (by decide)))) (Or.inr (slot_ne (Or.inr (hw _ (List.mem_of_getElem? (i := 54) rfl))) (Or.inl (hw _ (List.mem_of_getElem? (i := 57) rfl))) (by decide) (t := (.object "java/util/ArrayList")) (t' := .int) (by decide) (by decide))))
  have F_16 : Fld Z h11 a1 "java/util/ArrayList$Itr" "cursor" "I" (.int (1 : Int32)) := (Fld.other W11 Fw8 (Or.inr (slot_ne (Or.inl (hw _ (List.mem_of_getElem? (i := 80) rfl))) (Or.inl (hw _ (List.mem_of_getElem? (i := 57) rfl))) (by decide) (t := .int) (t' := .int) (by decide) (by decide))))
  have F_17 : Fld Z h11 a1 "java/util/ArrayList$Itr" "expectedModCount" "I" (.int (3 : Int32)) := (Fld.other W11 (Fld.other W8 F4 (Or.inr (slot_ne (Or.inl (hw _ (List.mem_of_getElem? (i := 61) rfl))) (Or.inl (hw _ (List.mem_of_getElem? (i := 80) rfl))) (by decide) (t := .int) (t' := .int) (by decide) (by decide)))) (Or.inr (slot_ne (Or.inl (hw _ (List.mem_of_getElem? (i := 61) rfl))) (Or.inl (hw _ (List.mem_of_getElem? (i := 57) rfl))) (by decide) (t := .int) (t' := .int) (by decide) (by decide))))
  exact own_retA X11 hx hret rfl rfl hlk (hb hby d20_65) e11 (by exact ⟨rfl, N11, K11, C_14, F_15, F_16, Fw11, F_17⟩) (by decide) (by decide)
set_option maxRecDepth 65536 in
set_option maxHeartbeats 40000000 in
theorem rmLam3_0 (l : Launch) (Z : State) (a0 : Array Value) (hw : ∀ d ∈ tables_1, d.before a0 Z = true) (ws : List Jvm.Cond) (a1 b2 : Addr) (ea y0 y1 y2 : Addr) (kd : ClassId) (h0 : Heap) (n0 : Nat) (Z0 : n0 ≤ h0.size) (E1 : Exa Z h0 a1 "java/util/ArrayList$Itr") (F1 : Fld Z h0 a1 "java/util/ArrayList$Itr" "this$0" "Ljava/util/ArrayList;" (.ref b2)) (F2 : Fld Z h0 a1 "java/util/ArrayList$Itr" "cursor" "I" (.int (0 : Int32))) (F3 : Fld Z h0 a1 "java/util/ArrayList$Itr" "lastRet" "I" (.int (-1 : Int32))) (F4 : Fld Z h0 a1 "java/util/ArrayList$Itr" "expectedModCount" "I" (.int (3 : Int32))) (E2 : Exa Z h0 b2 "java/util/ArrayList") (Fm : Fld Z h0 b2 "java/util/AbstractList" "modCount" "I" (.int (3 : Int32))) (Fs : Fld Z h0 b2 "java/util/ArrayList" "size" "I" (.int (3 : Int32))) (g_a1 : n0 ≤ a1) (Fe : Fld Z h0 b2 "java/util/ArrayList" "elementData" "[Ljava/lang/Object;" (.ref ea)) (Ve : Arv Z h0 ea kd (.object "java/lang/Object") (10 : Int32) [(.ref y0), (.ref y1), (.ref y2), .null, .null, .null, .null, .null, .null, .null] .null) :
    OMet l (⟨"com/example/cuttlefish/cuttlefish/store/RecordCursor", "lambda$over$0", "(Ljava/util/Iterator;)Ljava/lang/Object;"⟩ : MethodName) prog_23_method_3_code 1 (some (.object "java/lang/Object")) ws ({ frames := 2, cells := 0, slots := 0, locals := 26 } : Room) Z #[(.ref a1)] h0 (fun v h L => v = some (.ref y0) ∧ Fr n0 L ∧ Keep h0 h [a1] ∧ Exa Z h a1 "java/util/ArrayList$Itr" ∧ Fld Z h a1 "java/util/ArrayList$Itr" "this$0" "Ljava/util/ArrayList;" (.ref b2) ∧ Fld Z h a1 "java/util/ArrayList$Itr" "cursor" "I" (.int (1 : Int32)) ∧ Fld Z h a1 "java/util/ArrayList$Itr" "lastRet" "I" (.int (0 : Int32)) ∧ Fld Z h a1 "java/util/ArrayList$Itr" "expectedModCount" "I" (.int (3 : Int32))) := by
  refine own_body (plainFor_of_name pn_9) ?_
  intro p e s m below meth cdx T0 X0 hx hZ hby hml hown hnm hret hlk e0
  have N0 := Fr.nil n0
  refine own_entry (g' := (mkF m 0 #[.val (.ref a1)] [])) (by first | rfl | (simp [entryFrame, mkF, argsToLocals, Value.category, maxLocals]; done)) ?_
  have KC0 := Keep.refl h0 [a1]
  have ne_a1_b2 : a1 ≠ b2 := Exa.ne E1 E2 (by decide)
  have ne_a1_ea : a1 ≠ ea := Exa.neArv E1 Ve (hw _ (List.mem_of_getElem? (i := 47) rfl))
  refine own_step (g' := (mkF m 1 #[.val (.ref a1)] [(.ref a1)])) (fun _ k => XS.aloadN X0.here hx rfl (hb hby d9_0) rfl rfl k) ?_
  refine own_callI X0 hx hZ (W := 0) hown e0 (rmHas3_0 l Z a0 hw [] a1 b2 h0 n0 Z0 E1 F1 F2 F3 F4 E2 Fm Fs) E1 (hw _ (List.mem_of_getElem? (i := 70) rfl)) (hw _ (List.mem_of_getElem? (i := 71) rfl)) (mvT hZ (hw _ (List.mem_of_getElem? (i := 72) rfl))) (hw _ (List.mem_of_getElem? (i := 73) rfl)) (hw _ (List.mem_of_getElem? (i := 74) rfl)) (hw _ (List.mem_of_getElem? (i := 75) rfl)) (hw _ (List.mem_of_getElem? (i := 76) rfl)) (hw _ (List.mem_of_getElem? (i := 77) rfl)) (hw _ (List.mem_of_getElem? (i := 78) rfl)) (hw _ (List.mem_of_getElem? (i := 48) rfl)) (by decide) (by decide) (by decide) (g := (mkF m 1 #[.val (.ref a1)] [(.ref a1)])) rfl (by rw [hml]; rfl) (argsL := []) (rest := []) rfl (lenOf pd_7 rfl) rfl (by show 2 * 0 + _ ≤ _; exact Nat.le_of_eq rfl) (hb hby d9_1) (by decide) (by decide) ?_
  intro v1 T1 L1 X1 hQ1
  obtain ⟨rfl, rfl, e1⟩ := hQ1
  replace X1 := own_pureX X1
  show OGo p e below _ T1 (mkF m 6 #[.val (.ref a1)] [(.int (1 : Int32))])
  refine own_step (g' := (mkF m 9 #[.val (.ref a1)] [])) (fun _ k => XS.ifNo X1.here hx rfl (hb hby d9_6) rfl ((if0 _ _).trans (feq (by decide : ¬ ((1 : Int32) = (0 : Int32)))).1) k) ?_
  refine own_step (g' := (mkF m 10 #[.val (.ref a1)] [(.ref a1)])) (fun _ k => XS.aloadN X1.here hx rfl (hb hby d9_9) rfl rfl k) ?_
  refine own_callI X1 hx hZ (W := 0) hown e1 (rmNxt3_0 l Z a0 hw [] a1 b2 ea y0 y1 y2 kd h0 n0 Z0 E1 F1 F2 F3 F4 E2 Fm Fs g_a1 Fe Ve) E1 (hw _ (List.mem_of_getElem? (i := 136) rfl)) (hw _ (List.mem_of_getElem? (i := 137) rfl)) (mvT hZ (hw _ (List.mem_of_getElem? (i := 138) rfl))) (hw _ (List.mem_of_getElem? (i := 139) rfl)) (hw _ (List.mem_of_getElem? (i := 140) rfl)) (hw _ (List.mem_of_getElem? (i := 141) rfl)) (hw _ (List.mem_of_getElem? (i := 142) rfl)) (hw _ (List.mem_of_getElem? (i := 77) rfl)) (hw _ (List.mem_of_getElem? (i := 143) rfl)) (hw _ (List.mem_of_getElem? (i := 48) rfl)) (by decide) (by decide) (by decide) (g := (mkF m 10 #[.val (.ref a1)] [(.ref a1)])) rfl (by rw [hml]; rfl) (argsL := []) (rest := []) rfl (lenOf pd_8 rfl) rfl (by show 2 * 0 + _ ≤ _; exact Nat.le_of_eq rfl) (hb hby d9_10) (by decide) (by decide) ?_
  intro v2 T2 L2 X2 hQ2
  obtain ⟨rfl, Nq2, Kq2, Cn, Fn1, Fn2, Fn3, Fn4⟩ := hQ2
  have N2 := Fr.app N0 Nq2
  have K2 : Keep h0 T2.heap [a1] := KC0.trans Kq2 (allS (Or.inl (List.mem_of_getElem? (i := 0) rfl)) all0)
  show OGo p e below _ T2 (mkF m 15 #[.val (.ref a1)] [(.ref y0)])
  refine own_step (g' := (mkF m 19 #[.val (.ref a1)] [(.ref y0)])) (fun _ k => XS.goto X2.here hx rfl (pc0 := 15) (pc' := 19) rfl (hb hby d9_15) (by decide) (by decide) k) ?_
  exact own_retA X2 hx hret rfl rfl hlk (hb hby d9_19) rfl (by exact ⟨rfl, N2, K2, Cn, Fn1, Fn2, Fn3, Fn4⟩) (by decide) (by decide)
set_option maxRecDepth 65536 in
set_option maxHeartbeats 40000000 in
theorem rmHas3_1 (l : Launch) (Z : State) (a0 : Array Value) (hw : ∀ d ∈ tables_1, d.before a0 Z = true) (ws : List Jvm.Cond) (a1 b2 : Addr) (h0 : Heap) (n0 : Nat) (Z0 : n0 ≤ h0.size) (E1 : Exa Z h0 a1 "java/util/ArrayList$Itr") (F1 : Fld Z h0 a1 "java/util/ArrayList$Itr" "this$0" "Ljava/util/ArrayList;" (.ref b2)) (F2 : Fld Z h0 a1 "java/util/ArrayList$Itr" "cursor" "I" (.int (1 : Int32))) (F3 : Fld Z h0 a1 "java/util/ArrayList$Itr" "lastRet" "I" (.int (0 : Int32))) (F4 : Fld Z h0 a1 "java/util/ArrayList$Itr" "expectedModCount" "I" (.int (3 : Int32))) (E2 : Exa Z h0 b2 "java/util/ArrayList") (Fm : Fld Z h0 b2 "java/util/AbstractList" "modCount" "I" (.int (3 : Int32))) (Fs : Fld Z h0 b2 "java/util/ArrayList" "size" "I" (.int (3 : Int32))) :
    OMet l (⟨"java/util/ArrayList$Itr", "hasNext", "()Z"⟩ : MethodName) jdk_49_method_2_code 1 (some .boolean) ws ({ frames := 0, cells := 0, slots := 0, locals := 0 } : Room) Z #[(.ref a1)] h0 (fun v h L => v = some (.int (1 : Int32)) ∧ L = [] ∧ h = h0) := by
  refine own_body (plainFor_of_name pn_8) ?_
  intro p e s m below meth cdx T0 X0 hx hZ hby hml hown hnm hret hlk e0
  have N0 := Fr.nil n0
  refine own_entry (g' := (mkF m 0 #[.val (.ref a1)] [])) (by first | rfl | (simp [entryFrame, mkF, argsToLocals, Value.category, maxLocals]; done)) ?_
  have ne_a1_b2 : a1 ≠ b2 := Exa.ne E1 E2 (by decide)
  refine own_step (g' := (mkF m 1 #[.val (.ref a1)] [(.ref a1)])) (fun _ k => XS.aloadN X0.here hx rfl (hb hby d10_0) rfl rfl k) ?_
  obtain ⟨T1, X1, e1, st1⟩ := getF X0 hx hZ hown (host := "") (Or.inl (hw _ (List.mem_of_getElem? (i := 79) rfl))) Via.refl e0 F2 (g := (mkF m 1 #[.val (.ref a1)] [(.ref a1)])) rfl rfl (hb hby d10_1)
  refine own_via (g' := (mkF m 4 #[.val (.ref a1)] [(.int (1 : Int32))])) st1 ?_
  refine own_step (g' := (mkF m 5 #[.val (.ref a1)] [(.ref a1), (.int (1 : Int32))])) (fun _ k => XS.aloadN X1.here hx rfl (hb hby d10_4) rfl rfl k) ?_
  obtain ⟨T2, X2, e2, st2⟩ := getF X1 hx hZ hown (host := "") (Or.inl (hw _ (List.mem_of_getElem? (i := 53) rfl))) Via.refl e1 F1 (g := (mkF m 5 #[.val (.ref a1)] [(.ref a1), (.int (1 : Int32))])) rfl rfl (hb hby d10_5)
  refine own_via (g' := (mkF m 8 #[.val (.ref a1)] [(.ref b2), (.int (1 : Int32))])) st2 ?_
  obtain ⟨T3, X3, e3, st3⟩ := getF X2 hx hZ hown (Or.inr (hw _ (List.mem_of_getElem? (i := 81) rfl))) Via.refl e2 Fs (g := (mkF m 8 #[.val (.ref a1)] [(.ref b2), (.int (1 : Int32))])) rfl rfl (hb hby d10_8)
  refine own_via (g' := (mkF m 11 #[.val (.ref a1)] [(.int (3 : Int32)), (.int (1 : Int32))])) st3 ?_
  refine own_step (g' := (mkF m 14 #[.val (.ref a1)] [])) (fun _ k => XS.icmpNo X3.here hx rfl (hb hby d10_11) rfl (feq (by decide : ¬ ((1 : Int32) = (3 : Int32)))).1 k) ?_
  refine own_step (g' := (mkF m 15 #[.val (.ref a1)] [(.int (1 : Int32))])) (fun _ k => XS.iconst X3.here hx rfl (hb hby d10_14) k) ?_
  refine own_step (g' := (mkF m 19 #[.val (.ref a1)] [(.int (1 : Int32))])) (fun _ k => XS.goto X3.here hx rfl (pc0 := 15) (pc' := 19) rfl (hb hby d10_15) (by decide) (by decide) k) ?_
  exact own_retN X3 hx (t := .boolean) hret (by simp) hlk (hb hby d10_19) e3 (by exact ⟨rfl, rfl, rfl⟩) (by decide) (by decide)
set_option maxRecDepth 65536 in
set_option maxHeartbeats 40000000 in
theorem rmChk3_1 (l : Launch) (Z : State) (a0 : Array Value) (hw : ∀ d ∈ tables_1, d.before a0 Z = true) (ws : List Jvm.Cond) (a1 b2 : Addr) (h0 : Heap) (n0 : Nat) (Z0 : n0 ≤ h0.size) (E1 : Exa Z h0 a1 "java/util/ArrayList$Itr") (F1 : Fld Z h0 a1 "java/util/ArrayList$Itr" "this$0" "Ljava/util/ArrayList;" (.ref b2)) (F2 : Fld Z h0 a1 "java/util/ArrayList$Itr" "cursor" "I" (.int (1 : Int32))) (F3 : Fld Z h0 a1 "java/util/ArrayList$Itr" "lastRet" "I" (.int (0 : Int32))) (F4 : Fld Z h0 a1 "java/util/ArrayList$Itr" "expectedModCount" "I" (.int (3 : Int32))) (E2 : Exa Z h0 b2 "java/util/ArrayList") (Fm : Fld Z h0 b2 "java/util/AbstractList" "modCount" "I" (.int (3 : Int32))) (Fs : Fld Z h0 b2 "java/util/ArrayList" "size" "I" (.int (3 : Int32))) :
    OMet l (⟨"java/util/ArrayList$Itr", "checkForComodification", "()V"⟩ : MethodName) jdk_49_method_6_code 1 none ws ({ frames := 0, cells := 0, slots := 0, locals := 0 } : Room) Z #[(.ref a1)] h0 (fun v h L => v = none ∧ L = [] ∧ h = h0) := by
  refine own_body (plainFor_of_name pn_8) ?_
  intro p e s m below meth cdx T0 X0 hx hZ hby hml hown hnm hret hlk e0
  have N0 := Fr.nil n0
  refine own_entry (g' := (mkF m 0 #[.val (.ref a1)] [])) (by first | rfl | (simp [entryFrame, mkF, argsToLocals, Value.category, maxLocals]; done)) ?_
  have ne_a1_b2 : a1 ≠ b2 := Exa.ne E1 E2 (by decide)
  refine own_step (g' := (mkF m 1 #[.val (.ref a1)] [(.ref a1)])) (fun _ k => XS.aloadN X0.here hx rfl (hb hby d21_0) rfl rfl k) ?_
  obtain ⟨T1, X1, e1, st1⟩ := getF X0 hx hZ hown (host := "") (Or.inl (hw _ (List.mem_of_getElem? (i := 53) rfl))) Via.refl e0 F1 (g := (mkF m 1 #[.val (.ref a1)] [(.ref a1)])) rfl rfl (hb hby d21_1)
  refine own_via (g' := (mkF m 4 #[.val (.ref a1)] [(.ref b2)])) st1 ?_
  obtain ⟨T2, X2, e2, st2⟩ := getF X1 hx hZ hown (host := "") (Or.inl (hw _ (List.mem_of_getElem? (i := 58) rfl))) (Via.of (hw _ (List.mem_of_getElem? (i := 59) rfl))) e1 Fm (g := (mkF m 4 #[.val (.ref a1)] [(.ref b2)])) rfl rfl (hb hby d21_4)
  refine own_via (g' := (mkF m 7 #[.val (.ref a1)] [(.int (3 : Int32))])) st2 ?_
  refine own_step (g' := (mkF m 8 #[.val (.ref a1)] [(.ref a1), (.int (3 : Int32))])) (fun _ k => XS.aloadN X2.here hx rfl (hb hby d21_7) rfl rfl k) ?_
  obtain ⟨T3, X3, e3, st3⟩ := getF X2 hx hZ hown (host := "") (Or.inl (hw _ (List.mem_of_getElem? (i := 60) rfl))) Via.refl e2 F4 (g := (mkF m 8 #[.val (.ref a1)] [(.ref a1), (.int (3 : Int32))])) rfl rfl (hb hby d21_8)
  refine own_via (g' := (mkF m 11 #[.val (.ref a1)] [(.int (3 : Int32)), (.int (3 : Int32))])) st3 ?_
  refine own_step (g' := (mkF m 22 #[.val (.ref a1)] [])) (fun _ k => XS.icmpYes X3.here hx rfl (pc0 := 11) (pc' := 22) rfl (hb hby d21_11) rfl (teq (by decide : (3 : Int32) = (3 : Int32))).1 (by decide) (by decide) k) ?_
  exact own_retV X3 hx hret hlk (hb hby d21_22) e3 (by exact ⟨rfl, rfl, rfl⟩) (by decide) (by decide)
set_option maxRecDepth 65536 in
set_option maxHeartbeats 40000000 in
theorem rmNxt3_1 (l : Launch) (Z : State) (a0 : Array Value) (hw : ∀ d ∈ tables_1, d.before a0 Z = true) (ws : List Jvm.Cond) (a1 b2 : Addr) (ea y0 y1 y2 : Addr) (kd : ClassId) (h0 : Heap) (n0 : Nat) (Z0 : n0 ≤ h0.size) (E1 : Exa Z h0 a1 "java/util/ArrayList$Itr") (F1 : Fld Z h0 a1 "java/util/ArrayList$Itr" "this$0" "Ljava/util/ArrayList;" (.ref b2)) (F2 : Fld Z h0 a1 "java/util/ArrayList$Itr" "cursor" "I" (.int (1 : Int32))) (F3 : Fld Z h0 a1 "java/util/ArrayList$Itr" "lastRet" "I" (.int (0 : Int32))) (F4 : Fld Z h0 a1 "java/util/ArrayList$Itr" "expectedModCount" "I" (.int (3 : Int32))) (E2 : Exa Z h0 b2 "java/util/ArrayList") (Fm : Fld Z h0 b2 "java/util/AbstractList" "modCount" "I" (.int (3 : Int32))) (Fs : Fld Z h0 b2 "java/util/ArrayList" "size" "I" (.int (3 : Int32))) (g_a1 : n0 ≤ a1) (Fe : Fld Z h0 b2 "java/util/ArrayList" "elementData" "[Ljava/lang/Object;" (.ref ea)) (Ve : Arv Z h0 ea kd (.object "java/lang/Object") (10 : Int32) [(.ref y0), (.ref y1), (.ref y2), .null, .null, .null, .null, .null, .null, .null] .null) :
    OMet l (⟨"java/util/ArrayList$Itr", "next", "()Ljava/lang/Object;"⟩ : MethodName) jdk_49_method_3_code 3 (some (.object "java/lang/Object")) ws ({ frames := 1, cells := 0, slots := 0, locals := 12 } : Room) Z #[(.ref a1)] h0 (fun v h L => v = some (.ref y1) ∧ Fr n0 L ∧ Keep h0 h [a1] ∧ Exa Z h a1 "java/util/ArrayList$Itr" ∧ Fld Z h a1 "java/util/ArrayList$Itr" "this$0" "Ljava/util/ArrayList;" (.ref b2) ∧ Fld Z h a1 "java/util/ArrayList$Itr" "cursor" "I" (.int (2 : Int32)) ∧ Fld Z h a1 "java/util/ArrayList$Itr" "lastRet" "I" (.int (1 : Int32)) ∧ Fld Z h a1 "java/util/ArrayList$Itr" "expectedModCount" "I" (.int (3 : Int32))) := by
  refine own_body (plainFor_of_name pn_8) ?_
  intro p e s m below meth cdx T0 X0 hx hZ hby hml hown hnm hret hlk e0
  have N0 := Fr.nil n0
  refine own_entry (g' := (mkF m 0 #[.val (.ref a1), .unset, .unset] [])) (by first | rfl | (simp [entryFrame, mkF, argsToLocals, Value.category, maxLocals]; done)) ?_
  have KC0 := Keep.refl h0 [a1]
  have ne_a1_b2 : a1 ≠ b2 := Exa.ne E1 E2 (by decide)
  have ne_a1_ea : a1 ≠ ea := Exa.neArv E1 Ve (hw _ (List.mem_of_getElem? (i := 47) rfl))
  refine own_step (g' := (mkF m 1 #[.val (.ref a1), .unset, .unset] [(.ref a1)])) (fun _ k => XS.aloadN X0.here hx rfl (hb hby d20_0) rfl rfl k) ?_
  refine own_callV X0 hx hZ (W := 0) hown e0 (rmChk3_1 l Z a0 hw [] a1 b2 h0 n0 Z0 E1 F1 F2 F3 F4 E2 Fm Fs) E1 (hw _ (List.mem_of_getElem? (i := 144) rfl)) (hw _ (List.mem_of_getElem? (i := 145) rfl)) (notFace_of_selects (args := #[]) (mvT hZ (hw _ (List.mem_of_getElem? (i := 147) rfl)))) (hw _ (List.mem_of_getElem? (i := 147) rfl)) (hw _ (List.mem_of_getElem? (i := 146) rfl)) (hw _ (List.mem_of_getElem? (i := 148) rfl)) (hw _ (List.mem_of_getElem? (i := 48) rfl)) (by decide) (by decide) (by decide) (g := (mkF m 1 #[.val (.ref a1), .unset, .unset] [(.ref a1)])) rfl (by rw [hml]; rfl) (argsL := []) (rest := []) rfl (lenOf pd_0 rfl) rfl (by show 2 * 0 + _ ≤ _; exact Nat.le_of_eq rfl) (hb hby d20_1) (by decide) (by decide) ?_
  intro v1 T1 L1 X1 hQ1
  obtain ⟨rfl, rfl, e1⟩ := hQ1
  replace X1 := own_pureX X1
  show OGo p e below _ T1 (mkF m 4 #[.val (.ref a1), .unset, .unset] [])
  refine own_step (g' := (mkF m 5 #[.val (.ref a1), .unset, .unset] [(.ref a1)])) (fun _ k => XS.aloadN X1.here hx rfl (hb hby d20_4) rfl rfl k) ?_
  obtain ⟨T2, X2, e2, st2⟩ := getF X1 hx hZ hown (host := "") (Or.inl (hw _ (List.mem_of_getElem? (i := 79) rfl))) Via.refl e1 F2 (g := (mkF m 5 #[.val (.ref a1), .unset, .unset] [(.ref a1)])) rfl rfl (hb hby d20_5)
  refine own_via (g' := (mkF m 8 #[.val (.ref a1), .unset, .unset] [(.int (1 : Int32))])) st2 ?_
  refine own_step (g' := (mkF m 9 #[.val (.ref a1), .val (.int (1 : Int32)), .unset] [])) (fun _ k => XS.istoreN X2.here hx rfl (hb hby d20_8) rfl (l' := #[.val (.ref a1), .val (.int (1 : Int32)), .unset]) rfl k) ?_
  refine own_step (g' := (mkF m 10 #[.val (.ref a1), .val (.int (1 : Int32)), .unset] [(.int (1 : Int32))])) (fun _ k => XS.iloadN X2.here hx rfl (hb hby d20_9) rfl k) ?_
  refine own_step (g' := (mkF m 11 #[.val (.ref a1), .val (.int (1 : Int32)), .unset] [(.ref a1), (.int (1 : Int32))])) (fun _ k => XS.aloadN X2.here hx rfl (hb hby d20_10) rfl rfl k) ?_
  obtain ⟨T3, X3, e3, st3⟩ := getF X2 hx hZ hown (host := "") (Or.inl (hw _ (List.mem_of_getElem? (i := 53) rfl))) Via.refl e2 F1 (g := (mkF m 11 #[.val (.ref a1), .val (.int (1 : Int32)), .unset] [(.ref a1), (.int (1 : Int32))])) rfl rfl (hb hby d20_11)
  refine own_via (g' := (mkF m 14 #[.val (.ref a1), .val (.int (1 : Int32)), .unset] [(.ref b2), (.int (1 : Int32))])) st3 ?_
  obtain ⟨T4, X4, e4, st4⟩ := getF X3 hx hZ hown (Or.inr (hw _ (List.mem_of_getElem? (i := 81) rfl))) Via.refl e3 Fs (g := (mkF m 14 #[.val (.ref a1), .val (.int (1 : Int32)), .unset] [(.ref b2), (.int (1 : Int32))])) rfl rfl (hb hby d20_14)
  refine own_via (g' := (mkF m 17 #[.val (.ref a1), .val (.int (1 : Int32)), .unset] [(.int (3 : Int32)), (.int (1 : Int32))])) st4 ?_
  refine own_step (g' := (mkF m 28 #[.val (.ref a1), .val (.int (1 : Int32)), .unset] [])) (fun _ k => XS.icmpYes X4.here hx rfl (pc0 := 17) (pc' := 28) rfl (hb hby d20_17) rfl (tlt (by decide : (1 : Int32) < (3 : Int32))).1 (by decide) (by decide) k) ?_
  refine own_step (g' := (mkF m 29 #[.val (.ref a1), .val (.int (1 : Int32)), .unset] [(.ref a1)])) (fun _ k => XS.aloadN X4.here hx rfl (hb hby d20_28) rfl rfl k) ?_
  obtain ⟨T5, X5, e5, st5⟩ := getF X4 hx hZ hown (host := "") (Or.inl (hw _ (List.mem_of_getElem? (i := 53) rfl))) Via.refl e4 F1 (g := (mkF m 29 #[.val (.ref a1), .val (.int (1 : Int32)), .unset] [(.ref a1)])) rfl rfl (hb hby d20_29)
  refine own_via (g' := (mkF m 32 #[.val (.ref a1), .val (.int (1 : Int32)), .unset] [(.ref b2)])) st5 ?_
  obtain ⟨T6, X6, e6, st6⟩ := getF X5 hx hZ hown (host := "") (Or.inl (hw _ (List.mem_of_getElem? (i := 149) rfl))) Via.refl e5 Fe (g := (mkF m 32 #[.val (.ref a1), .val (.int (1 : Int32)), .unset] [(.ref b2)])) rfl rfl (hb hby d20_32)
  refine own_via (g' := (mkF m 35 #[.val (.ref a1), .val (.int (1 : Int32)), .unset] [(.ref ea)])) st6 ?_
  refine own_step (g' := (mkF m 36 #[.val (.ref a1), .val (.int (1 : Int32)), .val (.ref ea)] [])) (fun _ k => XS.astoreN X6.here hx rfl (hb hby d20_35) rfl rfl (l' := #[.val (.ref a1), .val (.int (1 : Int32)), .val (.ref ea)]) rfl k) ?_
  refine own_step (g' := (mkF m 37 #[.val (.ref a1), .val (.int (1 : Int32)), .val (.ref ea)] [(.int (1 : Int32))])) (fun _ k => XS.iloadN X6.here hx rfl (hb hby d20_36) rfl k) ?_
  refine own_step (g' := (mkF m 38 #[.val (.ref a1), .val (.int (1 : Int32)), .val (.ref ea)] [(.ref ea), (.int (1 : Int32))])) (fun _ k => XS.aloadN X6.here hx rfl (hb hby d20_37) rfl rfl k) ?_
  obtain ⟨cl7, Ar7, q7, S7, M7, H7, G7⟩ := id Ve
  refine own_step (g' := (mkF m 39 #[.val (.ref a1), .val (.int (1 : Int32)), .val (.ref ea)] [(.int (10 : Int32)), (.int (1 : Int32))])) (own_len (len_of S7 M7) (X6.arraylength hx (by rw [e6]; exact Ar7.1) (State.isArrayOf_alike hZ.alike Ar7.2.1) (g := (mkF m 38 #[.val (.ref a1), .val (.int (1 : Int32)), .val (.ref ea)] [(.ref ea), (.int (1 : Int32))])) rfl rfl (hb hby d20_38))) ?_
  refine own_step (g' := (mkF m 50 #[.val (.ref a1), .val (.int (1 : Int32)), .val (.ref ea)] [])) (fun _ k => XS.icmpYes X6.here hx rfl (pc0 := 39) (pc' := 50) rfl (hb hby d20_39) rfl (tlt (by decide : (1 : Int32) < (10 : Int32))).1 (by decide) (by decide) k) ?_
  refine own_step (g' := (mkF m 51 #[.val (.ref a1), .val (.int (1 : Int32)), .val (.ref ea)] [(.ref a1)])) (fun _ k => XS.aloadN X6.here hx rfl (hb hby d20_50) rfl rfl k) ?_
  refine own_step (g' := (mkF m 52 #[.val (.ref a1), .val (.int (1 : Int32)), .val (.ref ea)] [(.int (1 : Int32)), (.ref a1)])) (fun _ k => XS.iloadN X6.here hx rfl (hb hby d20_51) rfl k) ?_
  refine own_step (g' := (mkF m 53 #[.val (.ref a1), .val (.int (1 : Int32)), .val (.ref ea)] [(.int (1 : Int32)), (.int (1 : Int32)), (.ref a1)])) (fun _ k => XS.iconst X6.here hx rfl (hb hby d20_52) k) ?_
  refine own_step (g' := (mkF m 54 #[.val (.ref a1), .val (.int (1 : Int32)), .val (.ref ea)] [(.int (2 : Int32)), (.ref a1)])) (fun _ k => XS.iadd X6.here hx rfl (hb hby d20_53) rfl k) ?_
  obtain ⟨T8, h8, X8, e8, W8, st8⟩ := putF X6 hx hZ hown (host := "") (Or.inl (hw _ (List.mem_of_getElem? (i := 79) rfl))) Via.refl e6 F2 E1 (Or.inl (hw _ (List.mem_of_getElem? (i := 80) rfl))) (hw _ (List.mem_of_getElem? (i := 47) rfl)) (ty := .int) (by decide) rfl rfl (g := (mkF m 54 #[.val (.ref a1), .val (.int (1 : Int32)), .val (.ref ea)] [(.int (2 : Int32)), (.ref a1)])) rfl rfl (hb hby d20_54)
  have Fw8 := Fld.same W8 F2
  have N8 := Fr.snoc X8 N0 g_a1
  have K8 : Keep h0 h8 [a1] := KC0.wr W8 (Or.inl (List.mem_of_getElem? (i := 0) rfl))
  refine own_via (g' := (mkF m 57 #[.val (.ref a1), .val (.int (1 : Int32)), .val (.ref ea)] [])) st8 ?_
  refine own_step (g' := (mkF m 58 #[.val (.ref a1), .val (.int (1 : Int32)), .val (.ref ea)] [(.ref ea)])) (fun _ k => XS.aloadN X8.here hx rfl (hb hby d20_57) rfl rfl k) ?_
  refine own_step (g' := (mkF m 59 #[.val (.ref a1), .val (.int (1 : Int32)), .val (.ref ea)] [(.ref a1), (.ref ea)])) (fun _ k => XS.aloadN X8.here hx rfl (hb hby d20_58) rfl rfl k) ?_
  refine own_step (g' := (mkF m 60 #[.val (.ref a1), .val (.int (1 : Int32)), .val (.ref ea)] [(.int (1 : Int32)), (.ref a1), (.ref ea)])) (fun _ k => XS.iloadN X8.here hx rfl (hb hby d20_59) rfl k) ?_
  refine own_step (g' := (mkF m 61 #[.val (.ref a1), .val (.int (1 : Int32)), .val (.ref ea)] [(.int (1 : Int32)), (.ref a1), (.int (1 : Int32)), (.ref ea)])) (fun _ k => XS.dupX1 X8.here hx rfl (hb hby d20_60) rfl rfl rfl k) ?_
  have F_9 : Fld Z h8 a1 "java/util/ArrayList$Itr" "lastRet" "I" (.int (0 : Int32)) := (Fld.other W8 F3 (Or.inr (slot_ne (Or.inl (hw _ (List.mem_of_getElem? (i := 57) rfl))) (Or.inl (hw _ (List.mem_of_getElem? (i := 80) rfl))) (by decide) (t := .int) (t' := .int) (by decide) (by decide))))
  have C_10 : Exa Z h8 a1 "java/util/ArrayList$Itr" := (Exa.wr W8 E1)
  obtain ⟨T11, h11, X11, e11, W11, st11⟩ := putF X8 hx hZ hown (host := "") (Or.inl (hw _ (List.mem_of_getElem? (i := 56) rfl))) Via.refl e8 F_9 C_10 (Or.inl (hw _ (List.mem_of_getElem? (i := 57) rfl))) (hw _ (List.mem_of_getElem? (i := 47) rfl)) (ty := .int) (by decide) rfl rfl (g := (mkF m 61 #[.val (.ref a1), .val (.int (1 : Int32)), .val (.ref ea)] [(.int (1 : Int32)), (.ref a1), (.int (1 : Int32)), (.ref ea)])) rfl rfl (hb hby d20_61)
  have Fw11 := Fld.same W11 F_9
  have N11 := Fr.snoc X11 N8 g_a1
  have K11 : Keep h0 h11 [a1] := K8.wr W11 (Or.inl (List.mem_of_getElem? (i := 0) rfl))
  refine own_via (g' := (mkF m 64 #[.val (.ref a1), .val (.int (1 : Int32)), .val (.ref ea)] [(.int (1 : Int32)), (.ref ea)])) st11 ?_
  have V_12 : Arv Z h11 ea kd (.object "java/lang/Object") (10 : Int32) [(.ref y0), (.ref y1), (.ref y2), .null, .null, .null, .null, .null, .null, .null] .null := ((Ve.other W8 (Ne.symm ne_a1_ea)).other W11 (Ne.symm ne_a1_ea))
  obtain ⟨cl13, Ar13, q13, S13, M13, H13, G13⟩ := id V_12
  refine own_step (g' := (mkF m 65 #[.val (.ref a1), .val (.int (1 : Int32)), .val (.ref ea)] [(.ref y1)])) (X11.aaload hx (j := (1 : Int32)) (v := (.ref y1)) (by rw [e11]; exact Ar13.1) (State.isArrayOf_alike hZ.alike Ar13.2.1) rfl Ar13.2.2 (inb_of S13 ⟨by decide, by decide⟩) (Has.at H13 (inb_of S13 ⟨by decide, by decide⟩) rfl) (g := (mkF m 64 #[.val (.ref a1), .val (.int (1 : Int32)), .val (.ref ea)] [(.int (1 : Int32)), (.ref ea)])) rfl rfl (hb hby d20_64)) ?_
  have C_14 : Exa Z h11 a1 "java/util/ArrayList$Itr" := (Exa.wr W11 C_10)
  have F_15 : Fld Z h11 a1 "java/util/ArrayList$Itr" "this$0" "Ljava/util/ArrayList;" (.ref b2) := (Fld.other W11 (Fld.other W8 F1 (Or.inr (slot_ne (Or.inr (hw _ (List.mem_of_getElem? (i := 54) rfl))) (Or.inl (hw _ (List.mem_of_getElem? (i := 80) rfl))) (by decide) (t := (.object "java/util/ArrayList")) (t' := .int) (by decide) (by decide)))) (Or.inr (slot_ne (Or.inr (hw _ (List.mem_of_getElem? (i := 54) rfl))) (Or.inl (hw _ (List.mem_of_getElem? (i := 57) rfl))) (by decide) (t := (.object "java/util/ArrayList")) (t' := .int) (by decide) (by decide))))
  have F_16 : Fld Z h11 a1 "java/util/ArrayList$Itr" "cursor" "I" (.int (2 : Int32)) := (Fld.other W11 Fw8 (Or.inr (slot_ne (Or.inl (hw _ (List.mem_of_getElem? (i := 80) rfl))) (Or.inl (hw _ (List.mem_of_getElem? (i := 57) rfl))) (by decide) (t := .int) (t' := .int) (by decide) (by decide))))
  have F_17 : Fld Z h11 a1 "java/util/ArrayList$Itr" "expectedModCount" "I" (.int (3 : Int32)) := (Fld.other W11 (Fld.other W8 F4 (Or.inr (slot_ne (Or.inl (hw _ (List.mem_of_getElem? (i := 61) rfl))) (Or.inl (hw _ (List.mem_of_getElem? (i := 80) rfl))) (by decide) (t := .int) (t' := .int) (by decide) (by decide)))) (Or.inr (slot_ne (Or.inl (hw _ (List.mem_of_getElem? (i := 61) rfl))) (Or.inl (hw _ (List.mem_of_getElem? (i := 57) rfl))) (by decide) (t := .int) (t' := .int) (by decide) (by decide))))
  exact own_retA X11 hx hret rfl rfl hlk (hb hby d20_65) e11 (by exact ⟨rfl, N11, K11, C_14, F_15, F_16, Fw11, F_17⟩) (by decide) (by decide)
set_option maxRecDepth 65536 in
set_option maxHeartbeats 40000000 in
theorem rmLam3_1 (l : Launch) (Z : State) (a0 : Array Value) (hw : ∀ d ∈ tables_1, d.before a0 Z = true) (ws : List Jvm.Cond) (a1 b2 : Addr) (ea y0 y1 y2 : Addr) (kd : ClassId) (h0 : Heap) (n0 : Nat) (Z0 : n0 ≤ h0.size) (E1 : Exa Z h0 a1 "java/util/ArrayList$Itr") (F1 : Fld Z h0 a1 "java/util/ArrayList$Itr" "this$0" "Ljava/util/ArrayList;" (.ref b2)) (F2 : Fld Z h0 a1 "java/util/ArrayList$Itr" "cursor" "I" (.int (1 : Int32))) (F3 : Fld Z h0 a1 "java/util/ArrayList$Itr" "lastRet" "I" (.int (0 : Int32))) (F4 : Fld Z h0 a1 "java/util/ArrayList$Itr" "expectedModCount" "I" (.int (3 : Int32))) (E2 : Exa Z h0 b2 "java/util/ArrayList") (Fm : Fld Z h0 b2 "java/util/AbstractList" "modCount" "I" (.int (3 : Int32))) (Fs : Fld Z h0 b2 "java/util/ArrayList" "size" "I" (.int (3 : Int32))) (g_a1 : n0 ≤ a1) (Fe : Fld Z h0 b2 "java/util/ArrayList" "elementData" "[Ljava/lang/Object;" (.ref ea)) (Ve : Arv Z h0 ea kd (.object "java/lang/Object") (10 : Int32) [(.ref y0), (.ref y1), (.ref y2), .null, .null, .null, .null, .null, .null, .null] .null) :
    OMet l (⟨"com/example/cuttlefish/cuttlefish/store/RecordCursor", "lambda$over$0", "(Ljava/util/Iterator;)Ljava/lang/Object;"⟩ : MethodName) prog_23_method_3_code 1 (some (.object "java/lang/Object")) ws ({ frames := 2, cells := 0, slots := 0, locals := 26 } : Room) Z #[(.ref a1)] h0 (fun v h L => v = some (.ref y1) ∧ Fr n0 L ∧ Keep h0 h [a1] ∧ Exa Z h a1 "java/util/ArrayList$Itr" ∧ Fld Z h a1 "java/util/ArrayList$Itr" "this$0" "Ljava/util/ArrayList;" (.ref b2) ∧ Fld Z h a1 "java/util/ArrayList$Itr" "cursor" "I" (.int (2 : Int32)) ∧ Fld Z h a1 "java/util/ArrayList$Itr" "lastRet" "I" (.int (1 : Int32)) ∧ Fld Z h a1 "java/util/ArrayList$Itr" "expectedModCount" "I" (.int (3 : Int32))) := by
  refine own_body (plainFor_of_name pn_9) ?_
  intro p e s m below meth cdx T0 X0 hx hZ hby hml hown hnm hret hlk e0
  have N0 := Fr.nil n0
  refine own_entry (g' := (mkF m 0 #[.val (.ref a1)] [])) (by first | rfl | (simp [entryFrame, mkF, argsToLocals, Value.category, maxLocals]; done)) ?_
  have KC0 := Keep.refl h0 [a1]
  have ne_a1_b2 : a1 ≠ b2 := Exa.ne E1 E2 (by decide)
  have ne_a1_ea : a1 ≠ ea := Exa.neArv E1 Ve (hw _ (List.mem_of_getElem? (i := 47) rfl))
  refine own_step (g' := (mkF m 1 #[.val (.ref a1)] [(.ref a1)])) (fun _ k => XS.aloadN X0.here hx rfl (hb hby d9_0) rfl rfl k) ?_
  refine own_callI X0 hx hZ (W := 0) hown e0 (rmHas3_1 l Z a0 hw [] a1 b2 h0 n0 Z0 E1 F1 F2 F3 F4 E2 Fm Fs) E1 (hw _ (List.mem_of_getElem? (i := 70) rfl)) (hw _ (List.mem_of_getElem? (i := 71) rfl)) (mvT hZ (hw _ (List.mem_of_getElem? (i := 72) rfl))) (hw _ (List.mem_of_getElem? (i := 73) rfl)) (hw _ (List.mem_of_getElem? (i := 74) rfl)) (hw _ (List.mem_of_getElem? (i := 75) rfl)) (hw _ (List.mem_of_getElem? (i := 76) rfl)) (hw _ (List.mem_of_getElem? (i := 77) rfl)) (hw _ (List.mem_of_getElem? (i := 78) rfl)) (hw _ (List.mem_of_getElem? (i := 48) rfl)) (by decide) (by decide) (by decide) (g := (mkF m 1 #[.val (.ref a1)] [(.ref a1)])) rfl (by rw [hml]; rfl) (argsL := []) (rest := []) rfl (lenOf pd_7 rfl) rfl (by show 2 * 0 + _ ≤ _; exact Nat.le_of_eq rfl) (hb hby d9_1) (by decide) (by decide) ?_
  intro v1 T1 L1 X1 hQ1
  obtain ⟨rfl, rfl, e1⟩ := hQ1
  replace X1 := own_pureX X1
  show OGo p e below _ T1 (mkF m 6 #[.val (.ref a1)] [(.int (1 : Int32))])
  refine own_step (g' := (mkF m 9 #[.val (.ref a1)] [])) (fun _ k => XS.ifNo X1.here hx rfl (hb hby d9_6) rfl ((if0 _ _).trans (feq (by decide : ¬ ((1 : Int32) = (0 : Int32)))).1) k) ?_
  refine own_step (g' := (mkF m 10 #[.val (.ref a1)] [(.ref a1)])) (fun _ k => XS.aloadN X1.here hx rfl (hb hby d9_9) rfl rfl k) ?_
  refine own_callI X1 hx hZ (W := 0) hown e1 (rmNxt3_1 l Z a0 hw [] a1 b2 ea y0 y1 y2 kd h0 n0 Z0 E1 F1 F2 F3 F4 E2 Fm Fs g_a1 Fe Ve) E1 (hw _ (List.mem_of_getElem? (i := 136) rfl)) (hw _ (List.mem_of_getElem? (i := 137) rfl)) (mvT hZ (hw _ (List.mem_of_getElem? (i := 138) rfl))) (hw _ (List.mem_of_getElem? (i := 139) rfl)) (hw _ (List.mem_of_getElem? (i := 140) rfl)) (hw _ (List.mem_of_getElem? (i := 141) rfl)) (hw _ (List.mem_of_getElem? (i := 142) rfl)) (hw _ (List.mem_of_getElem? (i := 77) rfl)) (hw _ (List.mem_of_getElem? (i := 143) rfl)) (hw _ (List.mem_of_getElem? (i := 48) rfl)) (by decide) (by decide) (by decide) (g := (mkF m 10 #[.val (.ref a1)] [(.ref a1)])) rfl (by rw [hml]; rfl) (argsL := []) (rest := []) rfl (lenOf pd_8 rfl) rfl (by show 2 * 0 + _ ≤ _; exact Nat.le_of_eq rfl) (hb hby d9_10) (by decide) (by decide) ?_
  intro v2 T2 L2 X2 hQ2
  obtain ⟨rfl, Nq2, Kq2, Cn, Fn1, Fn2, Fn3, Fn4⟩ := hQ2
  have N2 := Fr.app N0 Nq2
  have K2 : Keep h0 T2.heap [a1] := KC0.trans Kq2 (allS (Or.inl (List.mem_of_getElem? (i := 0) rfl)) all0)
  show OGo p e below _ T2 (mkF m 15 #[.val (.ref a1)] [(.ref y1)])
  refine own_step (g' := (mkF m 19 #[.val (.ref a1)] [(.ref y1)])) (fun _ k => XS.goto X2.here hx rfl (pc0 := 15) (pc' := 19) rfl (hb hby d9_15) (by decide) (by decide) k) ?_
  exact own_retA X2 hx hret rfl rfl hlk (hb hby d9_19) rfl (by exact ⟨rfl, N2, K2, Cn, Fn1, Fn2, Fn3, Fn4⟩) (by decide) (by decide)
set_option maxRecDepth 65536 in
set_option maxHeartbeats 40000000 in
theorem rmHas3_2 (l : Launch) (Z : State) (a0 : Array Value) (hw : ∀ d ∈ tables_1, d.before a0 Z = true) (ws : List Jvm.Cond) (a1 b2 : Addr) (h0 : Heap) (n0 : Nat) (Z0 : n0 ≤ h0.size) (E1 : Exa Z h0 a1 "java/util/ArrayList$Itr") (F1 : Fld Z h0 a1 "java/util/ArrayList$Itr" "this$0" "Ljava/util/ArrayList;" (.ref b2)) (F2 : Fld Z h0 a1 "java/util/ArrayList$Itr" "cursor" "I" (.int (2 : Int32))) (F3 : Fld Z h0 a1 "java/util/ArrayList$Itr" "lastRet" "I" (.int (1 : Int32))) (F4 : Fld Z h0 a1 "java/util/ArrayList$Itr" "expectedModCount" "I" (.int (3 : Int32))) (E2 : Exa Z h0 b2 "java/util/ArrayList") (Fm : Fld Z h0 b2 "java/util/AbstractList" "modCount" "I" (.int (3 : Int32))) (Fs : Fld Z h0 b2 "java/util/ArrayList" "size" "I" (.int (3 : Int32))) :
    OMet l (⟨"java/util/ArrayList$Itr", "hasNext", "()Z"⟩ : MethodName) jdk_49_method_2_code 1 (some .boolean) ws ({ frames := 0, cells := 0, slots := 0, locals := 0 } : Room) Z #[(.ref a1)] h0 (fun v h L => v = some (.int (1 : Int32)) ∧ L = [] ∧ h = h0) := by
  refine own_body (plainFor_of_name pn_8) ?_
  intro p e s m below meth cdx T0 X0 hx hZ hby hml hown hnm hret hlk e0
  have N0 := Fr.nil n0
  refine own_entry (g' := (mkF m 0 #[.val (.ref a1)] [])) (by first | rfl | (simp [entryFrame, mkF, argsToLocals, Value.category, maxLocals]; done)) ?_
  have ne_a1_b2 : a1 ≠ b2 := Exa.ne E1 E2 (by decide)
  refine own_step (g' := (mkF m 1 #[.val (.ref a1)] [(.ref a1)])) (fun _ k => XS.aloadN X0.here hx rfl (hb hby d10_0) rfl rfl k) ?_
  obtain ⟨T1, X1, e1, st1⟩ := getF X0 hx hZ hown (host := "") (Or.inl (hw _ (List.mem_of_getElem? (i := 79) rfl))) Via.refl e0 F2 (g := (mkF m 1 #[.val (.ref a1)] [(.ref a1)])) rfl rfl (hb hby d10_1)
  refine own_via (g' := (mkF m 4 #[.val (.ref a1)] [(.int (2 : Int32))])) st1 ?_
  refine own_step (g' := (mkF m 5 #[.val (.ref a1)] [(.ref a1), (.int (2 : Int32))])) (fun _ k => XS.aloadN X1.here hx rfl (hb hby d10_4) rfl rfl k) ?_
  obtain ⟨T2, X2, e2, st2⟩ := getF X1 hx hZ hown (host := "") (Or.inl (hw _ (List.mem_of_getElem? (i := 53) rfl))) Via.refl e1 F1 (g := (mkF m 5 #[.val (.ref a1)] [(.ref a1), (.int (2 : Int32))])) rfl rfl (hb hby d10_5)
  refine own_via (g' := (mkF m 8 #[.val (.ref a1)] [(.ref b2), (.int (2 : Int32))])) st2 ?_
  obtain ⟨T3, X3, e3, st3⟩ := getF X2 hx hZ hown (Or.inr (hw _ (List.mem_of_getElem? (i := 81) rfl))) Via.refl e2 Fs (g := (mkF m 8 #[.val (.ref a1)] [(.ref b2), (.int (2 : Int32))])) rfl rfl (hb hby d10_8)
  refine own_via (g' := (mkF m 11 #[.val (.ref a1)] [(.int (3 : Int32)), (.int (2 : Int32))])) st3 ?_
  refine own_step (g' := (mkF m 14 #[.val (.ref a1)] [])) (fun _ k => XS.icmpNo X3.here hx rfl (hb hby d10_11) rfl (feq (by decide : ¬ ((2 : Int32) = (3 : Int32)))).1 k) ?_
  refine own_step (g' := (mkF m 15 #[.val (.ref a1)] [(.int (1 : Int32))])) (fun _ k => XS.iconst X3.here hx rfl (hb hby d10_14) k) ?_
  refine own_step (g' := (mkF m 19 #[.val (.ref a1)] [(.int (1 : Int32))])) (fun _ k => XS.goto X3.here hx rfl (pc0 := 15) (pc' := 19) rfl (hb hby d10_15) (by decide) (by decide) k) ?_
  exact own_retN X3 hx (t := .boolean) hret (by simp) hlk (hb hby d10_19) e3 (by exact ⟨rfl, rfl, rfl⟩) (by decide) (by decide)
set_option maxRecDepth 65536 in
set_option maxHeartbeats 40000000 in
theorem rmChk3_2 (l : Launch) (Z : State) (a0 : Array Value) (hw : ∀ d ∈ tables_1, d.before a0 Z = true) (ws : List Jvm.Cond) (a1 b2 : Addr) (h0 : Heap) (n0 : Nat) (Z0 : n0 ≤ h0.size) (E1 : Exa Z h0 a1 "java/util/ArrayList$Itr") (F1 : Fld Z h0 a1 "java/util/ArrayList$Itr" "this$0" "Ljava/util/ArrayList;" (.ref b2)) (F2 : Fld Z h0 a1 "java/util/ArrayList$Itr" "cursor" "I" (.int (2 : Int32))) (F3 : Fld Z h0 a1 "java/util/ArrayList$Itr" "lastRet" "I" (.int (1 : Int32))) (F4 : Fld Z h0 a1 "java/util/ArrayList$Itr" "expectedModCount" "I" (.int (3 : Int32))) (E2 : Exa Z h0 b2 "java/util/ArrayList") (Fm : Fld Z h0 b2 "java/util/AbstractList" "modCount" "I" (.int (3 : Int32))) (Fs : Fld Z h0 b2 "java/util/ArrayList" "size" "I" (.int (3 : Int32))) :
    OMet l (⟨"java/util/ArrayList$Itr", "checkForComodification", "()V"⟩ : MethodName) jdk_49_method_6_code 1 none ws ({ frames := 0, cells := 0, slots := 0, locals := 0 } : Room) Z #[(.ref a1)] h0 (fun v h L => v = none ∧ L = [] ∧ h = h0) := by
  refine own_body (plainFor_of_name pn_8) ?_
  intro p e s m below meth cdx T0 X0 hx hZ hby hml hown hnm hret hlk e0
  have N0 := Fr.nil n0
  refine own_entry (g' := (mkF m 0 #[.val (.ref a1)] [])) (by first | rfl | (simp [entryFrame, mkF, argsToLocals, Value.category, maxLocals]; done)) ?_
  have ne_a1_b2 : a1 ≠ b2 := Exa.ne E1 E2 (by decide)
  refine own_step (g' := (mkF m 1 #[.val (.ref a1)] [(.ref a1)])) (fun _ k => XS.aloadN X0.here hx rfl (hb hby d21_0) rfl rfl k) ?_
  obtain ⟨T1, X1, e1, st1⟩ := getF X0 hx hZ hown (host := "") (Or.inl (hw _ (List.mem_of_getElem? (i := 53) rfl))) Via.refl e0 F1 (g := (mkF m 1 #[.val (.ref a1)] [(.ref a1)])) rfl rfl (hb hby d21_1)
  refine own_via (g' := (mkF m 4 #[.val (.ref a1)] [(.ref b2)])) st1 ?_
  obtain ⟨T2, X2, e2, st2⟩ := getF X1 hx hZ hown (host := "") (Or.inl (hw _ (List.mem_of_getElem? (i := 58) rfl))) (Via.of (hw _ (List.mem_of_getElem? (i := 59) rfl))) e1 Fm (g := (mkF m 4 #[.val (.ref a1)] [(.ref b2)])) rfl rfl (hb hby d21_4)
  refine own_via (g' := (mkF m 7 #[.val (.ref a1)] [(.int (3 : Int32))])) st2 ?_
  refine own_step (g' := (mkF m 8 #[.val (.ref a1)] [(.ref a1), (.int (3 : Int32))])) (fun _ k => XS.aloadN X2.here hx rfl (hb hby d21_7) rfl rfl k) ?_
  obtain ⟨T3, X3, e3, st3⟩ := getF X2 hx hZ hown (host := "") (Or.inl (hw _ (List.mem_of_getElem? (i := 60) rfl))) Via.refl e2 F4 (g := (mkF m 8 #[.val (.ref a1)] [(.ref a1), (.int (3 : Int32))])) rfl rfl (hb hby d21_8)
  refine own_via (g' := (mkF m 11 #[.val (.ref a1)] [(.int (3 : Int32)), (.int (3 : Int32))])) st3 ?_
  refine own_step (g' := (mkF m 22 #[.val (.ref a1)] [])) (fun _ k => XS.icmpYes X3.here hx rfl (pc0 := 11) (pc' := 22) rfl (hb hby d21_11) rfl (teq (by decide : (3 : Int32) = (3 : Int32))).1 (by decide) (by decide) k) ?_
  exact own_retV X3 hx hret hlk (hb hby d21_22) e3 (by exact ⟨rfl, rfl, rfl⟩) (by decide) (by decide)
set_option maxRecDepth 65536 in
set_option maxHeartbeats 40000000 in
theorem rmNxt3_2 (l : Launch) (Z : State) (a0 : Array Value) (hw : ∀ d ∈ tables_1, d.before a0 Z = true) (ws : List Jvm.Cond) (a1 b2 : Addr) (ea y0 y1 y2 : Addr) (kd : ClassId) (h0 : Heap) (n0 : Nat) (Z0 : n0 ≤ h0.size) (E1 : Exa Z h0 a1 "java/util/ArrayList$Itr") (F1 : Fld Z h0 a1 "java/util/ArrayList$Itr" "this$0" "Ljava/util/ArrayList;" (.ref b2)) (F2 : Fld Z h0 a1 "java/util/ArrayList$Itr" "cursor" "I" (.int (2 : Int32))) (F3 : Fld Z h0 a1 "java/util/ArrayList$Itr" "lastRet" "I" (.int (1 : Int32))) (F4 : Fld Z h0 a1 "java/util/ArrayList$Itr" "expectedModCount" "I" (.int (3 : Int32))) (E2 : Exa Z h0 b2 "java/util/ArrayList") (Fm : Fld Z h0 b2 "java/util/AbstractList" "modCount" "I" (.int (3 : Int32))) (Fs : Fld Z h0 b2 "java/util/ArrayList" "size" "I" (.int (3 : Int32))) (g_a1 : n0 ≤ a1) (Fe : Fld Z h0 b2 "java/util/ArrayList" "elementData" "[Ljava/lang/Object;" (.ref ea)) (Ve : Arv Z h0 ea kd (.object "java/lang/Object") (10 : Int32) [(.ref y0), (.ref y1), (.ref y2), .null, .null, .null, .null, .null, .null, .null] .null) :
    OMet l (⟨"java/util/ArrayList$Itr", "next", "()Ljava/lang/Object;"⟩ : MethodName) jdk_49_method_3_code 3 (some (.object "java/lang/Object")) ws ({ frames := 1, cells := 0, slots := 0, locals := 12 } : Room) Z #[(.ref a1)] h0 (fun v h L => v = some (.ref y2) ∧ Fr n0 L ∧ Keep h0 h [a1] ∧ Exa Z h a1 "java/util/ArrayList$Itr" ∧ Fld Z h a1 "java/util/ArrayList$Itr" "this$0" "Ljava/util/ArrayList;" (.ref b2) ∧ Fld Z h a1 "java/util/ArrayList$Itr" "cursor" "I" (.int (3 : Int32)) ∧ Fld Z h a1 "java/util/ArrayList$Itr" "lastRet" "I" (.int (2 : Int32)) ∧ Fld Z h a1 "java/util/ArrayList$Itr" "expectedModCount" "I" (.int (3 : Int32))) := by
  refine own_body (plainFor_of_name pn_8) ?_
  intro p e s m below meth cdx T0 X0 hx hZ hby hml hown hnm hret hlk e0
  have N0 := Fr.nil n0
  refine own_entry (g' := (mkF m 0 #[.val (.ref a1), .unset, .unset] [])) (by first | rfl | (simp [entryFrame, mkF, argsToLocals, Value.category, maxLocals]; done)) ?_
  have KC0 := Keep.refl h0 [a1]
  have ne_a1_b2 : a1 ≠ b2 := Exa.ne E1 E2 (by decide)
  have ne_a1_ea : a1 ≠ ea := Exa.neArv E1 Ve (hw _ (List.mem_of_getElem? (i := 47) rfl))
  refine own_step (g' := (mkF m 1 #[.val (.ref a1), .unset, .unset] [(.ref a1)])) (fun _ k => XS.aloadN X0.here hx rfl (hb hby d20_0) rfl rfl k) ?_
  refine own_callV X0 hx hZ (W := 0) hown e0 (rmChk3_2 l Z a0 hw [] a1 b2 h0 n0 Z0 E1 F1 F2 F3 F4 E2 Fm Fs) E1 (hw _ (List.mem_of_getElem? (i := 144) rfl)) (hw _ (List.mem_of_getElem? (i := 145) rfl)) (notFace_of_selects (args := #[]) (mvT hZ (hw _ (List.mem_of_getElem? (i := 147) rfl)))) (hw _ (List.mem_of_getElem? (i := 147) rfl)) (hw _ (List.mem_of_getElem? (i := 146) rfl)) (hw _ (List.mem_of_getElem? (i := 148) rfl)) (hw _ (List.mem_of_getElem? (i := 48) rfl)) (by decide) (by decide) (by decide) (g := (mkF m 1 #[.val (.ref a1), .unset, .unset] [(.ref a1)])) rfl (by rw [hml]; rfl) (argsL := []) (rest := []) rfl (lenOf pd_0 rfl) rfl (by show 2 * 0 + _ ≤ _; exact Nat.le_of_eq rfl) (hb hby d20_1) (by decide) (by decide) ?_
  intro v1 T1 L1 X1 hQ1
  obtain ⟨rfl, rfl, e1⟩ := hQ1
  replace X1 := own_pureX X1
  show OGo p e below _ T1 (mkF m 4 #[.val (.ref a1), .unset, .unset] [])
  refine own_step (g' := (mkF m 5 #[.val (.ref a1), .unset, .unset] [(.ref a1)])) (fun _ k => XS.aloadN X1.here hx rfl (hb hby d20_4) rfl rfl k) ?_
  obtain ⟨T2, X2, e2, st2⟩ := getF X1 hx hZ hown (host := "") (Or.inl (hw _ (List.mem_of_getElem? (i := 79) rfl))) Via.refl e1 F2 (g := (mkF m 5 #[.val (.ref a1), .unset, .unset] [(.ref a1)])) rfl rfl (hb hby d20_5)
  refine own_via (g' := (mkF m 8 #[.val (.ref a1), .unset, .unset] [(.int (2 : Int32))])) st2 ?_
  refine own_step (g' := (mkF m 9 #[.val (.ref a1), .val (.int (2 : Int32)), .unset] [])) (fun _ k => XS.istoreN X2.here hx rfl (hb hby d20_8) rfl (l' := #[.val (.ref a1), .val (.int (2 : Int32)), .unset]) rfl k) ?_
  refine own_step (g' := (mkF m 10 #[.val (.ref a1), .val (.int (2 : Int32)), .unset] [(.int (2 : Int32))])) (fun _ k => XS.iloadN X2.here hx rfl (hb hby d20_9) rfl k) ?_
  refine own_step (g' := (mkF m 11 #[.val (.ref a1), .val (.int (2 : Int32)), .unset] [(.ref a1), (.int (2 : Int32))])) (fun _ k => XS.aloadN X2.here hx rfl (hb hby d20_10) rfl rfl k) ?_
  obtain ⟨T3, X3, e3, st3⟩ := getF X2 hx hZ hown (host := "") (Or.inl (hw _ (List.mem_of_getElem? (i := 53) rfl))) Via.refl e2 F1 (g := (mkF m 11 #[.val (.ref a1), .val (.int (2 : Int32)), .unset] [(.ref a1), (.int (2 : Int32))])) rfl rfl (hb hby d20_11)
  refine own_via (g' := (mkF m 14 #[.val (.ref a1), .val (.int (2 : Int32)), .unset] [(.ref b2), (.int (2 : Int32))])) st3 ?_
  obtain ⟨T4, X4, e4, st4⟩ := getF X3 hx hZ hown (Or.inr (hw _ (List.mem_of_getElem? (i := 81) rfl))) Via.refl e3 Fs (g := (mkF m 14 #[.val (.ref a1), .val (.int (2 : Int32)), .unset] [(.ref b2), (.int (2 : Int32))])) rfl rfl (hb hby d20_14)
  refine own_via (g' := (mkF m 17 #[.val (.ref a1), .val (.int (2 : Int32)), .unset] [(.int (3 : Int32)), (.int (2 : Int32))])) st4 ?_
  refine own_step (g' := (mkF m 28 #[.val (.ref a1), .val (.int (2 : Int32)), .unset] [])) (fun _ k => XS.icmpYes X4.here hx rfl (pc0 := 17) (pc' := 28) rfl (hb hby d20_17) rfl (tlt (by decide : (2 : Int32) < (3 : Int32))).1 (by decide) (by decide) k) ?_
  refine own_step (g' := (mkF m 29 #[.val (.ref a1), .val (.int (2 : Int32)), .unset] [(.ref a1)])) (fun _ k => XS.aloadN X4.here hx rfl (hb hby d20_28) rfl rfl k) ?_
  obtain ⟨T5, X5, e5, st5⟩ := getF X4 hx hZ hown (host := "") (Or.inl (hw _ (List.mem_of_getElem? (i := 53) rfl))) Via.refl e4 F1 (g := (mkF m 29 #[.val (.ref a1), .val (.int (2 : Int32)), .unset] [(.ref a1)])) rfl rfl (hb hby d20_29)
  refine own_via (g' := (mkF m 32 #[.val (.ref a1), .val (.int (2 : Int32)), .unset] [(.ref b2)])) st5 ?_
  obtain ⟨T6, X6, e6, st6⟩ := getF X5 hx hZ hown (host := "") (Or.inl (hw _ (List.mem_of_getElem? (i := 149) rfl))) Via.refl e5 Fe (g := (mkF m 32 #[.val (.ref a1), .val (.int (2 : Int32)), .unset] [(.ref b2)])) rfl rfl (hb hby d20_32)
  refine own_via (g' := (mkF m 35 #[.val (.ref a1), .val (.int (2 : Int32)), .unset] [(.ref ea)])) st6 ?_
  refine own_step (g' := (mkF m 36 #[.val (.ref a1), .val (.int (2 : Int32)), .val (.ref ea)] [])) (fun _ k => XS.astoreN X6.here hx rfl (hb hby d20_35) rfl rfl (l' := #[.val (.ref a1), .val (.int (2 : Int32)), .val (.ref ea)]) rfl k) ?_
  refine own_step (g' := (mkF m 37 #[.val (.ref a1), .val (.int (2 : Int32)), .val (.ref ea)] [(.int (2 : Int32))])) (fun _ k => XS.iloadN X6.here hx rfl (hb hby d20_36) rfl k) ?_
  refine own_step (g' := (mkF m 38 #[.val (.ref a1), .val (.int (2 : Int32)), .val (.ref ea)] [(.ref ea), (.int (2 : Int32))])) (fun _ k => XS.aloadN X6.here hx rfl (hb hby d20_37) rfl rfl k) ?_
  obtain ⟨cl7, Ar7, q7, S7, M7, H7, G7⟩ := id Ve
  refine own_step (g' := (mkF m 39 #[.val (.ref a1), .val (.int (2 : Int32)), .val (.ref ea)] [(.int (10 : Int32)), (.int (2 : Int32))])) (own_len (len_of S7 M7) (X6.arraylength hx (by rw [e6]; exact Ar7.1) (State.isArrayOf_alike hZ.alike Ar7.2.1) (g := (mkF m 38 #[.val (.ref a1), .val (.int (2 : Int32)), .val (.ref ea)] [(.ref ea), (.int (2 : Int32))])) rfl rfl (hb hby d20_38))) ?_
  refine own_step (g' := (mkF m 50 #[.val (.ref a1), .val (.int (2 : Int32)), .val (.ref ea)] [])) (fun _ k => XS.icmpYes X6.here hx rfl (pc0 := 39) (pc' := 50) rfl (hb hby d20_39) rfl (tlt (by decide : (2 : Int32) < (10 : Int32))).1 (by decide) (by decide) k) ?_
  refine own_step (g' := (mkF m 51 #[.val (.ref a1), .val (.int (2 : Int32)), .val (.ref ea)] [(.ref a1)])) (fun _ k => XS.aloadN X6.here hx rfl (hb hby d20_50) rfl rfl k) ?_
  refine own_step (g' := (mkF m 52 #[.val (.ref a1), .val (.int (2 : Int32)), .val (.ref ea)] [(.int (2 : Int32)), (.ref a1)])) (fun _ k => XS.iloadN X6.here hx rfl (hb hby d20_51) rfl k) ?_
  refine own_step (g' := (mkF m 53 #[.val (.ref a1), .val (.int (2 : Int32)), .val (.ref ea)] [(.int (1 : Int32)), (.int (2 : Int32)), (.ref a1)])) (fun _ k => XS.iconst X6.here hx rfl (hb hby d20_52) k) ?_
  refine own_step (g' := (mkF m 54 #[.val (.ref a1), .val (.int (2 : Int32)), .val (.ref ea)] [(.int (3 : Int32)), (.ref a1)])) (fun _ k => XS.iadd X6.here hx rfl (hb hby d20_53) rfl k) ?_
  obtain ⟨T8, h8, X8, e8, W8, st8⟩ := putF X6 hx hZ hown (host := "") (Or.inl (hw _ (List.mem_of_getElem? (i := 79) rfl))) Via.refl e6 F2 E1 (Or.inl (hw _ (List.mem_of_getElem? (i := 80) rfl))) (hw _ (List.mem_of_getElem? (i := 47) rfl)) (ty := .int) (by decide) rfl rfl (g := (mkF m 54 #[.val (.ref a1), .val (.int (2 : Int32)), .val (.ref ea)] [(.int (3 : Int32)), (.ref a1)])) rfl rfl (hb hby d20_54)
  have Fw8 := Fld.same W8 F2
  have N8 := Fr.snoc X8 N0 g_a1
  have K8 : Keep h0 h8 [a1] := KC0.wr W8 (Or.inl (List.mem_of_getElem? (i := 0) rfl))
  refine own_via (g' := (mkF m 57 #[.val (.ref a1), .val (.int (2 : Int32)), .val (.ref ea)] [])) st8 ?_
  refine own_step (g' := (mkF m 58 #[.val (.ref a1), .val (.int (2 : Int32)), .val (.ref ea)] [(.ref ea)])) (fun _ k => XS.aloadN X8.here hx rfl (hb hby d20_57) rfl rfl k) ?_
  refine own_step (g' := (mkF m 59 #[.val (.ref a1), .val (.int (2 : Int32)), .val (.ref ea)] [(.ref a1), (.ref ea)])) (fun _ k => XS.aloadN X8.here hx rfl (hb hby d20_58) rfl rfl k) ?_
  refine own_step (g' := (mkF m 60 #[.val (.ref a1), .val (.int (2 : Int32)), .val (.ref ea)] [(.int (2 : Int32)), (.ref a1), (.ref ea)])) (fun _ k => XS.iloadN X8.here hx rfl (hb hby d20_59) rfl k) ?_
  refine own_step (g' := (mkF m 61 #[.val (.ref a1), .val (.int (2 : Int32)), .val (.ref ea)] [(.int (2 : Int32)), (.ref a1), (.int (2 : Int32)), (.ref ea)])) (fun _ k => XS.dupX1 X8.here hx rfl (hb hby d20_60) rfl rfl rfl k) ?_
  have F_9 : Fld Z h8 a1 "java/util/ArrayList$Itr" "lastRet" "I" (.int (1 : Int32)) := (Fld.other W8 F3 (Or.inr (slot_ne (Or.inl (hw _ (List.mem_of_getElem? (i := 57) rfl))) (Or.inl (hw _ (List.mem_of_getElem? (i := 80) rfl))) (by decide) (t := .int) (t' := .int) (by decide) (by decide))))
  have C_10 : Exa Z h8 a1 "java/util/ArrayList$Itr" := (Exa.wr W8 E1)
  obtain ⟨T11, h11, X11, e11, W11, st11⟩ := putF X8 hx hZ hown (host := "") (Or.inl (hw _ (List.mem_of_getElem? (i := 56) rfl))) Via.refl e8 F_9 C_10 (Or.inl (hw _ (List.mem_of_getElem? (i := 57) rfl))) (hw _ (List.mem_of_getElem? (i := 47) rfl)) (ty := .int) (by decide) rfl rfl (g := (mkF m 61 #[.val (.ref a1), .val (.int (2 : Int32)), .val (.ref ea)] [(.int (2 : Int32)), (.ref a1), (.int (2 : Int32)), (.ref ea)])) rfl rfl (hb hby d20_61)
  have Fw11 := Fld.same W11 F_9
  have N11 := Fr.snoc X11 N8 g_a1
  have K11 : Keep h0 h11 [a1] := K8.wr W11 (Or.inl (List.mem_of_getElem? (i := 0) rfl))
  refine own_via (g' := (mkF m 64 #[.val (.ref a1), .val (.int (2 : Int32)), .val (.ref ea)] [(.int (2 : Int32)), (.ref ea)])) st11 ?_
  have V_12 : Arv Z h11 ea kd (.object "java/lang/Object") (10 : Int32) [(.ref y0), (.ref y1), (.ref y2), .null, .null, .null, .null, .null, .null, .null] .null := ((Ve.other W8 (Ne.symm ne_a1_ea)).other W11 (Ne.symm ne_a1_ea))
  obtain ⟨cl13, Ar13, q13, S13, M13, H13, G13⟩ := id V_12
  refine own_step (g' := (mkF m 65 #[.val (.ref a1), .val (.int (2 : Int32)), .val (.ref ea)] [(.ref y2)])) (X11.aaload hx (j := (2 : Int32)) (v := (.ref y2)) (by rw [e11]; exact Ar13.1) (State.isArrayOf_alike hZ.alike Ar13.2.1) rfl Ar13.2.2 (inb_of S13 ⟨by decide, by decide⟩) (Has.at H13 (inb_of S13 ⟨by decide, by decide⟩) rfl) (g := (mkF m 64 #[.val (.ref a1), .val (.int (2 : Int32)), .val (.ref ea)] [(.int (2 : Int32)), (.ref ea)])) rfl rfl (hb hby d20_64)) ?_
  have C_14 : Exa Z h11 a1 "java/util/ArrayList$Itr" := (Exa.wr W11 C_10)
  have F_15 : Fld Z h11 a1 "java/util/ArrayList$Itr" "this$0" "Ljava/util/ArrayList;" (.ref b2) := (Fld.other W11 (Fld.other W8 F1 (Or.inr (slot_ne (Or.inr (hw _ (List.mem_of_getElem? (i := 54) rfl))) (Or.inl (hw _ (List.mem_of_getElem? (i := 80) rfl))) (by decide) (t := (.object "java/util/ArrayList")) (t' := .int) (by decide) (by decide)))) (Or.inr (slot_ne (Or.inr (hw _ (List.mem_of_getElem? (i := 54) rfl))) (Or.inl (hw _ (List.mem_of_getElem? (i := 57) rfl))) (by decide) (t := (.object "java/util/ArrayList")) (t' := .int) (by decide) (by decide))))
  have F_16 : Fld Z h11 a1 "java/util/ArrayList$Itr" "cursor" "I" (.int (3 : Int32)) := (Fld.other W11 Fw8 (Or.inr (slot_ne (Or.inl (hw _ (List.mem_of_getElem? (i := 80) rfl))) (Or.inl (hw _ (List.mem_of_getElem? (i := 57) rfl))) (by decide) (t := .int) (t' := .int) (by decide) (by decide))))
  have F_17 : Fld Z h11 a1 "java/util/ArrayList$Itr" "expectedModCount" "I" (.int (3 : Int32)) := (Fld.other W11 (Fld.other W8 F4 (Or.inr (slot_ne (Or.inl (hw _ (List.mem_of_getElem? (i := 61) rfl))) (Or.inl (hw _ (List.mem_of_getElem? (i := 80) rfl))) (by decide) (t := .int) (t' := .int) (by decide) (by decide)))) (Or.inr (slot_ne (Or.inl (hw _ (List.mem_of_getElem? (i := 61) rfl))) (Or.inl (hw _ (List.mem_of_getElem? (i := 57) rfl))) (by decide) (t := .int) (t' := .int) (by decide) (by decide))))
  exact own_retA X11 hx hret rfl rfl hlk (hb hby d20_65) e11 (by exact ⟨rfl, N11, K11, C_14, F_15, F_16, Fw11, F_17⟩) (by decide) (by decide)
set_option maxRecDepth 65536 in
set_option maxHeartbeats 40000000 in
theorem rmLam3_2 (l : Launch) (Z : State) (a0 : Array Value) (hw : ∀ d ∈ tables_1, d.before a0 Z = true) (ws : List Jvm.Cond) (a1 b2 : Addr) (ea y0 y1 y2 : Addr) (kd : ClassId) (h0 : Heap) (n0 : Nat) (Z0 : n0 ≤ h0.size) (E1 : Exa Z h0 a1 "java/util/ArrayList$Itr") (F1 : Fld Z h0 a1 "java/util/ArrayList$Itr" "this$0" "Ljava/util/ArrayList;" (.ref b2)) (F2 : Fld Z h0 a1 "java/util/ArrayList$Itr" "cursor" "I" (.int (2 : Int32))) (F3 : Fld Z h0 a1 "java/util/ArrayList$Itr" "lastRet" "I" (.int (1 : Int32))) (F4 : Fld Z h0 a1 "java/util/ArrayList$Itr" "expectedModCount" "I" (.int (3 : Int32))) (E2 : Exa Z h0 b2 "java/util/ArrayList") (Fm : Fld Z h0 b2 "java/util/AbstractList" "modCount" "I" (.int (3 : Int32))) (Fs : Fld Z h0 b2 "java/util/ArrayList" "size" "I" (.int (3 : Int32))) (g_a1 : n0 ≤ a1) (Fe : Fld Z h0 b2 "java/util/ArrayList" "elementData" "[Ljava/lang/Object;" (.ref ea)) (Ve : Arv Z h0 ea kd (.object "java/lang/Object") (10 : Int32) [(.ref y0), (.ref y1), (.ref y2), .null, .null, .null, .null, .null, .null, .null] .null) :
    OMet l (⟨"com/example/cuttlefish/cuttlefish/store/RecordCursor", "lambda$over$0", "(Ljava/util/Iterator;)Ljava/lang/Object;"⟩ : MethodName) prog_23_method_3_code 1 (some (.object "java/lang/Object")) ws ({ frames := 2, cells := 0, slots := 0, locals := 26 } : Room) Z #[(.ref a1)] h0 (fun v h L => v = some (.ref y2) ∧ Fr n0 L ∧ Keep h0 h [a1] ∧ Exa Z h a1 "java/util/ArrayList$Itr" ∧ Fld Z h a1 "java/util/ArrayList$Itr" "this$0" "Ljava/util/ArrayList;" (.ref b2) ∧ Fld Z h a1 "java/util/ArrayList$Itr" "cursor" "I" (.int (3 : Int32)) ∧ Fld Z h a1 "java/util/ArrayList$Itr" "lastRet" "I" (.int (2 : Int32)) ∧ Fld Z h a1 "java/util/ArrayList$Itr" "expectedModCount" "I" (.int (3 : Int32))) := by
  refine own_body (plainFor_of_name pn_9) ?_
  intro p e s m below meth cdx T0 X0 hx hZ hby hml hown hnm hret hlk e0
  have N0 := Fr.nil n0
  refine own_entry (g' := (mkF m 0 #[.val (.ref a1)] [])) (by first | rfl | (simp [entryFrame, mkF, argsToLocals, Value.category, maxLocals]; done)) ?_
  have KC0 := Keep.refl h0 [a1]
  have ne_a1_b2 : a1 ≠ b2 := Exa.ne E1 E2 (by decide)
  have ne_a1_ea : a1 ≠ ea := Exa.neArv E1 Ve (hw _ (List.mem_of_getElem? (i := 47) rfl))
  refine own_step (g' := (mkF m 1 #[.val (.ref a1)] [(.ref a1)])) (fun _ k => XS.aloadN X0.here hx rfl (hb hby d9_0) rfl rfl k) ?_
  refine own_callI X0 hx hZ (W := 0) hown e0 (rmHas3_2 l Z a0 hw [] a1 b2 h0 n0 Z0 E1 F1 F2 F3 F4 E2 Fm Fs) E1 (hw _ (List.mem_of_getElem? (i := 70) rfl)) (hw _ (List.mem_of_getElem? (i := 71) rfl)) (mvT hZ (hw _ (List.mem_of_getElem? (i := 72) rfl))) (hw _ (List.mem_of_getElem? (i := 73) rfl)) (hw _ (List.mem_of_getElem? (i := 74) rfl)) (hw _ (List.mem_of_getElem? (i := 75) rfl)) (hw _ (List.mem_of_getElem? (i := 76) rfl)) (hw _ (List.mem_of_getElem? (i := 77) rfl)) (hw _ (List.mem_of_getElem? (i := 78) rfl)) (hw _ (List.mem_of_getElem? (i := 48) rfl)) (by decide) (by decide) (by decide) (g := (mkF m 1 #[.val (.ref a1)] [(.ref a1)])) rfl (by rw [hml]; rfl) (argsL := []) (rest := []) rfl (lenOf pd_7 rfl) rfl (by show 2 * 0 + _ ≤ _; exact Nat.le_of_eq rfl) (hb hby d9_1) (by decide) (by decide) ?_
  intro v1 T1 L1 X1 hQ1
  obtain ⟨rfl, rfl, e1⟩ := hQ1
  replace X1 := own_pureX X1
  show OGo p e below _ T1 (mkF m 6 #[.val (.ref a1)] [(.int (1 : Int32))])
  refine own_step (g' := (mkF m 9 #[.val (.ref a1)] [])) (fun _ k => XS.ifNo X1.here hx rfl (hb hby d9_6) rfl ((if0 _ _).trans (feq (by decide : ¬ ((1 : Int32) = (0 : Int32)))).1) k) ?_
  refine own_step (g' := (mkF m 10 #[.val (.ref a1)] [(.ref a1)])) (fun _ k => XS.aloadN X1.here hx rfl (hb hby d9_9) rfl rfl k) ?_
  refine own_callI X1 hx hZ (W := 0) hown e1 (rmNxt3_2 l Z a0 hw [] a1 b2 ea y0 y1 y2 kd h0 n0 Z0 E1 F1 F2 F3 F4 E2 Fm Fs g_a1 Fe Ve) E1 (hw _ (List.mem_of_getElem? (i := 136) rfl)) (hw _ (List.mem_of_getElem? (i := 137) rfl)) (mvT hZ (hw _ (List.mem_of_getElem? (i := 138) rfl))) (hw _ (List.mem_of_getElem? (i := 139) rfl)) (hw _ (List.mem_of_getElem? (i := 140) rfl)) (hw _ (List.mem_of_getElem? (i := 141) rfl)) (hw _ (List.mem_of_getElem? (i := 142) rfl)) (hw _ (List.mem_of_getElem? (i := 77) rfl)) (hw _ (List.mem_of_getElem? (i := 143) rfl)) (hw _ (List.mem_of_getElem? (i := 48) rfl)) (by decide) (by decide) (by decide) (g := (mkF m 10 #[.val (.ref a1)] [(.ref a1)])) rfl (by rw [hml]; rfl) (argsL := []) (rest := []) rfl (lenOf pd_8 rfl) rfl (by show 2 * 0 + _ ≤ _; exact Nat.le_of_eq rfl) (hb hby d9_10) (by decide) (by decide) ?_
  intro v2 T2 L2 X2 hQ2
  obtain ⟨rfl, Nq2, Kq2, Cn, Fn1, Fn2, Fn3, Fn4⟩ := hQ2
  have N2 := Fr.app N0 Nq2
  have K2 : Keep h0 T2.heap [a1] := KC0.trans Kq2 (allS (Or.inl (List.mem_of_getElem? (i := 0) rfl)) all0)
  show OGo p e below _ T2 (mkF m 15 #[.val (.ref a1)] [(.ref y2)])
  refine own_step (g' := (mkF m 19 #[.val (.ref a1)] [(.ref y2)])) (fun _ k => XS.goto X2.here hx rfl (pc0 := 15) (pc' := 19) rfl (hb hby d9_15) (by decide) (by decide) k) ?_
  exact own_retA X2 hx hret rfl rfl hlk (hb hby d9_19) rfl (by exact ⟨rfl, N2, K2, Cn, Fn1, Fn2, Fn3, Fn4⟩) (by decide) (by decide)
set_option maxRecDepth 65536 in
set_option maxHeartbeats 40000000 in
theorem rmHas3_3 (l : Launch) (Z : State) (a0 : Array Value) (hw : ∀ d ∈ tables_1, d.before a0 Z = true) (ws : List Jvm.Cond) (a1 b2 : Addr) (h0 : Heap) (n0 : Nat) (Z0 : n0 ≤ h0.size) (E1 : Exa Z h0 a1 "java/util/ArrayList$Itr") (F1 : Fld Z h0 a1 "java/util/ArrayList$Itr" "this$0" "Ljava/util/ArrayList;" (.ref b2)) (F2 : Fld Z h0 a1 "java/util/ArrayList$Itr" "cursor" "I" (.int (3 : Int32))) (F3 : Fld Z h0 a1 "java/util/ArrayList$Itr" "lastRet" "I" (.int (2 : Int32))) (F4 : Fld Z h0 a1 "java/util/ArrayList$Itr" "expectedModCount" "I" (.int (3 : Int32))) (E2 : Exa Z h0 b2 "java/util/ArrayList") (Fm : Fld Z h0 b2 "java/util/AbstractList" "modCount" "I" (.int (3 : Int32))) (Fs : Fld Z h0 b2 "java/util/ArrayList" "size" "I" (.int (3 : Int32))) :
    OMet l (⟨"java/util/ArrayList$Itr", "hasNext", "()Z"⟩ : MethodName) jdk_49_method_2_code 1 (some .boolean) ws ({ frames := 0, cells := 0, slots := 0, locals := 0 } : Room) Z #[(.ref a1)] h0 (fun v h L => v = some (.int (0 : Int32)) ∧ L = [] ∧ h = h0) := by
  refine own_body (plainFor_of_name pn_8) ?_
  intro p e s m below meth cdx T0 X0 hx hZ hby hml hown hnm hret hlk e0
  have N0 := Fr.nil n0
  refine own_entry (g' := (mkF m 0 #[.val (.ref a1)] [])) (by first | rfl | (simp [entryFrame, mkF, argsToLocals, Value.category, maxLocals]; done)) ?_
  have ne_a1_b2 : a1 ≠ b2 := Exa.ne E1 E2 (by decide)
  refine own_step (g' := (mkF m 1 #[.val (.ref a1)] [(.ref a1)])) (fun _ k => XS.aloadN X0.here hx rfl (hb hby d10_0) rfl rfl k) ?_
  obtain ⟨T1, X1, e1, st1⟩ := getF X0 hx hZ hown (host := "") (Or.inl (hw _ (List.mem_of_getElem? (i := 79) rfl))) Via.refl e0 F2 (g := (mkF m 1 #[.val (.ref a1)] [(.ref a1)])) rfl rfl (hb hby d10_1)
  refine own_via (g' := (mkF m 4 #[.val (.ref a1)] [(.int (3 : Int32))])) st1 ?_
  refine own_step (g' := (mkF m 5 #[.val (.ref a1)] [(.ref a1), (.int (3 : Int32))])) (fun _ k => XS.aloadN X1.here hx rfl (hb hby d10_4) rfl rfl k) ?_
  obtain ⟨T2, X2, e2, st2⟩ := getF X1 hx hZ hown (host := "") (Or.inl (hw _ (List.mem_of_getElem? (i := 53) rfl))) Via.refl e1 F1 (g := (mkF m 5 #[.val (.ref a1)] [(.ref a1), (.int (3 : Int32))])) rfl rfl (hb hby d10_5)
  refine own_via (g' := (mkF m 8 #[.val (.ref a1)] [(.ref b2), (.int (3 : Int32))])) st2 ?_
  obtain ⟨T3, X3, e3, st3⟩ := getF X2 hx hZ hown (Or.inr (hw _ (List.mem_of_getElem? (i := 81) rfl))) Via.refl e2 Fs (g := (mkF m 8 #[.val (.ref a1)] [(.ref b2), (.int (3 : Int32))])) rfl rfl (hb hby d10_8)
  refine own_via (g' := (mkF m 11 #[.val (.ref a1)] [(.int (3 : Int32)), (.int (3 : Int32))])) st3 ?_
  refine own_step (g' := (mkF m 18 #[.val (.ref a1)] [])) (fun _ k => XS.icmpYes X3.here hx rfl (pc0 := 11) (pc' := 18) rfl (hb hby d10_11) rfl (teq (by decide : (3 : Int32) = (3 : Int32))).1 (by decide) (by decide) k) ?_
  refine own_step (g' := (mkF m 19 #[.val (.ref a1)] [(.int (0 : Int32))])) (fun _ k => XS.iconst X3.here hx rfl (hb hby d10_18) k) ?_
  exact own_retN X3 hx (t := .boolean) hret (by simp) hlk (hb hby d10_19) e3 (by exact ⟨rfl, rfl, rfl⟩) (by decide) (by decide)
set_option maxRecDepth 65536 in
set_option maxHeartbeats 40000000 in
theorem rmLam3_3 (l : Launch) (Z : State) (a0 : Array Value) (hw : ∀ d ∈ tables_1, d.before a0 Z = true) (ws : List Jvm.Cond) (a1 b2 : Addr) (h0 : Heap) (n0 : Nat) (Z0 : n0 ≤ h0.size) (E1 : Exa Z h0 a1 "java/util/ArrayList$Itr") (F1 : Fld Z h0 a1 "java/util/ArrayList$Itr" "this$0" "Ljava/util/ArrayList;" (.ref b2)) (F2 : Fld Z h0 a1 "java/util/ArrayList$Itr" "cursor" "I" (.int (3 : Int32))) (F3 : Fld Z h0 a1 "java/util/ArrayList$Itr" "lastRet" "I" (.int (2 : Int32))) (F4 : Fld Z h0 a1 "java/util/ArrayList$Itr" "expectedModCount" "I" (.int (3 : Int32))) (E2 : Exa Z h0 b2 "java/util/ArrayList") (Fm : Fld Z h0 b2 "java/util/AbstractList" "modCount" "I" (.int (3 : Int32))) (Fs : Fld Z h0 b2 "java/util/ArrayList" "size" "I" (.int (3 : Int32))) :
    OMet l (⟨"com/example/cuttlefish/cuttlefish/store/RecordCursor", "lambda$over$0", "(Ljava/util/Iterator;)Ljava/lang/Object;"⟩ : MethodName) prog_23_method_3_code 1 (some (.object "java/lang/Object")) ws ({ frames := 1, cells := 0, slots := 0, locals := 12 } : Room) Z #[(.ref a1)] h0 (fun v h L => v = some .null ∧ Fr n0 L ∧ Keep h0 h [a1] ∧ Exa Z h a1 "java/util/ArrayList$Itr" ∧ Fld Z h a1 "java/util/ArrayList$Itr" "this$0" "Ljava/util/ArrayList;" (.ref b2) ∧ Fld Z h a1 "java/util/ArrayList$Itr" "cursor" "I" (.int (3 : Int32)) ∧ Fld Z h a1 "java/util/ArrayList$Itr" "lastRet" "I" (.int (2 : Int32)) ∧ Fld Z h a1 "java/util/ArrayList$Itr" "expectedModCount" "I" (.int (3 : Int32))) := by
  refine own_body (plainFor_of_name pn_9) ?_
  intro p e s m below meth cdx T0 X0 hx hZ hby hml hown hnm hret hlk e0
  have N0 := Fr.nil n0
  refine own_entry (g' := (mkF m 0 #[.val (.ref a1)] [])) (by first | rfl | (simp [entryFrame, mkF, argsToLocals, Value.category, maxLocals]; done)) ?_
  have KC0 := Keep.refl h0 [a1]
  have ne_a1_b2 : a1 ≠ b2 := Exa.ne E1 E2 (by decide)
  refine own_step (g' := (mkF m 1 #[.val (.ref a1)] [(.ref a1)])) (fun _ k => XS.aloadN X0.here hx rfl (hb hby d9_0) rfl rfl k) ?_
  refine own_callI X0 hx hZ (W := 0) hown e0 (rmHas3_3 l Z a0 hw [] a1 b2 h0 n0 Z0 E1 F1 F2 F3 F4 E2 Fm Fs) E1 (hw _ (List.mem_of_getElem? (i := 70) rfl)) (hw _ (List.mem_of_getElem? (i := 71) rfl)) (mvT hZ (hw _ (List.mem_of_getElem? (i := 72) rfl))) (hw _ (List.mem_of_getElem? (i := 73) rfl)) (hw _ (List.mem_of_getElem? (i := 74) rfl)) (hw _ (List.mem_of_getElem? (i := 75) rfl)) (hw _ (List.mem_of_getElem? (i := 76) rfl)) (hw _ (List.mem_of_getElem? (i := 77) rfl)) (hw _ (List.mem_of_getElem? (i := 78) rfl)) (hw _ (List.mem_of_getElem? (i := 48) rfl)) (by decide) (by decide) (by decide) (g := (mkF m 1 #[.val (.ref a1)] [(.ref a1)])) rfl (by rw [hml]; rfl) (argsL := []) (rest := []) rfl (lenOf pd_7 rfl) rfl (by show 2 * 0 + _ ≤ _; exact Nat.le_of_eq rfl) (hb hby d9_1) (by decide) (by decide) ?_
  intro v1 T1 L1 X1 hQ1
  obtain ⟨rfl, rfl, e1⟩ := hQ1
  replace X1 := own_pureX X1
  show OGo p e below _ T1 (mkF m 6 #[.val (.ref a1)] [(.int (0 : Int32))])
  refine own_step (g' := (mkF m 18 #[.val (.ref a1)] [])) (fun _ k => XS.ifYes X1.here hx rfl (pc0 := 6) (pc' := 18) rfl (hb hby d9_6) rfl ((if0 _ _).trans (teq (by decide : (0 : Int32) = (0 : Int32))).1) (by decide) (by decide) k) ?_
  refine own_step (g' := (mkF m 19 #[.val (.ref a1)] [.null])) (fun _ k => XS.aconstNull X1.here hx rfl (hb hby d9_18) k) ?_
  exact own_retA X1 hx hret rfl rfl hlk (hb hby d9_19) e1 (by exact ⟨rfl, N0, KC0, E1, F1, F2, F3, F4⟩) (by decide) (by decide)
theorem d6_0 : decode prog_23_method_2_code 0 = .ok (.aload_n 0, 1) := by decide +kernel
theorem d6_1 : decode prog_23_method_2_code 1 = .ok (.invokeinterface 1 1, 5) := by decide +kernel
theorem d6_6 : decode prog_23_method_2_code 6 = .ok (.astore_n 1, 1) := by decide +kernel
theorem d6_7 : decode prog_23_method_2_code 7 = .ok (.aload_n 1, 1) := by decide +kernel
theorem d6_8 : decode prog_23_method_2_code 8 = .ok (.invokedynamic 7, 5) := by decide +kernel
theorem d6_13 : decode prog_23_method_2_code 13 = .ok (.areturn, 1) := by decide +kernel
theorem pd_9 : parseMethodDescriptor "()Ljava/util/Iterator;" = some ⟨[], some (.object "java/util/Iterator")⟩ := by decide +kernel
set_option maxRecDepth 65536 in
set_option maxHeartbeats 40000000 in
theorem rmOver (l : Launch) (Z : State) (a0 : Array Value) (hw : ∀ d ∈ tables_1, d.before a0 Z = true) (ws : List Jvm.Cond) (b2 : Addr) (mc : Int32) (cK : ClassId) (h0 : Heap) (n0 : Nat) (Z0 : n0 ≤ h0.size) (HL : OLam Z cK) (HS : OSite Z cK) (E2 : Exa Z h0 b2 "java/util/ArrayList") (Fm : Fld Z h0 b2 "java/util/AbstractList" "modCount" "I" (.int mc)) :
    OMet l (⟨"com/example/cuttlefish/cuttlefish/store/RecordCursor", "over", "(Ljava/util/List;)Lcom/example/cuttlefish/cuttlefish/store/RecordCursor;"⟩ : MethodName) prog_23_method_2_code 2 (some (.object "com/example/cuttlefish/cuttlefish/store/RecordCursor")) ws ({ frames := 3, cells := 2, slots := 5, locals := 3073 } : Room) Z #[(.ref b2)] h0 (fun v h L => (∃ lf it : Addr, v = some (.ref lf) ∧ h0.size ≤ lf ∧ h0.size ≤ it ∧ n0 ≤ it ∧ it ≠ lf ∧ h[lf]? = some (own_lam cK it) ∧ Exa Z h it "java/util/ArrayList$Itr" ∧ Fld Z h it "java/util/ArrayList$Itr" "this$0" "Ljava/util/ArrayList;" (.ref b2) ∧ Fld Z h it "java/util/ArrayList$Itr" "cursor" "I" (.int (0 : Int32)) ∧ Fld Z h it "java/util/ArrayList$Itr" "lastRet" "I" (.int (-1 : Int32)) ∧ Fld Z h it "java/util/ArrayList$Itr" "expectedModCount" "I" (.int mc)) ∧ Fr n0 L ∧ Keep h0 h []) := by
  refine own_bodyN (plainFor_of_name pn_9) ?_
  intro p e s m below meth cdx T0 X0 hx hZ hby hml hown hnm hret hlk e0 hnamed
  have N0 := Fr.nil n0
  refine own_entry (g' := (mkF m 0 #[.val (.ref b2), .unset] [])) (by first | rfl | (simp [entryFrame, mkF, argsToLocals, Value.category, maxLocals]; done)) ?_
  have KC0 := Keep.refl h0 []
  refine own_step (g' := (mkF m 1 #[.val (.ref b2), .unset] [(.ref b2)])) (fun _ k => XS.aloadN X0.here hx rfl (hb hby d6_0) rfl rfl k) ?_
  refine own_callI X0 hx hZ (W := 0) hown e0 (rmIter l Z a0 hw [] b2 mc h0 n0 Z0 E2 Fm) E2 (hw _ (List.mem_of_getElem? (i := 37) rfl)) (hw _ (List.mem_of_getElem? (i := 38) rfl)) (mvT hZ (hw _ (List.mem_of_getElem? (i := 39) rfl))) (hw _ (List.mem_of_getElem? (i := 40) rfl)) (hw _ (List.mem_of_getElem? (i := 41) rfl)) (hw _ (List.mem_of_getElem? (i := 42) rfl)) (hw _ (List.mem_of_getElem? (i := 43) rfl)) (hw _ (List.mem_of_getElem? (i := 44) rfl)) (hw _ (List.mem_of_getElem? (i := 45) rfl)) (hw _ (List.mem_of_getElem? (i := 9) rfl)) (by decide) (by decide) (by decide) (g := (mkF m 1 #[.val (.ref b2), .unset] [(.ref b2)])) rfl (by rw [hml]; rfl) (argsL := []) (rest := []) rfl (lenOf pd_9 rfl) rfl (by show 2 * 0 + _ ≤ _; exact Nat.le_of_eq rfl) (hb hby d6_1) (by decide) (by decide) ?_
  intro v1 T1 L1 X1 hQ1
  obtain ⟨⟨it, rfl, szi, g_it, Ci, I1, I2, I3, I4⟩, Nq1, Kq1⟩ := hQ1
  have N1 := Fr.app N0 Nq1
  have K1 : Keep h0 T1.heap [] := KC0.trans Kq1 all0
  have sz_it : h0.size ≤ it := Nat.le_trans KC0.1 szi
  show OGo p e below _ T1 (mkF m 6 #[.val (.ref b2), .unset] [(.ref it)])
  refine own_step (g' := (mkF m 7 #[.val (.ref b2), .val (.ref it)] [])) (fun _ k => XS.astoreN X1.here hx rfl (hb hby d6_6) rfl rfl (l' := #[.val (.ref b2), .val (.ref it)]) rfl k) ?_
  refine own_step (g' := (mkF m 8 #[.val (.ref b2), .val (.ref it)] [(.ref it)])) (fun _ k => XS.aloadN X1.here hx rfl (hb hby d6_7) rfl rfl k) ?_
  have C_3 : Exa Z T1.heap b2 "java/util/ArrayList" := (E2.keep Kq1)
  obtain ⟨T2, h2, X2, e2, Ex2, A2, st2⟩ := own_mkLam X1 hx hZ HL HS hnamed rfl (g := (mkF m 8 #[.val (.ref b2), .val (.ref it)] [(.ref it)])) rfl rfl (by rw [hml]; rfl) rfl rfl (hb hby d6_8) (by decide) (by decide) (by decide)
  obtain ⟨nb2, g2⟩ : ∃ z, z = T1.heap.size := ⟨_, rfl⟩
  rw [← g2] at A2 st2
  have g_nb2 : n0 ≤ nb2 := Nat.le_trans (Nat.le_trans Z0 Kq1.1) (Nat.le_of_eq g2.symm)
  have ne_b2_nb2 : b2 ≠ nb2 := Nat.ne_of_lt (Nat.lt_of_lt_of_le C_3.lt (Nat.le_of_eq g2.symm))
  have ne_it_nb2 : it ≠ nb2 := Nat.ne_of_lt (Nat.lt_of_lt_of_le Ci.lt (Nat.le_of_eq g2.symm))
  have sz_nb2 : h0.size ≤ nb2 := Nat.le_trans K1.1 (Nat.le_of_eq g2.symm)
  have K2 : Keep h0 h2 [] := K1.ext Ex2
  refine own_via (g' := (mkF m 13 #[.val (.ref b2), .val (.ref it)] [(.ref nb2)])) st2 ?_
  have C_4 : Exa Z h2 it "java/util/ArrayList$Itr" := (Exa.ext Ex2 Ci)
  have F_5 : Fld Z h2 it "java/util/ArrayList$Itr" "this$0" "Ljava/util/ArrayList;" (.ref b2) := (Fld.ext Ex2 I1)
  have F_6 : Fld Z h2 it "java/util/ArrayList$Itr" "cursor" "I" (.int (0 : Int32)) := (Fld.ext Ex2 I2)
  have F_7 : Fld Z h2 it "java/util/ArrayList$Itr" "lastRet" "I" (.int (-1 : Int32)) := (Fld.ext Ex2 I3)
  have F_8 : Fld Z h2 it "java/util/ArrayList$Itr" "expectedModCount" "I" (.int mc) := (Fld.ext Ex2 I4)
  exact own_retA X2 hx hret rfl rfl hlk (hb hby d6_13) e2 (by exact ⟨⟨_, _, rfl, sz_nb2, sz_it, g_it, ne_it_nb2, A2, C_4, F_5, F_6, F_7, F_8⟩, N1, K2⟩) (by decide) (by decide)
theorem d11_0 : decode method_2_code 0 = .ok (.iload_n 0, 1) := by decide +kernel
theorem d11_1 : decode method_2_code 1 = .ok (.iload_n 1, 1) := by decide +kernel
theorem d11_2 : decode method_2_code 2 = .ok (.if_icmp .lt 14, 3) := by decide +kernel
theorem d11_5 : decode method_2_code 5 = .ok (.aload_n 2, 1) := by decide +kernel
theorem d11_6 : decode method_2_code 6 = .ok (.aload_n 3, 1) := by decide +kernel
theorem d11_7 : decode method_2_code 7 = .ok (.if_acmp .ne 7, 3) := by decide +kernel
theorem d11_10 : decode method_2_code 10 = .ok (.iconst 1, 1) := by decide +kernel
theorem d11_11 : decode method_2_code 11 = .ok (.goto 4, 3) := by decide +kernel
theorem d11_15 : decode method_2_code 15 = .ok (.ireturn, 1) := by decide +kernel
theorem pn_11 : plainName "com/example/cuttlefish/cuttlefish/store/RecordCursorOverPinLaw" = true := by first | (simp [plainName, overriddenIn]; done) | decide +kernel
set_option maxRecDepth 65536 in
set_option maxHeartbeats 40000000 in
theorem rmSlotY (l : Launch) (Z : State) (a0 : Array Value) (hw : ∀ d ∈ tables_1, d.before a0 Z = true) (ws : List Jvm.Cond) (p1 p2 : Int32) (r1 : Addr) (h0 : Heap) (n0 : Nat) (Z0 : n0 ≤ h0.size) (hpp : ¬ (p1 < p2)) :
    OMet l (⟨"com/example/cuttlefish/cuttlefish/store/RecordCursorOverPinLaw", "slot", "(IILjava/lang/Integer;Ljava/lang/Integer;)Z"⟩ : MethodName) method_2_code 4 (some .boolean) ws ({ frames := 0, cells := 0, slots := 0, locals := 0 } : Room) Z #[(.int p1), (.int p2), (.ref r1), (.ref r1)] h0 (fun v h L => v = some (.int (1 : Int32)) ∧ L = [] ∧ h = h0) := by
  refine own_body (plainFor_of_name pn_11) ?_
  intro p e s m below meth cdx T0 X0 hx hZ hby hml hown hnm hret hlk e0
  have N0 := Fr.nil n0
  refine own_entry (g' := (mkF m 0 #[.val (.int p1), .val (.int p2), .val (.ref r1), .val (.ref r1)] [])) (by first | rfl | (simp [entryFrame, mkF, argsToLocals, Value.category, maxLocals]; done)) ?_
  refine own_step (g' := (mkF m 1 #[.val (.int p1), .val (.int p2), .val (.ref r1), .val (.ref r1)] [(.int p1)])) (fun _ k => XS.iloadN X0.here hx rfl (hb hby d11_0) rfl k) ?_
  refine own_step (g' := (mkF m 2 #[.val (.int p1), .val (.int p2), .val (.ref r1), .val (.ref r1)] [(.int p2), (.int p1)])) (fun _ k => XS.iloadN X0.here hx rfl (hb hby d11_1) rfl k) ?_
  refine own_step (g' := (mkF m 5 #[.val (.int p1), .val (.int p2), .val (.ref r1), .val (.ref r1)] [])) (fun _ k => XS.icmpNo X0.here hx rfl (hb hby d11_2) rfl (flt hpp).1 k) ?_
  refine own_step (g' := (mkF m 6 #[.val (.int p1), .val (.int p2), .val (.ref r1), .val (.ref r1)] [(.ref r1)])) (fun _ k => XS.aloadN X0.here hx rfl (hb hby d11_5) rfl rfl k) ?_
  refine own_step (g' := (mkF m 7 #[.val (.int p1), .val (.int p2), .val (.ref r1), .val (.ref r1)] [(.ref r1), (.ref r1)])) (fun _ k => XS.aloadN X0.here hx rfl (hb hby d11_6) rfl rfl k) ?_
  refine own_step (g' := (mkF m 10 #[.val (.int p1), .val (.int p2), .val (.ref r1), .val (.ref r1)] [])) (fun _ k => Jvm.RoadKit.acmp (g := (mkF m 7 #[.val (.int p1), .val (.int p2), .val (.ref r1), .val (.ref r1)] [(.ref r1), (.ref r1)])) X0 hx rfl rfl rfl (pc0 := 7) (pc' := 10) (same := true) rfl (hb hby d11_7) rfl (decide_eq_true rfl) (by decide) (by decide) k) ?_
  refine own_step (g' := (mkF m 11 #[.val (.int p1), .val (.int p2), .val (.ref r1), .val (.ref r1)] [(.int (1 : Int32))])) (fun _ k => XS.iconst X0.here hx rfl (hb hby d11_10) k) ?_
  refine own_step (g' := (mkF m 15 #[.val (.int p1), .val (.int p2), .val (.ref r1), .val (.ref r1)] [(.int (1 : Int32))])) (fun _ k => XS.goto X0.here hx rfl (pc0 := 11) (pc' := 15) rfl (hb hby d11_11) (by decide) (by decide) k) ?_
  exact own_retN X0 hx (t := .boolean) hret (by simp) hlk (hb hby d11_15) e0 (by exact ⟨rfl, rfl, rfl⟩) (by decide) (by decide)
theorem d11_16 : decode method_2_code 16 = .ok (.aload_n 2, 1) := by decide +kernel
theorem d11_17 : decode method_2_code 17 = .ok (.ifnonnull 7, 3) := by decide +kernel
theorem d11_20 : decode method_2_code 20 = .ok (.iconst 1, 1) := by decide +kernel
theorem d11_21 : decode method_2_code 21 = .ok (.goto 4, 3) := by decide +kernel
theorem d11_25 : decode method_2_code 25 = .ok (.ireturn, 1) := by decide +kernel
set_option maxRecDepth 65536 in
set_option maxHeartbeats 40000000 in
theorem rmSlotN (l : Launch) (Z : State) (a0 : Array Value) (hw : ∀ d ∈ tables_1, d.before a0 Z = true) (ws : List Jvm.Cond) (p1 p2 : Int32) (r1 : Addr) (h0 : Heap) (n0 : Nat) (Z0 : n0 ≤ h0.size) (hpp : p1 < p2) :
    OMet l (⟨"com/example/cuttlefish/cuttlefish/store/RecordCursorOverPinLaw", "slot", "(IILjava/lang/Integer;Ljava/lang/Integer;)Z"⟩ : MethodName) method_2_code 4 (some .boolean) ws ({ frames := 0, cells := 0, slots := 0, locals := 0 } : Room) Z #[(.int p1), (.int p2), .null, (.ref r1)] h0 (fun v h L => v = some (.int (1 : Int32)) ∧ L = [] ∧ h = h0) := by
  refine own_body (plainFor_of_name pn_11) ?_
  intro p e s m below meth cdx T0 X0 hx hZ hby hml hown hnm hret hlk e0
  have N0 := Fr.nil n0
  refine own_entry (g' := (mkF m 0 #[.val (.int p1), .val (.int p2), .val .null, .val (.ref r1)] [])) (by first | rfl | (simp [entryFrame, mkF, argsToLocals, Value.category, maxLocals]; done)) ?_
  refine own_step (g' := (mkF m 1 #[.val (.int p1), .val (.int p2), .val .null, .val (.ref r1)] [(.int p1)])) (fun _ k => XS.iloadN X0.here hx rfl (hb hby d11_0) rfl k) ?_
  refine own_step (g' := (mkF m 2 #[.val (.int p1), .val (.int p2), .val .null, .val (.ref r1)] [(.int p2), (.int p1)])) (fun _ k => XS.iloadN X0.here hx rfl (hb hby d11_1) rfl k) ?_
  refine own_step (g' := (mkF m 16 #[.val (.int p1), .val (.int p2), .val .null, .val (.ref r1)] [])) (fun _ k => XS.icmpYes X0.here hx rfl (pc0 := 2) (pc' := 16) rfl (hb hby d11_2) rfl (tlt hpp).1 (by decide) (by decide) k) ?_
  refine own_step (g' := (mkF m 17 #[.val (.int p1), .val (.int p2), .val .null, .val (.ref r1)] [.null])) (fun _ k => XS.aloadN X0.here hx rfl (hb hby d11_16) rfl rfl k) ?_
  refine own_step (g' := (mkF m 20 #[.val (.int p1), .val (.int p2), .val .null, .val (.ref r1)] [])) (fun _ k => XS.ifnonnullNo X0.here hx rfl (hb hby d11_17) rfl k) ?_
  refine own_step (g' := (mkF m 21 #[.val (.int p1), .val (.int p2), .val .null, .val (.ref r1)] [(.int (1 : Int32))])) (fun _ k => XS.iconst X0.here hx rfl (hb hby d11_20) k) ?_
  refine own_step (g' := (mkF m 25 #[.val (.int p1), .val (.int p2), .val .null, .val (.ref r1)] [(.int (1 : Int32))])) (fun _ k => XS.goto X0.here hx rfl (pc0 := 21) (pc' := 25) rfl (hb hby d11_21) (by decide) (by decide) k) ?_
  exact own_retN X0 hx (t := .boolean) hret (by simp) hlk (hb hby d11_25) e0 (by exact ⟨rfl, rfl, rfl⟩) (by decide) (by decide)
def Q0 (n0 : Nat) : Option Value → Heap → List Loc → Prop := fun v h L => v = some (.int 1) ∧ Fr n0 L
theorem own_and3 (x : Int32) : x &&& (3 : Int32) = (0 : Int32) ∨ x &&& (3 : Int32) = (1 : Int32) ∨ x &&& (3 : Int32) = (2 : Int32) ∨ x &&& (3 : Int32) = (3 : Int32) := by
  have q := c_and x 3 (by decide)
  simp only [← Int32.toInt_inj]
  have e0 : (0 : Int32).toInt = 0 := by decide
  have e1 : (1 : Int32).toInt = 1 := by decide
  have e2 : (2 : Int32).toInt = 2 := by decide
  have e3 : (3 : Int32).toInt = 3 := by decide
  omega
theorem pd_10 : parseMethodDescriptor "(I)Ljava/lang/Integer;" = some ⟨[.int], some (.object "java/lang/Integer")⟩ := by decide +kernel
theorem pd_11 : parseMethodDescriptor "(Ljava/util/List;)Lcom/example/cuttlefish/cuttlefish/store/RecordCursor;" = some ⟨[(.object "java/util/List")], some (.object "com/example/cuttlefish/cuttlefish/store/RecordCursor")⟩ := by decide +kernel
theorem pd_12 : parseMethodDescriptor "(IILjava/lang/Integer;Ljava/lang/Integer;)Z" = some ⟨[.int, .int, (.object "java/lang/Integer"), (.object "java/lang/Integer")], some .boolean⟩ := by decide +kernel
theorem pd_13 : parseMethodDescriptor "()I" = some ⟨[], some .int⟩ := by decide +kernel
theorem pd_14 : parseMethodDescriptor "(Ljava/lang/Object;)Z" = some ⟨[(.object "java/lang/Object")], some .boolean⟩ := by decide +kernel
set_option maxRecDepth 65536 in
set_option maxHeartbeats 40000000 in
theorem rm0 (l : Launch) (Z : State) (a0 : Array Value) (hw : ∀ d ∈ tables_1, d.before a0 Z = true) (ws : List Jvm.Cond) (p1 p2 p3 p4 : Int32) (ca : Addr) (cc : Cell) (vf : Int32 → Value) (ed : Addr) (kd : ClassId) (cK : ClassId) (h0 : Heap) (n0 : Nat) (Z0 : n0 ≤ h0.size) (S_hi : Sta Z h0 "java/lang/Integer$IntegerCache" "high" "I" (.int (127 : Int32))) (S_ca : Sta Z h0 "java/lang/Integer$IntegerCache" "cache" "[Ljava/lang/Integer;" (.ref ca)) (Bx : Bxs Z ca cc "java/lang/Integer" "I" (256 : Int32) vf) (O0 : Old Z n0 h0) (HL : OLam Z cK) (HS : OSite Z cK) (S_DC : Sta Z h0 "java/util/ArrayList" "DEFAULTCAPACITY_EMPTY_ELEMENTDATA" "[Ljava/lang/Object;" (.ref ed)) (Vd : Arv Z h0 ed kd (.object "java/lang/Object") (0 : Int32) [] .null) :
    OMet l x code maxLocals ret ws room_1 Z #[(.int p1), (.int p2), (.int p3), (.int p4)] h0 (Q0 n0) := by
  refine own_body (plainFor_of_name pn_11) ?_
  intro p e s m below meth cdx T0 X0 hx hZ hby hml hown hnm hret hlk e0
  have N0 := Fr.nil n0
  refine own_entry (g' := (mkF m 0 #[.val (.int p1), .val (.int p2), .val (.int p3), .val (.int p4), .unset, .unset, .unset, .unset, .unset, .unset, .unset, .unset, .unset, .unset, .unset, .unset] [])) (by first | rfl | (simp [entryFrame, mkF, argsToLocals, Value.category, maxLocals]; done)) ?_
  rcases own_and3 p1 with hq | hq | hq | hq
  · refine own_step (g' := (mkF m 1 #[.val (.int p1), .val (.int p2), .val (.int p3), .val (.int p4), .unset, .unset, .unset, .unset, .unset, .unset, .unset, .unset, .unset, .unset, .unset, .unset] [(.int p1)])) (fun _ k => XS.iloadN X0.here hx rfl (hb hby at_0) rfl k) ?_
    refine own_step (g' := (mkF m 2 #[.val (.int p1), .val (.int p2), .val (.int p3), .val (.int p4), .unset, .unset, .unset, .unset, .unset, .unset, .unset, .unset, .unset, .unset, .unset, .unset] [(.int (3 : Int32)), (.int p1)])) (fun _ k => XS.iconst X0.here hx rfl (hb hby at_1) k) ?_
    refine own_step (g' := (mkF m 3 #[.val (.int p1), .val (.int p2), .val (.int p3), .val (.int p4), .unset, .unset, .unset, .unset, .unset, .unset, .unset, .unset, .unset, .unset, .unset, .unset] [(.int (p1 &&& (3 : Int32)))])) (fun _ k => XS.iand X0.here hx rfl (hb hby at_2) rfl k) ?_
    refine own_step (g' := (mkF m 5 #[.val (.int p1), .val (.int p2), .val (.int p3), .val (.int p4), .val (.int (p1 &&& (3 : Int32))), .unset, .unset, .unset, .unset, .unset, .unset, .unset, .unset, .unset, .unset, .unset] [])) (fun _ k => XS.istore X0.here hx rfl (hb hby at_3) rfl (l' := #[.val (.int p1), .val (.int p2), .val (.int p3), .val (.int p4), .val (.int (p1 &&& (3 : Int32))), .unset, .unset, .unset, .unset, .unset, .unset, .unset, .unset, .unset, .unset, .unset]) rfl k) ?_
    refine own_step (g' := (mkF m 6 #[.val (.int p1), .val (.int p2), .val (.int p3), .val (.int p4), .val (.int (p1 &&& (3 : Int32))), .unset, .unset, .unset, .unset, .unset, .unset, .unset, .unset, .unset, .unset, .unset] [(.int p2)])) (fun _ k => XS.iloadN X0.here hx rfl (hb hby at_5) rfl k) ?_
    refine own_callS X0 hx hZ (W := 0) hown e0 (rmVO l Z a0 hw [] p2 ca cc vf h0 n0 Z0 S_hi S_ca Bx O0) (hw _ (List.mem_of_getElem? (i := 0) rfl)) (hw _ (List.mem_of_getElem? (i := 1) rfl)) (hw _ (List.mem_of_getElem? (i := 2) rfl)) (hw _ (List.mem_of_getElem? (i := 3) rfl)) (by decide) (by decide) (by decide) (g := (mkF m 6 #[.val (.int p1), .val (.int p2), .val (.int p3), .val (.int p4), .val (.int (p1 &&& (3 : Int32))), .unset, .unset, .unset, .unset, .unset, .unset, .unset, .unset, .unset, .unset, .unset] [(.int p2)])) rfl (by rw [hml]; rfl) (argsL := [(.int p2)]) (rest := []) rfl (lenOf pd_10 rfl) rfl (by show 2 * 0 + _ ≤ _; exact Nat.le_of_eq rfl) (hb hby at_6) (by decide) (by decide) ?_
    intro v1 T1 L1 X1 hQ1
    obtain ⟨⟨r1, rfl, Cr1⟩, Nq1, Kq1⟩ := hQ1
    have N1 := Fr.app N0 Nq1
    show OGo p e below _ T1 (mkF m 9 #[.val (.int p1), .val (.int p2), .val (.int p3), .val (.int p4), .val (.int (p1 &&& (3 : Int32))), .unset, .unset, .unset, .unset, .unset, .unset, .unset, .unset, .unset, .unset, .unset] [(.ref r1)])
    refine own_step (g' := (mkF m 11 #[.val (.int p1), .val (.int p2), .val (.int p3), .val (.int p4), .val (.int (p1 &&& (3 : Int32))), .val (.ref r1), .unset, .unset, .unset, .unset, .unset, .unset, .unset, .unset, .unset, .unset] [])) (fun _ k => XS.astore X1.here hx rfl (hb hby at_9) rfl rfl (l' := #[.val (.int p1), .val (.int p2), .val (.int p3), .val (.int p4), .val (.int (p1 &&& (3 : Int32))), .val (.ref r1), .unset, .unset, .unset, .unset, .unset, .unset, .unset, .unset, .unset, .unset]) rfl k) ?_
    refine own_step (g' := (mkF m 12 #[.val (.int p1), .val (.int p2), .val (.int p3), .val (.int p4), .val (.int (p1 &&& (3 : Int32))), .val (.ref r1), .unset, .unset, .unset, .unset, .unset, .unset, .unset, .unset, .unset, .unset] [(.int p3)])) (fun _ k => XS.iloadN X1.here hx rfl (hb hby at_11) rfl k) ?_
    have S_2 : Sta Z T1.heap "java/lang/Integer$IntegerCache" "high" "I" (.int (127 : Int32)) := (own_sta_keep S_hi Kq1 all0)
    have S_3 : Sta Z T1.heap "java/lang/Integer$IntegerCache" "cache" "[Ljava/lang/Integer;" (.ref ca) := (own_sta_keep S_ca Kq1 all0)
    have O_4 : Old Z n0 T1.heap := (O0.keep Kq1 all0)
    refine own_callS X1 hx hZ (W := 0) hown rfl (rmVO l Z a0 hw [] p3 ca cc vf T1.heap n0 (Nat.le_trans Z0 Kq1.1) S_2 S_3 Bx O_4) (hw _ (List.mem_of_getElem? (i := 0) rfl)) (hw _ (List.mem_of_getElem? (i := 1) rfl)) (hw _ (List.mem_of_getElem? (i := 2) rfl)) (hw _ (List.mem_of_getElem? (i := 3) rfl)) (by decide) (by decide) (by decide) (g := (mkF m 12 #[.val (.int p1), .val (.int p2), .val (.int p3), .val (.int p4), .val (.int (p1 &&& (3 : Int32))), .val (.ref r1), .unset, .unset, .unset, .unset, .unset, .unset, .unset, .unset, .unset, .unset] [(.int p3)])) rfl (by rw [hml]; rfl) (argsL := [(.int p3)]) (rest := []) rfl (lenOf pd_10 rfl) rfl (by show 2 * 0 + _ ≤ _; exact Nat.le_of_eq rfl) (hb hby at_12) (by decide) (by decide) ?_
    intro v5 T5 L5 X5 hQ5
    obtain ⟨⟨r2, rfl, Cr2⟩, Nq5, Kq5⟩ := hQ5
    have N5 := Fr.app N1 Nq5
    show OGo p e below _ T5 (mkF m 15 #[.val (.int p1), .val (.int p2), .val (.int p3), .val (.int p4), .val (.int (p1 &&& (3 : Int32))), .val (.ref r1), .unset, .unset, .unset, .unset, .unset, .unset, .unset, .unset, .unset, .unset] [(.ref r2)])
    refine own_step (g' := (mkF m 17 #[.val (.int p1), .val (.int p2), .val (.int p3), .val (.int p4), .val (.int (p1 &&& (3 : Int32))), .val (.ref r1), .val (.ref r2), .unset, .unset, .unset, .unset, .unset, .unset, .unset, .unset, .unset] [])) (fun _ k => XS.astore X5.here hx rfl (hb hby at_15) rfl rfl (l' := #[.val (.int p1), .val (.int p2), .val (.int p3), .val (.int p4), .val (.int (p1 &&& (3 : Int32))), .val (.ref r1), .val (.ref r2), .unset, .unset, .unset, .unset, .unset, .unset, .unset, .unset, .unset]) rfl k) ?_
    refine own_step (g' := (mkF m 18 #[.val (.int p1), .val (.int p2), .val (.int p3), .val (.int p4), .val (.int (p1 &&& (3 : Int32))), .val (.ref r1), .val (.ref r2), .unset, .unset, .unset, .unset, .unset, .unset, .unset, .unset, .unset] [(.int p4)])) (fun _ k => XS.iloadN X5.here hx rfl (hb hby at_17) rfl k) ?_
    have S_6 : Sta Z T5.heap "java/lang/Integer$IntegerCache" "high" "I" (.int (127 : Int32)) := (own_sta_keep S_2 Kq5 all0)
    have S_7 : Sta Z T5.heap "java/lang/Integer$IntegerCache" "cache" "[Ljava/lang/Integer;" (.ref ca) := (own_sta_keep S_3 Kq5 all0)
    have O_8 : Old Z n0 T5.heap := (O_4.keep Kq5 all0)
    refine own_callS X5 hx hZ (W := 0) hown rfl (rmVO l Z a0 hw [] p4 ca cc vf T5.heap n0 (Nat.le_trans (Nat.le_trans Z0 Kq1.1) Kq5.1) S_6 S_7 Bx O_8) (hw _ (List.mem_of_getElem? (i := 0) rfl)) (hw _ (List.mem_of_getElem? (i := 1) rfl)) (hw _ (List.mem_of_getElem? (i := 2) rfl)) (hw _ (List.mem_of_getElem? (i := 3) rfl)) (by decide) (by decide) (by decide) (g := (mkF m 18 #[.val (.int p1), .val (.int p2), .val (.int p3), .val (.int p4), .val (.int (p1 &&& (3 : Int32))), .val (.ref r1), .val (.ref r2), .unset, .unset, .unset, .unset, .unset, .unset, .unset, .unset, .unset] [(.int p4)])) rfl (by rw [hml]; rfl) (argsL := [(.int p4)]) (rest := []) rfl (lenOf pd_10 rfl) rfl (by show 2 * 0 + _ ≤ _; exact Nat.le_of_eq rfl) (hb hby at_18) (by decide) (by decide) ?_
    intro v9 T9 L9 X9 hQ9
    obtain ⟨⟨r3, rfl, Cr3⟩, Nq9, Kq9⟩ := hQ9
    have N9 := Fr.app N5 Nq9
    show OGo p e below _ T9 (mkF m 21 #[.val (.int p1), .val (.int p2), .val (.int p3), .val (.int p4), .val (.int (p1 &&& (3 : Int32))), .val (.ref r1), .val (.ref r2), .unset, .unset, .unset, .unset, .unset, .unset, .unset, .unset, .unset] [(.ref r3)])
    refine own_step (g' := (mkF m 23 #[.val (.int p1), .val (.int p2), .val (.int p3), .val (.int p4), .val (.int (p1 &&& (3 : Int32))), .val (.ref r1), .val (.ref r2), .val (.ref r3), .unset, .unset, .unset, .unset, .unset, .unset, .unset, .unset] [])) (fun _ k => XS.astore X9.here hx rfl (hb hby at_21) rfl rfl (l' := #[.val (.int p1), .val (.int p2), .val (.int p3), .val (.int p4), .val (.int (p1 &&& (3 : Int32))), .val (.ref r1), .val (.ref r2), .val (.ref r3), .unset, .unset, .unset, .unset, .unset, .unset, .unset, .unset]) rfl k) ?_
    have V_11 : Arv Z T9.heap ed kd (.object "java/lang/Object") (0 : Int32) [] .null := (((Vd.keep Kq1 nin0).keep Kq5 nin0).keep Kq9 nin0)
    have C_12 : Exa Z T9.heap r1 "java/lang/Integer" := ((Cr1.keep Kq5).keep Kq9)
    have C_13 : Exa Z T9.heap r2 "java/lang/Integer" := (Cr2.keep Kq9)
    obtain ⟨T10, h10, X10, e10, Ex10, A10, D10, -, st10⟩ := newO X9 hx hZ hown (hw _ (List.mem_of_getElem? (i := 7) rfl)) (hw _ (List.mem_of_getElem? (i := 8) rfl)) (hw _ (List.mem_of_getElem? (i := 9) rfl)) rfl (g := (mkF m 23 #[.val (.int p1), .val (.int p2), .val (.int p3), .val (.int p4), .val (.int (p1 &&& (3 : Int32))), .val (.ref r1), .val (.ref r2), .val (.ref r3), .unset, .unset, .unset, .unset, .unset, .unset, .unset, .unset] [])) rfl (hb hby at_23) (by decide) (by decide)
    obtain ⟨nb10, g10⟩ : ∃ z, z = T9.heap.size := ⟨_, rfl⟩
    rw [← g10] at A10 D10 st10
    have g_nb10 : n0 ≤ nb10 := Nat.le_trans (Nat.le_trans (Nat.le_trans (Nat.le_trans Z0 Kq1.1) Kq5.1) Kq9.1) (Nat.le_of_eq g10.symm)
    have ne_ed_nb10 : ed ≠ nb10 := Nat.ne_of_lt (Nat.lt_of_lt_of_le V_11.lt (Nat.le_of_eq g10.symm))
    have ne_r1_nb10 : r1 ≠ nb10 := Nat.ne_of_lt (Nat.lt_of_lt_of_le C_12.lt (Nat.le_of_eq g10.symm))
    have ne_r2_nb10 : r2 ≠ nb10 := Nat.ne_of_lt (Nat.lt_of_lt_of_le C_13.lt (Nat.le_of_eq g10.symm))
    have ne_r3_nb10 : r3 ≠ nb10 := Nat.ne_of_lt (Nat.lt_of_lt_of_le Cr3.lt (Nat.le_of_eq g10.symm))
    have F10_modCount : Fld Z h10 nb10 "java/util/AbstractList" "modCount" "I" (.int (0 : Int32)) := D10 (Or.inl (hw _ (List.mem_of_getElem? (i := 29) rfl))) (ty := .int) (by decide)
    have F10_elementData : Fld Z h10 nb10 "java/util/ArrayList" "elementData" "[Ljava/lang/Object;" .null := D10 (Or.inl (hw _ (List.mem_of_getElem? (i := 32) rfl))) (ty := (.array (.object "java/lang/Object"))) (by decide)
    have F10_size : Fld Z h10 nb10 "java/util/ArrayList" "size" "I" (.int (0 : Int32)) := D10 (Or.inl (hw _ (List.mem_of_getElem? (i := 82) rfl))) (ty := .int) (by decide)
    refine own_via (g' := (mkF m 26 #[.val (.int p1), .val (.int p2), .val (.int p3), .val (.int p4), .val (.int (p1 &&& (3 : Int32))), .val (.ref r1), .val (.ref r2), .val (.ref r3), .unset, .unset, .unset, .unset, .unset, .unset, .unset, .unset] [(.ref nb10)])) st10 ?_
    refine own_step (g' := (mkF m 27 #[.val (.int p1), .val (.int p2), .val (.int p3), .val (.int p4), .val (.int (p1 &&& (3 : Int32))), .val (.ref r1), .val (.ref r2), .val (.ref r3), .unset, .unset, .unset, .unset, .unset, .unset, .unset, .unset] [(.ref nb10), (.ref nb10)])) (fun _ k => XS.dup X10.here hx rfl (hb hby at_26) rfl rfl k) ?_
    have S_15 : Sta Z h10 "java/util/ArrayList" "DEFAULTCAPACITY_EMPTY_ELEMENTDATA" "[Ljava/lang/Object;" (.ref ed) := (Sta.ext Ex10 (own_sta_keep (own_sta_keep (own_sta_keep S_DC Kq1 all0) Kq5 all0) Kq9 all0))
    refine own_init X10 hx hZ (W := 1) hown e10 (rmAL l Z a0 hw [] nb10 ed h10 n0 (Nat.le_trans (Nat.le_trans (Nat.le_trans (Nat.le_trans Z0 Kq1.1) Kq5.1) Kq9.1) Ex10.1) S_15 g_nb10 A10 F10_modCount F10_elementData F10_size) rfl (hw _ (List.mem_of_getElem? (i := 10) rfl)) (hw _ (List.mem_of_getElem? (i := 11) rfl)) (hw _ (List.mem_of_getElem? (i := 12) rfl)) (hw _ (List.mem_of_getElem? (i := 9) rfl)) (by decide) (by decide) (by decide) (g := (mkF m 27 #[.val (.int p1), .val (.int p2), .val (.int p3), .val (.int p4), .val (.int (p1 &&& (3 : Int32))), .val (.ref r1), .val (.ref r2), .val (.ref r3), .unset, .unset, .unset, .unset, .unset, .unset, .unset, .unset] [(.ref nb10), (.ref nb10)])) rfl (by rw [hml]; rfl) (argsL := []) (rest := [(.ref nb10)]) rfl (lenOf pd_0 rfl) rfl (by show 2 * 0 + _ ≤ _; exact Nat.le_of_eq rfl) (hb hby at_27) (by decide) (by decide) ?_
    intro v16 T16 L16 X16 hQ16
    obtain ⟨rfl, Nq16, Kq16, Cl14, F1l14, F2l14, F3l14⟩ := hQ16
    have N16 := Fr.app N9 Nq16
    show OGo p e below _ T16 (mkF m 30 #[.val (.int p1), .val (.int p2), .val (.int p3), .val (.int p4), .val (.int (p1 &&& (3 : Int32))), .val (.ref r1), .val (.ref r2), .val (.ref r3), .unset, .unset, .unset, .unset, .unset, .unset, .unset, .unset] [(.ref nb10)])
    refine own_step (g' := (mkF m 32 #[.val (.int p1), .val (.int p2), .val (.int p3), .val (.int p4), .val (.int (p1 &&& (3 : Int32))), .val (.ref r1), .val (.ref r2), .val (.ref r3), .val (.ref nb10), .unset, .unset, .unset, .unset, .unset, .unset, .unset] [])) (fun _ k => XS.astore X16.here hx rfl (hb hby at_30) rfl rfl (l' := #[.val (.int p1), .val (.int p2), .val (.int p3), .val (.int p4), .val (.int (p1 &&& (3 : Int32))), .val (.ref r1), .val (.ref r2), .val (.ref r3), .val (.ref nb10), .unset, .unset, .unset, .unset, .unset, .unset, .unset]) rfl k) ?_
    refine own_step (g' := (mkF m 34 #[.val (.int p1), .val (.int p2), .val (.int p3), .val (.int p4), .val (.int (p1 &&& (3 : Int32))), .val (.ref r1), .val (.ref r2), .val (.ref r3), .val (.ref nb10), .unset, .unset, .unset, .unset, .unset, .unset, .unset] [(.int (p1 &&& (3 : Int32)))])) (fun _ k => XS.iload X16.here hx rfl (hb hby at_32) rfl k) ?_
    refine own_step (g' := (mkF m 35 #[.val (.int p1), .val (.int p2), .val (.int p3), .val (.int p4), .val (.int (p1 &&& (3 : Int32))), .val (.ref r1), .val (.ref r2), .val (.ref r3), .val (.ref nb10), .unset, .unset, .unset, .unset, .unset, .unset, .unset] [(.int (1 : Int32)), (.int (p1 &&& (3 : Int32)))])) (fun _ k => XS.iconst X16.here hx rfl (hb hby at_34) k) ?_
    refine own_step (g' := (mkF m 46 #[.val (.int p1), .val (.int p2), .val (.int p3), .val (.int p4), .val (.int (p1 &&& (3 : Int32))), .val (.ref r1), .val (.ref r2), .val (.ref r3), .val (.ref nb10), .unset, .unset, .unset, .unset, .unset, .unset, .unset] [])) (fun _ k => XS.icmpYes X16.here hx rfl (pc0 := 35) (pc' := 46) rfl (hb hby at_35) rfl (tlt (by rw [hq] <;> decide : (p1 &&& (3 : Int32)) < (1 : Int32))).1 (by decide) (by decide) k) ?_
    refine own_step (g' := (mkF m 48 #[.val (.int p1), .val (.int p2), .val (.int p3), .val (.int p4), .val (.int (p1 &&& (3 : Int32))), .val (.ref r1), .val (.ref r2), .val (.ref r3), .val (.ref nb10), .unset, .unset, .unset, .unset, .unset, .unset, .unset] [(.int (p1 &&& (3 : Int32)))])) (fun _ k => XS.iload X16.here hx rfl (hb hby at_46) rfl k) ?_
    refine own_step (g' := (mkF m 49 #[.val (.int p1), .val (.int p2), .val (.int p3), .val (.int p4), .val (.int (p1 &&& (3 : Int32))), .val (.ref r1), .val (.ref r2), .val (.ref r3), .val (.ref nb10), .unset, .unset, .unset, .unset, .unset, .unset, .unset] [(.int (2 : Int32)), (.int (p1 &&& (3 : Int32)))])) (fun _ k => XS.iconst X16.here hx rfl (hb hby at_48) k) ?_
    refine own_step (g' := (mkF m 60 #[.val (.int p1), .val (.int p2), .val (.int p3), .val (.int p4), .val (.int (p1 &&& (3 : Int32))), .val (.ref r1), .val (.ref r2), .val (.ref r3), .val (.ref nb10), .unset, .unset, .unset, .unset, .unset, .unset, .unset] [])) (fun _ k => XS.icmpYes X16.here hx rfl (pc0 := 49) (pc' := 60) rfl (hb hby at_49) rfl (tlt (by rw [hq] <;> decide : (p1 &&& (3 : Int32)) < (2 : Int32))).1 (by decide) (by decide) k) ?_
    refine own_step (g' := (mkF m 62 #[.val (.int p1), .val (.int p2), .val (.int p3), .val (.int p4), .val (.int (p1 &&& (3 : Int32))), .val (.ref r1), .val (.ref r2), .val (.ref r3), .val (.ref nb10), .unset, .unset, .unset, .unset, .unset, .unset, .unset] [(.int (p1 &&& (3 : Int32)))])) (fun _ k => XS.iload X16.here hx rfl (hb hby at_60) rfl k) ?_
    refine own_step (g' := (mkF m 63 #[.val (.int p1), .val (.int p2), .val (.int p3), .val (.int p4), .val (.int (p1 &&& (3 : Int32))), .val (.ref r1), .val (.ref r2), .val (.ref r3), .val (.ref nb10), .unset, .unset, .unset, .unset, .unset, .unset, .unset] [(.int (3 : Int32)), (.int (p1 &&& (3 : Int32)))])) (fun _ k => XS.iconst X16.here hx rfl (hb hby at_62) k) ?_
    refine own_step (g' := (mkF m 74 #[.val (.int p1), .val (.int p2), .val (.int p3), .val (.int p4), .val (.int (p1 &&& (3 : Int32))), .val (.ref r1), .val (.ref r2), .val (.ref r3), .val (.ref nb10), .unset, .unset, .unset, .unset, .unset, .unset, .unset] [])) (fun _ k => XS.icmpYes X16.here hx rfl (pc0 := 63) (pc' := 74) rfl (hb hby at_63) rfl (tlt (by rw [hq] <;> decide : (p1 &&& (3 : Int32)) < (3 : Int32))).1 (by decide) (by decide) k) ?_
    refine own_step (g' := (mkF m 76 #[.val (.int p1), .val (.int p2), .val (.int p3), .val (.int p4), .val (.int (p1 &&& (3 : Int32))), .val (.ref r1), .val (.ref r2), .val (.ref r3), .val (.ref nb10), .unset, .unset, .unset, .unset, .unset, .unset, .unset] [(.ref nb10)])) (fun _ k => XS.aload X16.here hx rfl (hb hby at_74) rfl rfl k) ?_
    have V_17 : Arv Z T16.heap ed kd (.object "java/lang/Object") (0 : Int32) [] .null := ((V_11.ext Ex10).keep Kq16 (ninS ne_ed_nb10 nin0))
    have C_18 : Exa Z T16.heap r1 "java/lang/Integer" := ((Exa.ext Ex10 C_12).keep Kq16)
    have C_19 : Exa Z T16.heap r2 "java/lang/Integer" := ((Exa.ext Ex10 C_13).keep Kq16)
    have C_20 : Exa Z T16.heap r3 "java/lang/Integer" := ((Exa.ext Ex10 Cr3).keep Kq16)
    refine own_callS X16 hx hZ (W := 0) hown rfl (rmOver l Z a0 hw [] nb10 (0 : Int32) cK T16.heap n0 (Nat.le_trans (Nat.le_trans (Nat.le_trans (Nat.le_trans (Nat.le_trans Z0 Kq1.1) Kq5.1) Kq9.1) Ex10.1) Kq16.1) HL HS Cl14 F1l14) (hw _ (List.mem_of_getElem? (i := 33) rfl)) (hw _ (List.mem_of_getElem? (i := 34) rfl)) (hw _ (List.mem_of_getElem? (i := 35) rfl)) (hw _ (List.mem_of_getElem? (i := 36) rfl)) (by decide) (by decide) (by decide) (g := (mkF m 76 #[.val (.int p1), .val (.int p2), .val (.int p3), .val (.int p4), .val (.int (p1 &&& (3 : Int32))), .val (.ref r1), .val (.ref r2), .val (.ref r3), .val (.ref nb10), .unset, .unset, .unset, .unset, .unset, .unset, .unset] [(.ref nb10)])) rfl (by rw [hml]; rfl) (argsL := [(.ref nb10)]) (rest := []) rfl (lenOf pd_11 rfl) rfl (by show 2 * 0 + _ ≤ _; exact Nat.le_of_eq rfl) (hb hby at_76) (by decide) (by decide) ?_
    intro v22 T22 L22 X22 hQ22
    obtain ⟨⟨lf, it, rfl, szl, szi, g_it, ne_it_lf, Llf, Ci, I1, I2, I3, I4⟩, Nq22, Kq22⟩ := hQ22
    have N22 := Fr.app N16 Nq22
    show OGo p e below _ T22 (mkF m 79 #[.val (.int p1), .val (.int p2), .val (.int p3), .val (.int p4), .val (.int (p1 &&& (3 : Int32))), .val (.ref r1), .val (.ref r2), .val (.ref r3), .val (.ref nb10), .unset, .unset, .unset, .unset, .unset, .unset, .unset] [(.ref lf)])
    have ne_ed_it : ed ≠ it := Nat.ne_of_lt (Nat.lt_of_lt_of_le V_17.lt szi)
    have ne_r1_it : r1 ≠ it := Nat.ne_of_lt (Nat.lt_of_lt_of_le C_18.lt szi)
    have ne_r2_it : r2 ≠ it := Nat.ne_of_lt (Nat.lt_of_lt_of_le C_19.lt szi)
    have ne_r3_it : r3 ≠ it := Nat.ne_of_lt (Nat.lt_of_lt_of_le C_20.lt szi)
    have ne_nb10_it : nb10 ≠ it := Nat.ne_of_lt (Nat.lt_of_lt_of_le Cl14.lt szi)
    refine own_step (g' := (mkF m 81 #[.val (.int p1), .val (.int p2), .val (.int p3), .val (.int p4), .val (.int (p1 &&& (3 : Int32))), .val (.ref r1), .val (.ref r2), .val (.ref r3), .val (.ref nb10), .val (.ref lf), .unset, .unset, .unset, .unset, .unset, .unset] [])) (fun _ k => XS.astore X22.here hx rfl (hb hby at_79) rfl rfl (l' := #[.val (.int p1), .val (.int p2), .val (.int p3), .val (.int p4), .val (.int (p1 &&& (3 : Int32))), .val (.ref r1), .val (.ref r2), .val (.ref r3), .val (.ref nb10), .val (.ref lf), .unset, .unset, .unset, .unset, .unset, .unset]) rfl k) ?_
    refine own_step (g' := (mkF m 83 #[.val (.int p1), .val (.int p2), .val (.int p3), .val (.int p4), .val (.int (p1 &&& (3 : Int32))), .val (.ref r1), .val (.ref r2), .val (.ref r3), .val (.ref nb10), .val (.ref lf), .unset, .unset, .unset, .unset, .unset, .unset] [(.ref lf)])) (fun _ k => XS.aload X22.here hx rfl (hb hby at_81) rfl rfl k) ?_
    have C_24 : Exa Z T22.heap nb10 "java/util/ArrayList" := (Cl14.keep Kq22)
    have F_25 : Fld Z T22.heap nb10 "java/util/AbstractList" "modCount" "I" (.int (0 : Int32)) := (F1l14.keep Kq22 nin0)
    have F_26 : Fld Z T22.heap nb10 "java/util/ArrayList" "size" "I" (.int (0 : Int32)) := (F3l14.keep Kq22 nin0)
    refine own_fwd X22 hx hZ (W := 0) hown rfl HL Llf (rmLam0_0 l Z a0 hw [] it nb10 T22.heap n0 (Nat.le_trans (Nat.le_trans (Nat.le_trans (Nat.le_trans (Nat.le_trans (Nat.le_trans Z0 Kq1.1) Kq5.1) Kq9.1) Ex10.1) Kq16.1) Kq22.1) Ci I1 I2 I3 I4 C_24 F_25 F_26) (fun v h L q => ⟨_, q.1, rfl⟩) (hw _ (List.mem_of_getElem? (i := 65) rfl)) (hw _ (List.mem_of_getElem? (i := 66) rfl)) (hw _ (List.mem_of_getElem? (i := 67) rfl)) (hw _ (List.mem_of_getElem? (i := 69) rfl)) (hw _ (List.mem_of_getElem? (i := 35) rfl)) (hw _ (List.mem_of_getElem? (i := 68) rfl)) (by decide) (by decide) (g := (mkF m 83 #[.val (.int p1), .val (.int p2), .val (.int p3), .val (.int p4), .val (.int (p1 &&& (3 : Int32))), .val (.ref r1), .val (.ref r2), .val (.ref r3), .val (.ref nb10), .val (.ref lf), .unset, .unset, .unset, .unset, .unset, .unset] [(.ref lf)])) rfl (by rw [hml]; rfl) (rest := []) rfl (by show 2 * 0 + _ ≤ _; exact Nat.le_of_eq rfl) (hb hby at_83) (by decide) (by decide) ?_
    intro v23 T23 L23 X23 hQ23
    obtain ⟨rfl, Nq23, Kq23, Ci23, Fi23_0, Fi23_1, Fi23_2, Fi23_3⟩ := hQ23
    have N23 := Fr.app N22 Nq23
    show OGo p e below _ T23 (mkF m 88 #[.val (.int p1), .val (.int p2), .val (.int p3), .val (.int p4), .val (.int (p1 &&& (3 : Int32))), .val (.ref r1), .val (.ref r2), .val (.ref r3), .val (.ref nb10), .val (.ref lf), .unset, .unset, .unset, .unset, .unset, .unset] [.null])
    refine own_step (g' := (mkF m 91 #[.val (.int p1), .val (.int p2), .val (.int p3), .val (.int p4), .val (.int (p1 &&& (3 : Int32))), .val (.ref r1), .val (.ref r2), .val (.ref r3), .val (.ref nb10), .val (.ref lf), .unset, .unset, .unset, .unset, .unset, .unset] [.null])) (X23.checkcastNull hx (g := (mkF m 88 #[.val (.int p1), .val (.int p2), .val (.int p3), .val (.int p4), .val (.int (p1 &&& (3 : Int32))), .val (.ref r1), .val (.ref r2), .val (.ref r3), .val (.ref nb10), .val (.ref lf), .unset, .unset, .unset, .unset, .unset, .unset] [.null])) rfl rfl (hb hby at_88)) ?_
    refine own_step (g' := (mkF m 93 #[.val (.int p1), .val (.int p2), .val (.int p3), .val (.int p4), .val (.int (p1 &&& (3 : Int32))), .val (.ref r1), .val (.ref r2), .val (.ref r3), .val (.ref nb10), .val (.ref lf), .val .null, .unset, .unset, .unset, .unset, .unset] [])) (fun _ k => XS.astore X23.here hx rfl (hb hby at_91) rfl rfl (l' := #[.val (.int p1), .val (.int p2), .val (.int p3), .val (.int p4), .val (.int (p1 &&& (3 : Int32))), .val (.ref r1), .val (.ref r2), .val (.ref r3), .val (.ref nb10), .val (.ref lf), .val .null, .unset, .unset, .unset, .unset, .unset]) rfl k) ?_
    refine own_step (g' := (mkF m 95 #[.val (.int p1), .val (.int p2), .val (.int p3), .val (.int p4), .val (.int (p1 &&& (3 : Int32))), .val (.ref r1), .val (.ref r2), .val (.ref r3), .val (.ref nb10), .val (.ref lf), .val .null, .unset, .unset, .unset, .unset, .unset] [(.ref lf)])) (fun _ k => XS.aload X23.here hx rfl (hb hby at_93) rfl rfl k) ?_
    have C_28 : Exa Z T23.heap nb10 "java/util/ArrayList" := (C_24.keep Kq23)
    have F_29 : Fld Z T23.heap nb10 "java/util/AbstractList" "modCount" "I" (.int (0 : Int32)) := (F_25.keep Kq23 (ninS ne_nb10_it nin0))
    have F_30 : Fld Z T23.heap nb10 "java/util/ArrayList" "size" "I" (.int (0 : Int32)) := (F_26.keep Kq23 (ninS ne_nb10_it nin0))
    have L_31 : T23.heap[lf]? = some (own_lam cK it) := (Kq23.2.1 _ _ Llf (ninS (Ne.symm ne_it_lf) nin0))
    refine own_fwd X23 hx hZ (W := 0) hown rfl HL L_31 (rmLam0_0 l Z a0 hw [] it nb10 T23.heap n0 (Nat.le_trans (Nat.le_trans (Nat.le_trans (Nat.le_trans (Nat.le_trans (Nat.le_trans (Nat.le_trans Z0 Kq1.1) Kq5.1) Kq9.1) Ex10.1) Kq16.1) Kq22.1) Kq23.1) Ci23 Fi23_0 Fi23_1 Fi23_2 Fi23_3 C_28 F_29 F_30) (fun v h L q => ⟨_, q.1, rfl⟩) (hw _ (List.mem_of_getElem? (i := 65) rfl)) (hw _ (List.mem_of_getElem? (i := 66) rfl)) (hw _ (List.mem_of_getElem? (i := 67) rfl)) (hw _ (List.mem_of_getElem? (i := 69) rfl)) (hw _ (List.mem_of_getElem? (i := 35) rfl)) (hw _ (List.mem_of_getElem? (i := 68) rfl)) (by decide) (by decide) (g := (mkF m 95 #[.val (.int p1), .val (.int p2), .val (.int p3), .val (.int p4), .val (.int (p1 &&& (3 : Int32))), .val (.ref r1), .val (.ref r2), .val (.ref r3), .val (.ref nb10), .val (.ref lf), .val .null, .unset, .unset, .unset, .unset, .unset] [(.ref lf)])) rfl (by rw [hml]; rfl) (rest := []) rfl (by show 2 * 0 + _ ≤ _; exact Nat.le_of_eq rfl) (hb hby at_95) (by decide) (by decide) ?_
    intro v27 T27 L27 X27 hQ27
    obtain ⟨rfl, Nq27, Kq27, Ci27, Fi27_0, Fi27_1, Fi27_2, Fi27_3⟩ := hQ27
    have N27 := Fr.app N23 Nq27
    show OGo p e below _ T27 (mkF m 100 #[.val (.int p1), .val (.int p2), .val (.int p3), .val (.int p4), .val (.int (p1 &&& (3 : Int32))), .val (.ref r1), .val (.ref r2), .val (.ref r3), .val (.ref nb10), .val (.ref lf), .val .null, .unset, .unset, .unset, .unset, .unset] [.null])
    refine own_step (g' := (mkF m 103 #[.val (.int p1), .val (.int p2), .val (.int p3), .val (.int p4), .val (.int (p1 &&& (3 : Int32))), .val (.ref r1), .val (.ref r2), .val (.ref r3), .val (.ref nb10), .val (.ref lf), .val .null, .unset, .unset, .unset, .unset, .unset] [.null])) (X27.checkcastNull hx (g := (mkF m 100 #[.val (.int p1), .val (.int p2), .val (.int p3), .val (.int p4), .val (.int (p1 &&& (3 : Int32))), .val (.ref r1), .val (.ref r2), .val (.ref r3), .val (.ref nb10), .val (.ref lf), .val .null, .unset, .unset, .unset, .unset, .unset] [.null])) rfl rfl (hb hby at_100)) ?_
    refine own_step (g' := (mkF m 105 #[.val (.int p1), .val (.int p2), .val (.int p3), .val (.int p4), .val (.int (p1 &&& (3 : Int32))), .val (.ref r1), .val (.ref r2), .val (.ref r3), .val (.ref nb10), .val (.ref lf), .val .null, .val .null, .unset, .unset, .unset, .unset] [])) (fun _ k => XS.astore X27.here hx rfl (hb hby at_103) rfl rfl (l' := #[.val (.int p1), .val (.int p2), .val (.int p3), .val (.int p4), .val (.int (p1 &&& (3 : Int32))), .val (.ref r1), .val (.ref r2), .val (.ref r3), .val (.ref nb10), .val (.ref lf), .val .null, .val .null, .unset, .unset, .unset, .unset]) rfl k) ?_
    refine own_step (g' := (mkF m 107 #[.val (.int p1), .val (.int p2), .val (.int p3), .val (.int p4), .val (.int (p1 &&& (3 : Int32))), .val (.ref r1), .val (.ref r2), .val (.ref r3), .val (.ref nb10), .val (.ref lf), .val .null, .val .null, .unset, .unset, .unset, .unset] [(.ref lf)])) (fun _ k => XS.aload X27.here hx rfl (hb hby at_105) rfl rfl k) ?_
    have C_33 : Exa Z T27.heap nb10 "java/util/ArrayList" := (C_28.keep Kq27)
    have F_34 : Fld Z T27.heap nb10 "java/util/AbstractList" "modCount" "I" (.int (0 : Int32)) := (F_29.keep Kq27 (ninS ne_nb10_it nin0))
    have F_35 : Fld Z T27.heap nb10 "java/util/ArrayList" "size" "I" (.int (0 : Int32)) := (F_30.keep Kq27 (ninS ne_nb10_it nin0))
    have L_36 : T27.heap[lf]? = some (own_lam cK it) := (Kq27.2.1 _ _ L_31 (ninS (Ne.symm ne_it_lf) nin0))
    refine own_fwd X27 hx hZ (W := 0) hown rfl HL L_36 (rmLam0_0 l Z a0 hw [] it nb10 T27.heap n0 (Nat.le_trans (Nat.le_trans (Nat.le_trans (Nat.le_trans (Nat.le_trans (Nat.le_trans (Nat.le_trans (Nat.le_trans Z0 Kq1.1) Kq5.1) Kq9.1) Ex10.1) Kq16.1) Kq22.1) Kq23.1) Kq27.1) Ci27 Fi27_0 Fi27_1 Fi27_2 Fi27_3 C_33 F_34 F_35) (fun v h L q => ⟨_, q.1, rfl⟩) (hw _ (List.mem_of_getElem? (i := 65) rfl)) (hw _ (List.mem_of_getElem? (i := 66) rfl)) (hw _ (List.mem_of_getElem? (i := 67) rfl)) (hw _ (List.mem_of_getElem? (i := 69) rfl)) (hw _ (List.mem_of_getElem? (i := 35) rfl)) (hw _ (List.mem_of_getElem? (i := 68) rfl)) (by decide) (by decide) (g := (mkF m 107 #[.val (.int p1), .val (.int p2), .val (.int p3), .val (.int p4), .val (.int (p1 &&& (3 : Int32))), .val (.ref r1), .val (.ref r2), .val (.ref r3), .val (.ref nb10), .val (.ref lf), .val .null, .val .null, .unset, .unset, .unset, .unset] [(.ref lf)])) rfl (by rw [hml]; rfl) (rest := []) rfl (by show 2 * 0 + _ ≤ _; exact Nat.le_of_eq rfl) (hb hby at_107) (by decide) (by decide) ?_
    intro v32 T32 L32 X32 hQ32
    obtain ⟨rfl, Nq32, Kq32, Ci32, Fi32_0, Fi32_1, Fi32_2, Fi32_3⟩ := hQ32
    have N32 := Fr.app N27 Nq32
    show OGo p e below _ T32 (mkF m 112 #[.val (.int p1), .val (.int p2), .val (.int p3), .val (.int p4), .val (.int (p1 &&& (3 : Int32))), .val (.ref r1), .val (.ref r2), .val (.ref r3), .val (.ref nb10), .val (.ref lf), .val .null, .val .null, .unset, .unset, .unset, .unset] [.null])
    refine own_step (g' := (mkF m 115 #[.val (.int p1), .val (.int p2), .val (.int p3), .val (.int p4), .val (.int (p1 &&& (3 : Int32))), .val (.ref r1), .val (.ref r2), .val (.ref r3), .val (.ref nb10), .val (.ref lf), .val .null, .val .null, .unset, .unset, .unset, .unset] [.null])) (X32.checkcastNull hx (g := (mkF m 112 #[.val (.int p1), .val (.int p2), .val (.int p3), .val (.int p4), .val (.int (p1 &&& (3 : Int32))), .val (.ref r1), .val (.ref r2), .val (.ref r3), .val (.ref nb10), .val (.ref lf), .val .null, .val .null, .unset, .unset, .unset, .unset] [.null])) rfl rfl (hb hby at_112)) ?_
    refine own_step (g' := (mkF m 117 #[.val (.int p1), .val (.int p2), .val (.int p3), .val (.int p4), .val (.int (p1 &&& (3 : Int32))), .val (.ref r1), .val (.ref r2), .val (.ref r3), .val (.ref nb10), .val (.ref lf), .val .null, .val .null, .val .null, .unset, .unset, .unset] [])) (fun _ k => XS.astore X32.here hx rfl (hb hby at_115) rfl rfl (l' := #[.val (.int p1), .val (.int p2), .val (.int p3), .val (.int p4), .val (.int (p1 &&& (3 : Int32))), .val (.ref r1), .val (.ref r2), .val (.ref r3), .val (.ref nb10), .val (.ref lf), .val .null, .val .null, .val .null, .unset, .unset, .unset]) rfl k) ?_
    refine own_step (g' := (mkF m 119 #[.val (.int p1), .val (.int p2), .val (.int p3), .val (.int p4), .val (.int (p1 &&& (3 : Int32))), .val (.ref r1), .val (.ref r2), .val (.ref r3), .val (.ref nb10), .val (.ref lf), .val .null, .val .null, .val .null, .unset, .unset, .unset] [(.ref lf)])) (fun _ k => XS.aload X32.here hx rfl (hb hby at_117) rfl rfl k) ?_
    have C_38 : Exa Z T32.heap nb10 "java/util/ArrayList" := (C_33.keep Kq32)
    have F_39 : Fld Z T32.heap nb10 "java/util/AbstractList" "modCount" "I" (.int (0 : Int32)) := (F_34.keep Kq32 (ninS ne_nb10_it nin0))
    have F_40 : Fld Z T32.heap nb10 "java/util/ArrayList" "size" "I" (.int (0 : Int32)) := (F_35.keep Kq32 (ninS ne_nb10_it nin0))
    have L_41 : T32.heap[lf]? = some (own_lam cK it) := (Kq32.2.1 _ _ L_36 (ninS (Ne.symm ne_it_lf) nin0))
    refine own_fwd X32 hx hZ (W := 0) hown rfl HL L_41 (rmLam0_0 l Z a0 hw [] it nb10 T32.heap n0 (Nat.le_trans (Nat.le_trans (Nat.le_trans (Nat.le_trans (Nat.le_trans (Nat.le_trans (Nat.le_trans (Nat.le_trans (Nat.le_trans Z0 Kq1.1) Kq5.1) Kq9.1) Ex10.1) Kq16.1) Kq22.1) Kq23.1) Kq27.1) Kq32.1) Ci32 Fi32_0 Fi32_1 Fi32_2 Fi32_3 C_38 F_39 F_40) (fun v h L q => ⟨_, q.1, rfl⟩) (hw _ (List.mem_of_getElem? (i := 65) rfl)) (hw _ (List.mem_of_getElem? (i := 66) rfl)) (hw _ (List.mem_of_getElem? (i := 67) rfl)) (hw _ (List.mem_of_getElem? (i := 69) rfl)) (hw _ (List.mem_of_getElem? (i := 35) rfl)) (hw _ (List.mem_of_getElem? (i := 68) rfl)) (by decide) (by decide) (g := (mkF m 119 #[.val (.int p1), .val (.int p2), .val (.int p3), .val (.int p4), .val (.int (p1 &&& (3 : Int32))), .val (.ref r1), .val (.ref r2), .val (.ref r3), .val (.ref nb10), .val (.ref lf), .val .null, .val .null, .val .null, .unset, .unset, .unset] [(.ref lf)])) rfl (by rw [hml]; rfl) (rest := []) rfl (by show 2 * 0 + _ ≤ _; exact Nat.le_of_eq rfl) (hb hby at_119) (by decide) (by decide) ?_
    intro v37 T37 L37 X37 hQ37
    obtain ⟨rfl, Nq37, Kq37, Ci37, Fi37_0, Fi37_1, Fi37_2, Fi37_3⟩ := hQ37
    have N37 := Fr.app N32 Nq37
    show OGo p e below _ T37 (mkF m 124 #[.val (.int p1), .val (.int p2), .val (.int p3), .val (.int p4), .val (.int (p1 &&& (3 : Int32))), .val (.ref r1), .val (.ref r2), .val (.ref r3), .val (.ref nb10), .val (.ref lf), .val .null, .val .null, .val .null, .unset, .unset, .unset] [.null])
    refine own_step (g' := (mkF m 127 #[.val (.int p1), .val (.int p2), .val (.int p3), .val (.int p4), .val (.int (p1 &&& (3 : Int32))), .val (.ref r1), .val (.ref r2), .val (.ref r3), .val (.ref nb10), .val (.ref lf), .val .null, .val .null, .val .null, .unset, .unset, .unset] [.null])) (X37.checkcastNull hx (g := (mkF m 124 #[.val (.int p1), .val (.int p2), .val (.int p3), .val (.int p4), .val (.int (p1 &&& (3 : Int32))), .val (.ref r1), .val (.ref r2), .val (.ref r3), .val (.ref nb10), .val (.ref lf), .val .null, .val .null, .val .null, .unset, .unset, .unset] [.null])) rfl rfl (hb hby at_124)) ?_
    refine own_step (g' := (mkF m 129 #[.val (.int p1), .val (.int p2), .val (.int p3), .val (.int p4), .val (.int (p1 &&& (3 : Int32))), .val (.ref r1), .val (.ref r2), .val (.ref r3), .val (.ref nb10), .val (.ref lf), .val .null, .val .null, .val .null, .val .null, .unset, .unset] [])) (fun _ k => XS.astore X37.here hx rfl (hb hby at_127) rfl rfl (l' := #[.val (.int p1), .val (.int p2), .val (.int p3), .val (.int p4), .val (.int (p1 &&& (3 : Int32))), .val (.ref r1), .val (.ref r2), .val (.ref r3), .val (.ref nb10), .val (.ref lf), .val .null, .val .null, .val .null, .val .null, .unset, .unset]) rfl k) ?_
    refine own_step (g' := (mkF m 131 #[.val (.int p1), .val (.int p2), .val (.int p3), .val (.int p4), .val (.int (p1 &&& (3 : Int32))), .val (.ref r1), .val (.ref r2), .val (.ref r3), .val (.ref nb10), .val (.ref lf), .val .null, .val .null, .val .null, .val .null, .unset, .unset] [(.ref lf)])) (fun _ k => XS.aload X37.here hx rfl (hb hby at_129) rfl rfl k) ?_
    have C_43 : Exa Z T37.heap nb10 "java/util/ArrayList" := (C_38.keep Kq37)
    have F_44 : Fld Z T37.heap nb10 "java/util/AbstractList" "modCount" "I" (.int (0 : Int32)) := (F_39.keep Kq37 (ninS ne_nb10_it nin0))
    have F_45 : Fld Z T37.heap nb10 "java/util/ArrayList" "size" "I" (.int (0 : Int32)) := (F_40.keep Kq37 (ninS ne_nb10_it nin0))
    have L_46 : T37.heap[lf]? = some (own_lam cK it) := (Kq37.2.1 _ _ L_41 (ninS (Ne.symm ne_it_lf) nin0))
    refine own_fwd X37 hx hZ (W := 0) hown rfl HL L_46 (rmLam0_0 l Z a0 hw [] it nb10 T37.heap n0 (Nat.le_trans (Nat.le_trans (Nat.le_trans (Nat.le_trans (Nat.le_trans (Nat.le_trans (Nat.le_trans (Nat.le_trans (Nat.le_trans (Nat.le_trans Z0 Kq1.1) Kq5.1) Kq9.1) Ex10.1) Kq16.1) Kq22.1) Kq23.1) Kq27.1) Kq32.1) Kq37.1) Ci37 Fi37_0 Fi37_1 Fi37_2 Fi37_3 C_43 F_44 F_45) (fun v h L q => ⟨_, q.1, rfl⟩) (hw _ (List.mem_of_getElem? (i := 65) rfl)) (hw _ (List.mem_of_getElem? (i := 66) rfl)) (hw _ (List.mem_of_getElem? (i := 67) rfl)) (hw _ (List.mem_of_getElem? (i := 69) rfl)) (hw _ (List.mem_of_getElem? (i := 35) rfl)) (hw _ (List.mem_of_getElem? (i := 68) rfl)) (by decide) (by decide) (g := (mkF m 131 #[.val (.int p1), .val (.int p2), .val (.int p3), .val (.int p4), .val (.int (p1 &&& (3 : Int32))), .val (.ref r1), .val (.ref r2), .val (.ref r3), .val (.ref nb10), .val (.ref lf), .val .null, .val .null, .val .null, .val .null, .unset, .unset] [(.ref lf)])) rfl (by rw [hml]; rfl) (rest := []) rfl (by show 2 * 0 + _ ≤ _; exact Nat.le_of_eq rfl) (hb hby at_131) (by decide) (by decide) ?_
    intro v42 T42 L42 X42 hQ42
    obtain ⟨rfl, Nq42, Kq42, Ci42, Fi42_0, Fi42_1, Fi42_2, Fi42_3⟩ := hQ42
    have N42 := Fr.app N37 Nq42
    show OGo p e below _ T42 (mkF m 136 #[.val (.int p1), .val (.int p2), .val (.int p3), .val (.int p4), .val (.int (p1 &&& (3 : Int32))), .val (.ref r1), .val (.ref r2), .val (.ref r3), .val (.ref nb10), .val (.ref lf), .val .null, .val .null, .val .null, .val .null, .unset, .unset] [.null])
    refine own_step (g' := (mkF m 139 #[.val (.int p1), .val (.int p2), .val (.int p3), .val (.int p4), .val (.int (p1 &&& (3 : Int32))), .val (.ref r1), .val (.ref r2), .val (.ref r3), .val (.ref nb10), .val (.ref lf), .val .null, .val .null, .val .null, .val .null, .unset, .unset] [.null])) (X42.checkcastNull hx (g := (mkF m 136 #[.val (.int p1), .val (.int p2), .val (.int p3), .val (.int p4), .val (.int (p1 &&& (3 : Int32))), .val (.ref r1), .val (.ref r2), .val (.ref r3), .val (.ref nb10), .val (.ref lf), .val .null, .val .null, .val .null, .val .null, .unset, .unset] [.null])) rfl rfl (hb hby at_136)) ?_
    refine own_step (g' := (mkF m 141 #[.val (.int p1), .val (.int p2), .val (.int p3), .val (.int p4), .val (.int (p1 &&& (3 : Int32))), .val (.ref r1), .val (.ref r2), .val (.ref r3), .val (.ref nb10), .val (.ref lf), .val .null, .val .null, .val .null, .val .null, .val .null, .unset] [])) (fun _ k => XS.astore X42.here hx rfl (hb hby at_139) rfl rfl (l' := #[.val (.int p1), .val (.int p2), .val (.int p3), .val (.int p4), .val (.int (p1 &&& (3 : Int32))), .val (.ref r1), .val (.ref r2), .val (.ref r3), .val (.ref nb10), .val (.ref lf), .val .null, .val .null, .val .null, .val .null, .val .null, .unset]) rfl k) ?_
    refine own_step (g' := (mkF m 143 #[.val (.int p1), .val (.int p2), .val (.int p3), .val (.int p4), .val (.int (p1 &&& (3 : Int32))), .val (.ref r1), .val (.ref r2), .val (.ref r3), .val (.ref nb10), .val (.ref lf), .val .null, .val .null, .val .null, .val .null, .val .null, .unset] [(.int (p1 &&& (3 : Int32)))])) (fun _ k => XS.iload X42.here hx rfl (hb hby at_141) rfl k) ?_
    refine own_step (g' := (mkF m 144 #[.val (.int p1), .val (.int p2), .val (.int p3), .val (.int p4), .val (.int (p1 &&& (3 : Int32))), .val (.ref r1), .val (.ref r2), .val (.ref r3), .val (.ref nb10), .val (.ref lf), .val .null, .val .null, .val .null, .val .null, .val .null, .unset] [(.int (1 : Int32)), (.int (p1 &&& (3 : Int32)))])) (fun _ k => XS.iconst X42.here hx rfl (hb hby at_143) k) ?_
    refine own_step (g' := (mkF m 146 #[.val (.int p1), .val (.int p2), .val (.int p3), .val (.int p4), .val (.int (p1 &&& (3 : Int32))), .val (.ref r1), .val (.ref r2), .val (.ref r3), .val (.ref nb10), .val (.ref lf), .val .null, .val .null, .val .null, .val .null, .val .null, .unset] [.null, (.int (1 : Int32)), (.int (p1 &&& (3 : Int32)))])) (fun _ k => XS.aload X42.here hx rfl (hb hby at_144) rfl rfl k) ?_
    refine own_step (g' := (mkF m 148 #[.val (.int p1), .val (.int p2), .val (.int p3), .val (.int p4), .val (.int (p1 &&& (3 : Int32))), .val (.ref r1), .val (.ref r2), .val (.ref r3), .val (.ref nb10), .val (.ref lf), .val .null, .val .null, .val .null, .val .null, .val .null, .unset] [(.ref r1), .null, (.int (1 : Int32)), (.int (p1 &&& (3 : Int32)))])) (fun _ k => XS.aload X42.here hx rfl (hb hby at_146) rfl rfl k) ?_
    refine own_callS X42 hx hZ (W := 0) hown rfl (rmSlotN l Z a0 hw [] (p1 &&& (3 : Int32)) (1 : Int32) r1 T42.heap n0 (Nat.le_trans (Nat.le_trans (Nat.le_trans (Nat.le_trans (Nat.le_trans (Nat.le_trans (Nat.le_trans (Nat.le_trans (Nat.le_trans (Nat.le_trans (Nat.le_trans Z0 Kq1.1) Kq5.1) Kq9.1) Ex10.1) Kq16.1) Kq22.1) Kq23.1) Kq27.1) Kq32.1) Kq37.1) Kq42.1) (by rw [hq] <;> decide)) (hw _ (List.mem_of_getElem? (i := 83) rfl)) (hw _ (List.mem_of_getElem? (i := 84) rfl)) (hw _ (List.mem_of_getElem? (i := 85) rfl)) (hw _ (List.mem_of_getElem? (i := 86) rfl)) (by decide) (by decide) (by decide) (g := (mkF m 148 #[.val (.int p1), .val (.int p2), .val (.int p3), .val (.int p4), .val (.int (p1 &&& (3 : Int32))), .val (.ref r1), .val (.ref r2), .val (.ref r3), .val (.ref nb10), .val (.ref lf), .val .null, .val .null, .val .null, .val .null, .val .null, .unset] [(.ref r1), .null, (.int (1 : Int32)), (.int (p1 &&& (3 : Int32)))])) rfl (by rw [hml]; rfl) (argsL := [(.int (p1 &&& (3 : Int32))), (.int (1 : Int32)), .null, (.ref r1)]) (rest := []) rfl (lenOf pd_12 rfl) rfl (by show 2 * 0 + _ ≤ _; exact Nat.le_of_eq rfl) (hb hby at_148) (by decide) (by decide) ?_
    intro v47 T47 L47 X47 hQ47
    obtain ⟨rfl, rfl, e47⟩ := hQ47
    replace X47 := own_pureX X47
    show OGo p e below _ T47 (mkF m 151 #[.val (.int p1), .val (.int p2), .val (.int p3), .val (.int p4), .val (.int (p1 &&& (3 : Int32))), .val (.ref r1), .val (.ref r2), .val (.ref r3), .val (.ref nb10), .val (.ref lf), .val .null, .val .null, .val .null, .val .null, .val .null, .unset] [(.int (1 : Int32))])
    refine own_step (g' := (mkF m 154 #[.val (.int p1), .val (.int p2), .val (.int p3), .val (.int p4), .val (.int (p1 &&& (3 : Int32))), .val (.ref r1), .val (.ref r2), .val (.ref r3), .val (.ref nb10), .val (.ref lf), .val .null, .val .null, .val .null, .val .null, .val .null, .unset] [])) (fun _ k => XS.ifNo X47.here hx rfl (hb hby at_151) rfl ((if0 _ _).trans (feq (by decide : ¬ ((1 : Int32) = (0 : Int32)))).1) k) ?_
    refine own_step (g' := (mkF m 156 #[.val (.int p1), .val (.int p2), .val (.int p3), .val (.int p4), .val (.int (p1 &&& (3 : Int32))), .val (.ref r1), .val (.ref r2), .val (.ref r3), .val (.ref nb10), .val (.ref lf), .val .null, .val .null, .val .null, .val .null, .val .null, .unset] [(.int (p1 &&& (3 : Int32)))])) (fun _ k => XS.iload X47.here hx rfl (hb hby at_154) rfl k) ?_
    refine own_step (g' := (mkF m 157 #[.val (.int p1), .val (.int p2), .val (.int p3), .val (.int p4), .val (.int (p1 &&& (3 : Int32))), .val (.ref r1), .val (.ref r2), .val (.ref r3), .val (.ref nb10), .val (.ref lf), .val .null, .val .null, .val .null, .val .null, .val .null, .unset] [(.int (2 : Int32)), (.int (p1 &&& (3 : Int32)))])) (fun _ k => XS.iconst X47.here hx rfl (hb hby at_156) k) ?_
    refine own_step (g' := (mkF m 159 #[.val (.int p1), .val (.int p2), .val (.int p3), .val (.int p4), .val (.int (p1 &&& (3 : Int32))), .val (.ref r1), .val (.ref r2), .val (.ref r3), .val (.ref nb10), .val (.ref lf), .val .null, .val .null, .val .null, .val .null, .val .null, .unset] [.null, (.int (2 : Int32)), (.int (p1 &&& (3 : Int32)))])) (fun _ k => XS.aload X47.here hx rfl (hb hby at_157) rfl rfl k) ?_
    refine own_step (g' := (mkF m 161 #[.val (.int p1), .val (.int p2), .val (.int p3), .val (.int p4), .val (.int (p1 &&& (3 : Int32))), .val (.ref r1), .val (.ref r2), .val (.ref r3), .val (.ref nb10), .val (.ref lf), .val .null, .val .null, .val .null, .val .null, .val .null, .unset] [(.ref r2), .null, (.int (2 : Int32)), (.int (p1 &&& (3 : Int32)))])) (fun _ k => XS.aload X47.here hx rfl (hb hby at_159) rfl rfl k) ?_
    refine own_callS X47 hx hZ (W := 0) hown e47 (rmSlotN l Z a0 hw [] (p1 &&& (3 : Int32)) (2 : Int32) r2 T42.heap n0 (Nat.le_trans (Nat.le_trans (Nat.le_trans (Nat.le_trans (Nat.le_trans (Nat.le_trans (Nat.le_trans (Nat.le_trans (Nat.le_trans (Nat.le_trans (Nat.le_trans Z0 Kq1.1) Kq5.1) Kq9.1) Ex10.1) Kq16.1) Kq22.1) Kq23.1) Kq27.1) Kq32.1) Kq37.1) Kq42.1) (by rw [hq] <;> decide)) (hw _ (List.mem_of_getElem? (i := 83) rfl)) (hw _ (List.mem_of_getElem? (i := 84) rfl)) (hw _ (List.mem_of_getElem? (i := 85) rfl)) (hw _ (List.mem_of_getElem? (i := 86) rfl)) (by decide) (by decide) (by decide) (g := (mkF m 161 #[.val (.int p1), .val (.int p2), .val (.int p3), .val (.int p4), .val (.int (p1 &&& (3 : Int32))), .val (.ref r1), .val (.ref r2), .val (.ref r3), .val (.ref nb10), .val (.ref lf), .val .null, .val .null, .val .null, .val .null, .val .null, .unset] [(.ref r2), .null, (.int (2 : Int32)), (.int (p1 &&& (3 : Int32)))])) rfl (by rw [hml]; rfl) (argsL := [(.int (p1 &&& (3 : Int32))), (.int (2 : Int32)), .null, (.ref r2)]) (rest := []) rfl (lenOf pd_12 rfl) rfl (by show 2 * 0 + _ ≤ _; exact Nat.le_of_eq rfl) (hb hby at_161) (by decide) (by decide) ?_
    intro v48 T48 L48 X48 hQ48
    obtain ⟨rfl, rfl, e48⟩ := hQ48
    replace X48 := own_pureX X48
    show OGo p e below _ T48 (mkF m 164 #[.val (.int p1), .val (.int p2), .val (.int p3), .val (.int p4), .val (.int (p1 &&& (3 : Int32))), .val (.ref r1), .val (.ref r2), .val (.ref r3), .val (.ref nb10), .val (.ref lf), .val .null, .val .null, .val .null, .val .null, .val .null, .unset] [(.int (1 : Int32))])
    refine own_step (g' := (mkF m 167 #[.val (.int p1), .val (.int p2), .val (.int p3), .val (.int p4), .val (.int (p1 &&& (3 : Int32))), .val (.ref r1), .val (.ref r2), .val (.ref r3), .val (.ref nb10), .val (.ref lf), .val .null, .val .null, .val .null, .val .null, .val .null, .unset] [])) (fun _ k => XS.ifNo X48.here hx rfl (hb hby at_164) rfl ((if0 _ _).trans (feq (by decide : ¬ ((1 : Int32) = (0 : Int32)))).1) k) ?_
    refine own_step (g' := (mkF m 169 #[.val (.int p1), .val (.int p2), .val (.int p3), .val (.int p4), .val (.int (p1 &&& (3 : Int32))), .val (.ref r1), .val (.ref r2), .val (.ref r3), .val (.ref nb10), .val (.ref lf), .val .null, .val .null, .val .null, .val .null, .val .null, .unset] [(.int (p1 &&& (3 : Int32)))])) (fun _ k => XS.iload X48.here hx rfl (hb hby at_167) rfl k) ?_
    refine own_step (g' := (mkF m 170 #[.val (.int p1), .val (.int p2), .val (.int p3), .val (.int p4), .val (.int (p1 &&& (3 : Int32))), .val (.ref r1), .val (.ref r2), .val (.ref r3), .val (.ref nb10), .val (.ref lf), .val .null, .val .null, .val .null, .val .null, .val .null, .unset] [(.int (3 : Int32)), (.int (p1 &&& (3 : Int32)))])) (fun _ k => XS.iconst X48.here hx rfl (hb hby at_169) k) ?_
    refine own_step (g' := (mkF m 172 #[.val (.int p1), .val (.int p2), .val (.int p3), .val (.int p4), .val (.int (p1 &&& (3 : Int32))), .val (.ref r1), .val (.ref r2), .val (.ref r3), .val (.ref nb10), .val (.ref lf), .val .null, .val .null, .val .null, .val .null, .val .null, .unset] [.null, (.int (3 : Int32)), (.int (p1 &&& (3 : Int32)))])) (fun _ k => XS.aload X48.here hx rfl (hb hby at_170) rfl rfl k) ?_
    refine own_step (g' := (mkF m 174 #[.val (.int p1), .val (.int p2), .val (.int p3), .val (.int p4), .val (.int (p1 &&& (3 : Int32))), .val (.ref r1), .val (.ref r2), .val (.ref r3), .val (.ref nb10), .val (.ref lf), .val .null, .val .null, .val .null, .val .null, .val .null, .unset] [(.ref r3), .null, (.int (3 : Int32)), (.int (p1 &&& (3 : Int32)))])) (fun _ k => XS.aload X48.here hx rfl (hb hby at_172) rfl rfl k) ?_
    refine own_callS X48 hx hZ (W := 0) hown e48 (rmSlotN l Z a0 hw [] (p1 &&& (3 : Int32)) (3 : Int32) r3 T42.heap n0 (Nat.le_trans (Nat.le_trans (Nat.le_trans (Nat.le_trans (Nat.le_trans (Nat.le_trans (Nat.le_trans (Nat.le_trans (Nat.le_trans (Nat.le_trans (Nat.le_trans Z0 Kq1.1) Kq5.1) Kq9.1) Ex10.1) Kq16.1) Kq22.1) Kq23.1) Kq27.1) Kq32.1) Kq37.1) Kq42.1) (by rw [hq] <;> decide)) (hw _ (List.mem_of_getElem? (i := 83) rfl)) (hw _ (List.mem_of_getElem? (i := 84) rfl)) (hw _ (List.mem_of_getElem? (i := 85) rfl)) (hw _ (List.mem_of_getElem? (i := 86) rfl)) (by decide) (by decide) (by decide) (g := (mkF m 174 #[.val (.int p1), .val (.int p2), .val (.int p3), .val (.int p4), .val (.int (p1 &&& (3 : Int32))), .val (.ref r1), .val (.ref r2), .val (.ref r3), .val (.ref nb10), .val (.ref lf), .val .null, .val .null, .val .null, .val .null, .val .null, .unset] [(.ref r3), .null, (.int (3 : Int32)), (.int (p1 &&& (3 : Int32)))])) rfl (by rw [hml]; rfl) (argsL := [(.int (p1 &&& (3 : Int32))), (.int (3 : Int32)), .null, (.ref r3)]) (rest := []) rfl (lenOf pd_12 rfl) rfl (by show 2 * 0 + _ ≤ _; exact Nat.le_of_eq rfl) (hb hby at_174) (by decide) (by decide) ?_
    intro v49 T49 L49 X49 hQ49
    obtain ⟨rfl, rfl, e49⟩ := hQ49
    replace X49 := own_pureX X49
    show OGo p e below _ T49 (mkF m 177 #[.val (.int p1), .val (.int p2), .val (.int p3), .val (.int p4), .val (.int (p1 &&& (3 : Int32))), .val (.ref r1), .val (.ref r2), .val (.ref r3), .val (.ref nb10), .val (.ref lf), .val .null, .val .null, .val .null, .val .null, .val .null, .unset] [(.int (1 : Int32))])
    refine own_step (g' := (mkF m 180 #[.val (.int p1), .val (.int p2), .val (.int p3), .val (.int p4), .val (.int (p1 &&& (3 : Int32))), .val (.ref r1), .val (.ref r2), .val (.ref r3), .val (.ref nb10), .val (.ref lf), .val .null, .val .null, .val .null, .val .null, .val .null, .unset] [])) (fun _ k => XS.ifNo X49.here hx rfl (hb hby at_177) rfl ((if0 _ _).trans (feq (by decide : ¬ ((1 : Int32) = (0 : Int32)))).1) k) ?_
    refine own_step (g' := (mkF m 181 #[.val (.int p1), .val (.int p2), .val (.int p3), .val (.int p4), .val (.int (p1 &&& (3 : Int32))), .val (.ref r1), .val (.ref r2), .val (.ref r3), .val (.ref nb10), .val (.ref lf), .val .null, .val .null, .val .null, .val .null, .val .null, .unset] [(.int (1 : Int32))])) (fun _ k => XS.iconst X49.here hx rfl (hb hby at_180) k) ?_
    refine own_step (g' := (mkF m 185 #[.val (.int p1), .val (.int p2), .val (.int p3), .val (.int p4), .val (.int (p1 &&& (3 : Int32))), .val (.ref r1), .val (.ref r2), .val (.ref r3), .val (.ref nb10), .val (.ref lf), .val .null, .val .null, .val .null, .val .null, .val .null, .unset] [(.int (1 : Int32))])) (fun _ k => XS.goto X49.here hx rfl (pc0 := 181) (pc' := 185) rfl (hb hby at_181) (by decide) (by decide) k) ?_
    refine own_step (g' := (mkF m 187 #[.val (.int p1), .val (.int p2), .val (.int p3), .val (.int p4), .val (.int (p1 &&& (3 : Int32))), .val (.ref r1), .val (.ref r2), .val (.ref r3), .val (.ref nb10), .val (.ref lf), .val .null, .val .null, .val .null, .val .null, .val .null, .val (.int (1 : Int32))] [])) (fun _ k => XS.istore X49.here hx rfl (hb hby at_185) rfl (l' := #[.val (.int p1), .val (.int p2), .val (.int p3), .val (.int p4), .val (.int (p1 &&& (3 : Int32))), .val (.ref r1), .val (.ref r2), .val (.ref r3), .val (.ref nb10), .val (.ref lf), .val .null, .val .null, .val .null, .val .null, .val .null, .val (.int (1 : Int32))]) rfl k) ?_
    refine own_step (g' := (mkF m 189 #[.val (.int p1), .val (.int p2), .val (.int p3), .val (.int p4), .val (.int (p1 &&& (3 : Int32))), .val (.ref r1), .val (.ref r2), .val (.ref r3), .val (.ref nb10), .val (.ref lf), .val .null, .val .null, .val .null, .val .null, .val .null, .val (.int (1 : Int32))] [(.int (1 : Int32))])) (fun _ k => XS.iload X49.here hx rfl (hb hby at_187) rfl k) ?_
    refine own_step (g' := (mkF m 192 #[.val (.int p1), .val (.int p2), .val (.int p3), .val (.int p4), .val (.int (p1 &&& (3 : Int32))), .val (.ref r1), .val (.ref r2), .val (.ref r3), .val (.ref nb10), .val (.ref lf), .val .null, .val .null, .val .null, .val .null, .val .null, .val (.int (1 : Int32))] [])) (fun _ k => XS.ifNo X49.here hx rfl (hb hby at_189) rfl ((if0 _ _).trans (feq (by decide : ¬ ((1 : Int32) = (0 : Int32)))).1) k) ?_
    refine own_step (g' := (mkF m 194 #[.val (.int p1), .val (.int p2), .val (.int p3), .val (.int p4), .val (.int (p1 &&& (3 : Int32))), .val (.ref r1), .val (.ref r2), .val (.ref r3), .val (.ref nb10), .val (.ref lf), .val .null, .val .null, .val .null, .val .null, .val .null, .val (.int (1 : Int32))] [.null])) (fun _ k => XS.aload X49.here hx rfl (hb hby at_192) rfl rfl k) ?_
    refine own_step (g' := (mkF m 197 #[.val (.int p1), .val (.int p2), .val (.int p3), .val (.int p4), .val (.int (p1 &&& (3 : Int32))), .val (.ref r1), .val (.ref r2), .val (.ref r3), .val (.ref nb10), .val (.ref lf), .val .null, .val .null, .val .null, .val .null, .val .null, .val (.int (1 : Int32))] [])) (fun _ k => XS.ifnonnullNo X49.here hx rfl (hb hby at_194) rfl k) ?_
    refine own_step (g' := (mkF m 199 #[.val (.int p1), .val (.int p2), .val (.int p3), .val (.int p4), .val (.int (p1 &&& (3 : Int32))), .val (.ref r1), .val (.ref r2), .val (.ref r3), .val (.ref nb10), .val (.ref lf), .val .null, .val .null, .val .null, .val .null, .val .null, .val (.int (1 : Int32))] [.null])) (fun _ k => XS.aload X49.here hx rfl (hb hby at_197) rfl rfl k) ?_
    refine own_step (g' := (mkF m 202 #[.val (.int p1), .val (.int p2), .val (.int p3), .val (.int p4), .val (.int (p1 &&& (3 : Int32))), .val (.ref r1), .val (.ref r2), .val (.ref r3), .val (.ref nb10), .val (.ref lf), .val .null, .val .null, .val .null, .val .null, .val .null, .val (.int (1 : Int32))] [])) (fun _ k => XS.ifnonnullNo X49.here hx rfl (hb hby at_199) rfl k) ?_
    refine own_step (g' := (mkF m 203 #[.val (.int p1), .val (.int p2), .val (.int p3), .val (.int p4), .val (.int (p1 &&& (3 : Int32))), .val (.ref r1), .val (.ref r2), .val (.ref r3), .val (.ref nb10), .val (.ref lf), .val .null, .val .null, .val .null, .val .null, .val .null, .val (.int (1 : Int32))] [(.int (1 : Int32))])) (fun _ k => XS.iconst X49.here hx rfl (hb hby at_202) k) ?_
    refine own_step (g' := (mkF m 207 #[.val (.int p1), .val (.int p2), .val (.int p3), .val (.int p4), .val (.int (p1 &&& (3 : Int32))), .val (.ref r1), .val (.ref r2), .val (.ref r3), .val (.ref nb10), .val (.ref lf), .val .null, .val .null, .val .null, .val .null, .val .null, .val (.int (1 : Int32))] [(.int (1 : Int32))])) (fun _ k => XS.goto X49.here hx rfl (pc0 := 203) (pc' := 207) rfl (hb hby at_203) (by decide) (by decide) k) ?_
    refine own_step (g' := (mkF m 209 #[.val (.int p1), .val (.int p2), .val (.int p3), .val (.int p4), .val (.int (p1 &&& (3 : Int32))), .val (.ref r1), .val (.ref r2), .val (.ref r3), .val (.ref nb10), .val (.ref lf), .val .null, .val .null, .val .null, .val .null, .val .null, .val (.int (1 : Int32))] [])) (fun _ k => XS.istore X49.here hx rfl (hb hby at_207) rfl (l' := #[.val (.int p1), .val (.int p2), .val (.int p3), .val (.int p4), .val (.int (p1 &&& (3 : Int32))), .val (.ref r1), .val (.ref r2), .val (.ref r3), .val (.ref nb10), .val (.ref lf), .val .null, .val .null, .val .null, .val .null, .val .null, .val (.int (1 : Int32))]) rfl k) ?_
    refine own_step (g' := (mkF m 211 #[.val (.int p1), .val (.int p2), .val (.int p3), .val (.int p4), .val (.int (p1 &&& (3 : Int32))), .val (.ref r1), .val (.ref r2), .val (.ref r3), .val (.ref nb10), .val (.ref lf), .val .null, .val .null, .val .null, .val .null, .val .null, .val (.int (1 : Int32))] [(.int (1 : Int32))])) (fun _ k => XS.iload X49.here hx rfl (hb hby at_209) rfl k) ?_
    refine own_step (g' := (mkF m 214 #[.val (.int p1), .val (.int p2), .val (.int p3), .val (.int p4), .val (.int (p1 &&& (3 : Int32))), .val (.ref r1), .val (.ref r2), .val (.ref r3), .val (.ref nb10), .val (.ref lf), .val .null, .val .null, .val .null, .val .null, .val .null, .val (.int (1 : Int32))] [])) (fun _ k => XS.ifNo X49.here hx rfl (hb hby at_211) rfl ((if0 _ _).trans (feq (by decide : ¬ ((1 : Int32) = (0 : Int32)))).1) k) ?_
    refine own_step (g' := (mkF m 216 #[.val (.int p1), .val (.int p2), .val (.int p3), .val (.int p4), .val (.int (p1 &&& (3 : Int32))), .val (.ref r1), .val (.ref r2), .val (.ref r3), .val (.ref nb10), .val (.ref lf), .val .null, .val .null, .val .null, .val .null, .val .null, .val (.int (1 : Int32))] [(.ref nb10)])) (fun _ k => XS.aload X49.here hx rfl (hb hby at_214) rfl rfl k) ?_
    have F_50 : Fld Z T42.heap nb10 "java/util/ArrayList" "size" "I" (.int (0 : Int32)) := (F_45.keep Kq42 (ninS ne_nb10_it nin0))
    have C_52 : Exa Z T42.heap nb10 "java/util/ArrayList" := (C_43.keep Kq42)
    refine own_callV X49 hx hZ (W := 0) hown e49 (rmSize l Z a0 hw [] nb10 (0 : Int32) T42.heap n0 (Nat.le_trans (Nat.le_trans (Nat.le_trans (Nat.le_trans (Nat.le_trans (Nat.le_trans (Nat.le_trans (Nat.le_trans (Nat.le_trans (Nat.le_trans (Nat.le_trans Z0 Kq1.1) Kq5.1) Kq9.1) Ex10.1) Kq16.1) Kq22.1) Kq23.1) Kq27.1) Kq32.1) Kq37.1) Kq42.1) F_50) C_52 (hw _ (List.mem_of_getElem? (i := 87) rfl)) (hw _ (List.mem_of_getElem? (i := 88) rfl)) (notFace_of_selects (args := #[]) (mvT hZ (hw _ (List.mem_of_getElem? (i := 90) rfl)))) (hw _ (List.mem_of_getElem? (i := 90) rfl)) (hw _ (List.mem_of_getElem? (i := 89) rfl)) (hw _ (List.mem_of_getElem? (i := 91) rfl)) (hw _ (List.mem_of_getElem? (i := 9) rfl)) (by decide) (by decide) (by decide) (g := (mkF m 216 #[.val (.int p1), .val (.int p2), .val (.int p3), .val (.int p4), .val (.int (p1 &&& (3 : Int32))), .val (.ref r1), .val (.ref r2), .val (.ref r3), .val (.ref nb10), .val (.ref lf), .val .null, .val .null, .val .null, .val .null, .val .null, .val (.int (1 : Int32))] [(.ref nb10)])) rfl (by rw [hml]; rfl) (argsL := []) (rest := []) rfl (lenOf pd_13 rfl) rfl (by show 2 * 0 + _ ≤ _; exact Nat.le_of_eq rfl) (hb hby at_216) (by decide) (by decide) ?_
    intro v51 T51 L51 X51 hQ51
    obtain ⟨rfl, rfl, e51⟩ := hQ51
    replace X51 := own_pureX X51
    show OGo p e below _ T51 (mkF m 219 #[.val (.int p1), .val (.int p2), .val (.int p3), .val (.int p4), .val (.int (p1 &&& (3 : Int32))), .val (.ref r1), .val (.ref r2), .val (.ref r3), .val (.ref nb10), .val (.ref lf), .val .null, .val .null, .val .null, .val .null, .val .null, .val (.int (1 : Int32))] [(.int (0 : Int32))])
    refine own_step (g' := (mkF m 221 #[.val (.int p1), .val (.int p2), .val (.int p3), .val (.int p4), .val (.int (p1 &&& (3 : Int32))), .val (.ref r1), .val (.ref r2), .val (.ref r3), .val (.ref nb10), .val (.ref lf), .val .null, .val .null, .val .null, .val .null, .val .null, .val (.int (1 : Int32))] [(.int (p1 &&& (3 : Int32))), (.int (0 : Int32))])) (fun _ k => XS.iload X51.here hx rfl (hb hby at_219) rfl k) ?_
    refine own_step (g' := (mkF m 224 #[.val (.int p1), .val (.int p2), .val (.int p3), .val (.int p4), .val (.int (p1 &&& (3 : Int32))), .val (.ref r1), .val (.ref r2), .val (.ref r3), .val (.ref nb10), .val (.ref lf), .val .null, .val .null, .val .null, .val .null, .val .null, .val (.int (1 : Int32))] [])) (fun _ k => XS.icmpNo X51.here hx rfl (hb hby at_221) rfl (teq (by rw [hq] <;> decide : (0 : Int32) = (p1 &&& (3 : Int32)))).2 k) ?_
    refine own_step (g' := (mkF m 225 #[.val (.int p1), .val (.int p2), .val (.int p3), .val (.int p4), .val (.int (p1 &&& (3 : Int32))), .val (.ref r1), .val (.ref r2), .val (.ref r3), .val (.ref nb10), .val (.ref lf), .val .null, .val .null, .val .null, .val .null, .val .null, .val (.int (1 : Int32))] [(.int (1 : Int32))])) (fun _ k => XS.iconst X51.here hx rfl (hb hby at_224) k) ?_
    refine own_step (g' := (mkF m 229 #[.val (.int p1), .val (.int p2), .val (.int p3), .val (.int p4), .val (.int (p1 &&& (3 : Int32))), .val (.ref r1), .val (.ref r2), .val (.ref r3), .val (.ref nb10), .val (.ref lf), .val .null, .val .null, .val .null, .val .null, .val .null, .val (.int (1 : Int32))] [(.int (1 : Int32))])) (fun _ k => XS.goto X51.here hx rfl (pc0 := 225) (pc' := 229) rfl (hb hby at_225) (by decide) (by decide) k) ?_
    exact own_retN X51 hx (t := .boolean) hret (by simp) hlk (hb hby at_229) e51 (by exact ⟨rfl, N42⟩) (by decide) (by decide)
  · refine own_step (g' := (mkF m 1 #[.val (.int p1), .val (.int p2), .val (.int p3), .val (.int p4), .unset, .unset, .unset, .unset, .unset, .unset, .unset, .unset, .unset, .unset, .unset, .unset] [(.int p1)])) (fun _ k => XS.iloadN X0.here hx rfl (hb hby at_0) rfl k) ?_
    refine own_step (g' := (mkF m 2 #[.val (.int p1), .val (.int p2), .val (.int p3), .val (.int p4), .unset, .unset, .unset, .unset, .unset, .unset, .unset, .unset, .unset, .unset, .unset, .unset] [(.int (3 : Int32)), (.int p1)])) (fun _ k => XS.iconst X0.here hx rfl (hb hby at_1) k) ?_
    refine own_step (g' := (mkF m 3 #[.val (.int p1), .val (.int p2), .val (.int p3), .val (.int p4), .unset, .unset, .unset, .unset, .unset, .unset, .unset, .unset, .unset, .unset, .unset, .unset] [(.int (p1 &&& (3 : Int32)))])) (fun _ k => XS.iand X0.here hx rfl (hb hby at_2) rfl k) ?_
    refine own_step (g' := (mkF m 5 #[.val (.int p1), .val (.int p2), .val (.int p3), .val (.int p4), .val (.int (p1 &&& (3 : Int32))), .unset, .unset, .unset, .unset, .unset, .unset, .unset, .unset, .unset, .unset, .unset] [])) (fun _ k => XS.istore X0.here hx rfl (hb hby at_3) rfl (l' := #[.val (.int p1), .val (.int p2), .val (.int p3), .val (.int p4), .val (.int (p1 &&& (3 : Int32))), .unset, .unset, .unset, .unset, .unset, .unset, .unset, .unset, .unset, .unset, .unset]) rfl k) ?_
    refine own_step (g' := (mkF m 6 #[.val (.int p1), .val (.int p2), .val (.int p3), .val (.int p4), .val (.int (p1 &&& (3 : Int32))), .unset, .unset, .unset, .unset, .unset, .unset, .unset, .unset, .unset, .unset, .unset] [(.int p2)])) (fun _ k => XS.iloadN X0.here hx rfl (hb hby at_5) rfl k) ?_
    refine own_callS X0 hx hZ (W := 0) hown e0 (rmVO l Z a0 hw [] p2 ca cc vf h0 n0 Z0 S_hi S_ca Bx O0) (hw _ (List.mem_of_getElem? (i := 0) rfl)) (hw _ (List.mem_of_getElem? (i := 1) rfl)) (hw _ (List.mem_of_getElem? (i := 2) rfl)) (hw _ (List.mem_of_getElem? (i := 3) rfl)) (by decide) (by decide) (by decide) (g := (mkF m 6 #[.val (.int p1), .val (.int p2), .val (.int p3), .val (.int p4), .val (.int (p1 &&& (3 : Int32))), .unset, .unset, .unset, .unset, .unset, .unset, .unset, .unset, .unset, .unset, .unset] [(.int p2)])) rfl (by rw [hml]; rfl) (argsL := [(.int p2)]) (rest := []) rfl (lenOf pd_10 rfl) rfl (by show 2 * 0 + _ ≤ _; exact Nat.le_of_eq rfl) (hb hby at_6) (by decide) (by decide) ?_
    intro v53 T53 L53 X53 hQ53
    obtain ⟨⟨r1, rfl, Cr1⟩, Nq53, Kq53⟩ := hQ53
    have N53 := Fr.app N0 Nq53
    show OGo p e below _ T53 (mkF m 9 #[.val (.int p1), .val (.int p2), .val (.int p3), .val (.int p4), .val (.int (p1 &&& (3 : Int32))), .unset, .unset, .unset, .unset, .unset, .unset, .unset, .unset, .unset, .unset, .unset] [(.ref r1)])
    refine own_step (g' := (mkF m 11 #[.val (.int p1), .val (.int p2), .val (.int p3), .val (.int p4), .val (.int (p1 &&& (3 : Int32))), .val (.ref r1), .unset, .unset, .unset, .unset, .unset, .unset, .unset, .unset, .unset, .unset] [])) (fun _ k => XS.astore X53.here hx rfl (hb hby at_9) rfl rfl (l' := #[.val (.int p1), .val (.int p2), .val (.int p3), .val (.int p4), .val (.int (p1 &&& (3 : Int32))), .val (.ref r1), .unset, .unset, .unset, .unset, .unset, .unset, .unset, .unset, .unset, .unset]) rfl k) ?_
    refine own_step (g' := (mkF m 12 #[.val (.int p1), .val (.int p2), .val (.int p3), .val (.int p4), .val (.int (p1 &&& (3 : Int32))), .val (.ref r1), .unset, .unset, .unset, .unset, .unset, .unset, .unset, .unset, .unset, .unset] [(.int p3)])) (fun _ k => XS.iloadN X53.here hx rfl (hb hby at_11) rfl k) ?_
    have S_54 : Sta Z T53.heap "java/lang/Integer$IntegerCache" "high" "I" (.int (127 : Int32)) := (own_sta_keep S_hi Kq53 all0)
    have S_55 : Sta Z T53.heap "java/lang/Integer$IntegerCache" "cache" "[Ljava/lang/Integer;" (.ref ca) := (own_sta_keep S_ca Kq53 all0)
    have O_56 : Old Z n0 T53.heap := (O0.keep Kq53 all0)
    refine own_callS X53 hx hZ (W := 0) hown rfl (rmVO l Z a0 hw [] p3 ca cc vf T53.heap n0 (Nat.le_trans Z0 Kq53.1) S_54 S_55 Bx O_56) (hw _ (List.mem_of_getElem? (i := 0) rfl)) (hw _ (List.mem_of_getElem? (i := 1) rfl)) (hw _ (List.mem_of_getElem? (i := 2) rfl)) (hw _ (List.mem_of_getElem? (i := 3) rfl)) (by decide) (by decide) (by decide) (g := (mkF m 12 #[.val (.int p1), .val (.int p2), .val (.int p3), .val (.int p4), .val (.int (p1 &&& (3 : Int32))), .val (.ref r1), .unset, .unset, .unset, .unset, .unset, .unset, .unset, .unset, .unset, .unset] [(.int p3)])) rfl (by rw [hml]; rfl) (argsL := [(.int p3)]) (rest := []) rfl (lenOf pd_10 rfl) rfl (by show 2 * 0 + _ ≤ _; exact Nat.le_of_eq rfl) (hb hby at_12) (by decide) (by decide) ?_
    intro v57 T57 L57 X57 hQ57
    obtain ⟨⟨r2, rfl, Cr2⟩, Nq57, Kq57⟩ := hQ57
    have N57 := Fr.app N53 Nq57
    show OGo p e below _ T57 (mkF m 15 #[.val (.int p1), .val (.int p2), .val (.int p3), .val (.int p4), .val (.int (p1 &&& (3 : Int32))), .val (.ref r1), .unset, .unset, .unset, .unset, .unset, .unset, .unset, .unset, .unset, .unset] [(.ref r2)])
    refine own_step (g' := (mkF m 17 #[.val (.int p1), .val (.int p2), .val (.int p3), .val (.int p4), .val (.int (p1 &&& (3 : Int32))), .val (.ref r1), .val (.ref r2), .unset, .unset, .unset, .unset, .unset, .unset, .unset, .unset, .unset] [])) (fun _ k => XS.astore X57.here hx rfl (hb hby at_15) rfl rfl (l' := #[.val (.int p1), .val (.int p2), .val (.int p3), .val (.int p4), .val (.int (p1 &&& (3 : Int32))), .val (.ref r1), .val (.ref r2), .unset, .unset, .unset, .unset, .unset, .unset, .unset, .unset, .unset]) rfl k) ?_
    refine own_step (g' := (mkF m 18 #[.val (.int p1), .val (.int p2), .val (.int p3), .val (.int p4), .val (.int (p1 &&& (3 : Int32))), .val (.ref r1), .val (.ref r2), .unset, .unset, .unset, .unset, .unset, .unset, .unset, .unset, .unset] [(.int p4)])) (fun _ k => XS.iloadN X57.here hx rfl (hb hby at_17) rfl k) ?_
    have S_58 : Sta Z T57.heap "java/lang/Integer$IntegerCache" "high" "I" (.int (127 : Int32)) := (own_sta_keep S_54 Kq57 all0)
    have S_59 : Sta Z T57.heap "java/lang/Integer$IntegerCache" "cache" "[Ljava/lang/Integer;" (.ref ca) := (own_sta_keep S_55 Kq57 all0)
    have O_60 : Old Z n0 T57.heap := (O_56.keep Kq57 all0)
    refine own_callS X57 hx hZ (W := 0) hown rfl (rmVO l Z a0 hw [] p4 ca cc vf T57.heap n0 (Nat.le_trans (Nat.le_trans Z0 Kq53.1) Kq57.1) S_58 S_59 Bx O_60) (hw _ (List.mem_of_getElem? (i := 0) rfl)) (hw _ (List.mem_of_getElem? (i := 1) rfl)) (hw _ (List.mem_of_getElem? (i := 2) rfl)) (hw _ (List.mem_of_getElem? (i := 3) rfl)) (by decide) (by decide) (by decide) (g := (mkF m 18 #[.val (.int p1), .val (.int p2), .val (.int p3), .val (.int p4), .val (.int (p1 &&& (3 : Int32))), .val (.ref r1), .val (.ref r2), .unset, .unset, .unset, .unset, .unset, .unset, .unset, .unset, .unset] [(.int p4)])) rfl (by rw [hml]; rfl) (argsL := [(.int p4)]) (rest := []) rfl (lenOf pd_10 rfl) rfl (by show 2 * 0 + _ ≤ _; exact Nat.le_of_eq rfl) (hb hby at_18) (by decide) (by decide) ?_
    intro v61 T61 L61 X61 hQ61
    obtain ⟨⟨r3, rfl, Cr3⟩, Nq61, Kq61⟩ := hQ61
    have N61 := Fr.app N57 Nq61
    show OGo p e below _ T61 (mkF m 21 #[.val (.int p1), .val (.int p2), .val (.int p3), .val (.int p4), .val (.int (p1 &&& (3 : Int32))), .val (.ref r1), .val (.ref r2), .unset, .unset, .unset, .unset, .unset, .unset, .unset, .unset, .unset] [(.ref r3)])
    refine own_step (g' := (mkF m 23 #[.val (.int p1), .val (.int p2), .val (.int p3), .val (.int p4), .val (.int (p1 &&& (3 : Int32))), .val (.ref r1), .val (.ref r2), .val (.ref r3), .unset, .unset, .unset, .unset, .unset, .unset, .unset, .unset] [])) (fun _ k => XS.astore X61.here hx rfl (hb hby at_21) rfl rfl (l' := #[.val (.int p1), .val (.int p2), .val (.int p3), .val (.int p4), .val (.int (p1 &&& (3 : Int32))), .val (.ref r1), .val (.ref r2), .val (.ref r3), .unset, .unset, .unset, .unset, .unset, .unset, .unset, .unset]) rfl k) ?_
    have V_63 : Arv Z T61.heap ed kd (.object "java/lang/Object") (0 : Int32) [] .null := (((Vd.keep Kq53 nin0).keep Kq57 nin0).keep Kq61 nin0)
    have C_64 : Exa Z T61.heap r1 "java/lang/Integer" := ((Cr1.keep Kq57).keep Kq61)
    have C_65 : Exa Z T61.heap r2 "java/lang/Integer" := (Cr2.keep Kq61)
    obtain ⟨T62, h62, X62, e62, Ex62, A62, D62, -, st62⟩ := newO X61 hx hZ hown (hw _ (List.mem_of_getElem? (i := 7) rfl)) (hw _ (List.mem_of_getElem? (i := 8) rfl)) (hw _ (List.mem_of_getElem? (i := 9) rfl)) rfl (g := (mkF m 23 #[.val (.int p1), .val (.int p2), .val (.int p3), .val (.int p4), .val (.int (p1 &&& (3 : Int32))), .val (.ref r1), .val (.ref r2), .val (.ref r3), .unset, .unset, .unset, .unset, .unset, .unset, .unset, .unset] [])) rfl (hb hby at_23) (by decide) (by decide)
    obtain ⟨nb62, g62⟩ : ∃ z, z = T61.heap.size := ⟨_, rfl⟩
    rw [← g62] at A62 D62 st62
    have g_nb62 : n0 ≤ nb62 := Nat.le_trans (Nat.le_trans (Nat.le_trans (Nat.le_trans Z0 Kq53.1) Kq57.1) Kq61.1) (Nat.le_of_eq g62.symm)
    have ne_ed_nb62 : ed ≠ nb62 := Nat.ne_of_lt (Nat.lt_of_lt_of_le V_63.lt (Nat.le_of_eq g62.symm))
    have ne_r1_nb62 : r1 ≠ nb62 := Nat.ne_of_lt (Nat.lt_of_lt_of_le C_64.lt (Nat.le_of_eq g62.symm))
    have ne_r2_nb62 : r2 ≠ nb62 := Nat.ne_of_lt (Nat.lt_of_lt_of_le C_65.lt (Nat.le_of_eq g62.symm))
    have ne_r3_nb62 : r3 ≠ nb62 := Nat.ne_of_lt (Nat.lt_of_lt_of_le Cr3.lt (Nat.le_of_eq g62.symm))
    have F62_modCount : Fld Z h62 nb62 "java/util/AbstractList" "modCount" "I" (.int (0 : Int32)) := D62 (Or.inl (hw _ (List.mem_of_getElem? (i := 29) rfl))) (ty := .int) (by decide)
    have F62_elementData : Fld Z h62 nb62 "java/util/ArrayList" "elementData" "[Ljava/lang/Object;" .null := D62 (Or.inl (hw _ (List.mem_of_getElem? (i := 32) rfl))) (ty := (.array (.object "java/lang/Object"))) (by decide)
    have F62_size : Fld Z h62 nb62 "java/util/ArrayList" "size" "I" (.int (0 : Int32)) := D62 (Or.inl (hw _ (List.mem_of_getElem? (i := 82) rfl))) (ty := .int) (by decide)
    refine own_via (g' := (mkF m 26 #[.val (.int p1), .val (.int p2), .val (.int p3), .val (.int p4), .val (.int (p1 &&& (3 : Int32))), .val (.ref r1), .val (.ref r2), .val (.ref r3), .unset, .unset, .unset, .unset, .unset, .unset, .unset, .unset] [(.ref nb62)])) st62 ?_
    refine own_step (g' := (mkF m 27 #[.val (.int p1), .val (.int p2), .val (.int p3), .val (.int p4), .val (.int (p1 &&& (3 : Int32))), .val (.ref r1), .val (.ref r2), .val (.ref r3), .unset, .unset, .unset, .unset, .unset, .unset, .unset, .unset] [(.ref nb62), (.ref nb62)])) (fun _ k => XS.dup X62.here hx rfl (hb hby at_26) rfl rfl k) ?_
    have S_67 : Sta Z h62 "java/util/ArrayList" "DEFAULTCAPACITY_EMPTY_ELEMENTDATA" "[Ljava/lang/Object;" (.ref ed) := (Sta.ext Ex62 (own_sta_keep (own_sta_keep (own_sta_keep S_DC Kq53 all0) Kq57 all0) Kq61 all0))
    refine own_init X62 hx hZ (W := 1) hown e62 (rmAL l Z a0 hw [] nb62 ed h62 n0 (Nat.le_trans (Nat.le_trans (Nat.le_trans (Nat.le_trans Z0 Kq53.1) Kq57.1) Kq61.1) Ex62.1) S_67 g_nb62 A62 F62_modCount F62_elementData F62_size) rfl (hw _ (List.mem_of_getElem? (i := 10) rfl)) (hw _ (List.mem_of_getElem? (i := 11) rfl)) (hw _ (List.mem_of_getElem? (i := 12) rfl)) (hw _ (List.mem_of_getElem? (i := 9) rfl)) (by decide) (by decide) (by decide) (g := (mkF m 27 #[.val (.int p1), .val (.int p2), .val (.int p3), .val (.int p4), .val (.int (p1 &&& (3 : Int32))), .val (.ref r1), .val (.ref r2), .val (.ref r3), .unset, .unset, .unset, .unset, .unset, .unset, .unset, .unset] [(.ref nb62), (.ref nb62)])) rfl (by rw [hml]; rfl) (argsL := []) (rest := [(.ref nb62)]) rfl (lenOf pd_0 rfl) rfl (by show 2 * 0 + _ ≤ _; exact Nat.le_of_eq rfl) (hb hby at_27) (by decide) (by decide) ?_
    intro v68 T68 L68 X68 hQ68
    obtain ⟨rfl, Nq68, Kq68, Cl66, F1l66, F2l66, F3l66⟩ := hQ68
    have N68 := Fr.app N61 Nq68
    show OGo p e below _ T68 (mkF m 30 #[.val (.int p1), .val (.int p2), .val (.int p3), .val (.int p4), .val (.int (p1 &&& (3 : Int32))), .val (.ref r1), .val (.ref r2), .val (.ref r3), .unset, .unset, .unset, .unset, .unset, .unset, .unset, .unset] [(.ref nb62)])
    refine own_step (g' := (mkF m 32 #[.val (.int p1), .val (.int p2), .val (.int p3), .val (.int p4), .val (.int (p1 &&& (3 : Int32))), .val (.ref r1), .val (.ref r2), .val (.ref r3), .val (.ref nb62), .unset, .unset, .unset, .unset, .unset, .unset, .unset] [])) (fun _ k => XS.astore X68.here hx rfl (hb hby at_30) rfl rfl (l' := #[.val (.int p1), .val (.int p2), .val (.int p3), .val (.int p4), .val (.int (p1 &&& (3 : Int32))), .val (.ref r1), .val (.ref r2), .val (.ref r3), .val (.ref nb62), .unset, .unset, .unset, .unset, .unset, .unset, .unset]) rfl k) ?_
    refine own_step (g' := (mkF m 34 #[.val (.int p1), .val (.int p2), .val (.int p3), .val (.int p4), .val (.int (p1 &&& (3 : Int32))), .val (.ref r1), .val (.ref r2), .val (.ref r3), .val (.ref nb62), .unset, .unset, .unset, .unset, .unset, .unset, .unset] [(.int (p1 &&& (3 : Int32)))])) (fun _ k => XS.iload X68.here hx rfl (hb hby at_32) rfl k) ?_
    refine own_step (g' := (mkF m 35 #[.val (.int p1), .val (.int p2), .val (.int p3), .val (.int p4), .val (.int (p1 &&& (3 : Int32))), .val (.ref r1), .val (.ref r2), .val (.ref r3), .val (.ref nb62), .unset, .unset, .unset, .unset, .unset, .unset, .unset] [(.int (1 : Int32)), (.int (p1 &&& (3 : Int32)))])) (fun _ k => XS.iconst X68.here hx rfl (hb hby at_34) k) ?_
    refine own_step (g' := (mkF m 38 #[.val (.int p1), .val (.int p2), .val (.int p3), .val (.int p4), .val (.int (p1 &&& (3 : Int32))), .val (.ref r1), .val (.ref r2), .val (.ref r3), .val (.ref nb62), .unset, .unset, .unset, .unset, .unset, .unset, .unset] [])) (fun _ k => XS.icmpNo X68.here hx rfl (hb hby at_35) rfl (flt (by rw [hq] <;> decide : ¬ ((p1 &&& (3 : Int32)) < (1 : Int32)))).1 k) ?_
    refine own_step (g' := (mkF m 40 #[.val (.int p1), .val (.int p2), .val (.int p3), .val (.int p4), .val (.int (p1 &&& (3 : Int32))), .val (.ref r1), .val (.ref r2), .val (.ref r3), .val (.ref nb62), .unset, .unset, .unset, .unset, .unset, .unset, .unset] [(.ref nb62)])) (fun _ k => XS.aload X68.here hx rfl (hb hby at_38) rfl rfl k) ?_
    refine own_step (g' := (mkF m 42 #[.val (.int p1), .val (.int p2), .val (.int p3), .val (.int p4), .val (.int (p1 &&& (3 : Int32))), .val (.ref r1), .val (.ref r2), .val (.ref r3), .val (.ref nb62), .unset, .unset, .unset, .unset, .unset, .unset, .unset] [(.ref r1), (.ref nb62)])) (fun _ k => XS.aload X68.here hx rfl (hb hby at_40) rfl rfl k) ?_
    have V_70 : Arv Z T68.heap ed kd (.object "java/lang/Object") (0 : Int32) [] .null := ((V_63.ext Ex62).keep Kq68 (ninS ne_ed_nb62 nin0))
    have C_71 : Exa Z T68.heap r1 "java/lang/Integer" := ((Exa.ext Ex62 C_64).keep Kq68)
    have C_72 : Exa Z T68.heap r2 "java/lang/Integer" := ((Exa.ext Ex62 C_65).keep Kq68)
    have C_73 : Exa Z T68.heap r3 "java/lang/Integer" := ((Exa.ext Ex62 Cr3).keep Kq68)
    have S_74 : Sta Z T68.heap "java/util/ArrayList" "DEFAULTCAPACITY_EMPTY_ELEMENTDATA" "[Ljava/lang/Object;" (.ref ed) := (own_sta_keep S_67 Kq68 (allS (own_nsE A62) all0))
    refine own_callV X68 hx hZ (W := 0) hown rfl (rmAdd0 l Z a0 hw [] nb62 r1 ed kd (0 : Int32) T68.heap n0 (Nat.le_trans (Nat.le_trans (Nat.le_trans (Nat.le_trans (Nat.le_trans Z0 Kq53.1) Kq57.1) Kq61.1) Ex62.1) Kq68.1) S_74 V_70 g_nb62 Cl66 F1l66 F2l66 F3l66 C_71) Cl66 (hw _ (List.mem_of_getElem? (i := 108) rfl)) (hw _ (List.mem_of_getElem? (i := 109) rfl)) (notFace_of_selects (args := #[]) (mvT hZ (hw _ (List.mem_of_getElem? (i := 111) rfl)))) (hw _ (List.mem_of_getElem? (i := 111) rfl)) (hw _ (List.mem_of_getElem? (i := 110) rfl)) (hw _ (List.mem_of_getElem? (i := 112) rfl)) (hw _ (List.mem_of_getElem? (i := 9) rfl)) (by decide) (by decide) (by decide) (g := (mkF m 42 #[.val (.int p1), .val (.int p2), .val (.int p3), .val (.int p4), .val (.int (p1 &&& (3 : Int32))), .val (.ref r1), .val (.ref r2), .val (.ref r3), .val (.ref nb62), .unset, .unset, .unset, .unset, .unset, .unset, .unset] [(.ref r1), (.ref nb62)])) rfl (by rw [hml]; rfl) (argsL := [(.ref r1)]) (rest := []) rfl (lenOf pd_14 rfl) rfl (by show 2 * 0 + _ ≤ _; exact Nat.le_of_eq rfl) (hb hby at_42) (by decide) (by decide) ?_
    intro v75 T75 L75 X75 hQ75
    obtain ⟨⟨ar, kq69, rfl, szar, g_ar, Oq69, Vq69, Cq69, F1q69, F2q69, F3q69⟩, Nq75, Kq75⟩ := hQ75
    have N75 := Fr.app N68 Nq75
    show OGo p e below _ T75 (mkF m 45 #[.val (.int p1), .val (.int p2), .val (.int p3), .val (.int p4), .val (.int (p1 &&& (3 : Int32))), .val (.ref r1), .val (.ref r2), .val (.ref r3), .val (.ref nb62), .unset, .unset, .unset, .unset, .unset, .unset, .unset] [(.int (1 : Int32))])
    have ne_ed_ar : ed ≠ ar := Nat.ne_of_lt (Nat.lt_of_lt_of_le V_70.lt szar)
    have ne_r1_ar : r1 ≠ ar := Nat.ne_of_lt (Nat.lt_of_lt_of_le C_71.lt szar)
    have ne_r2_ar : r2 ≠ ar := Nat.ne_of_lt (Nat.lt_of_lt_of_le C_72.lt szar)
    have ne_r3_ar : r3 ≠ ar := Nat.ne_of_lt (Nat.lt_of_lt_of_le C_73.lt szar)
    have ne_l_ar : nb62 ≠ ar := Exa.neArv Cq69 Vq69 (hw _ (List.mem_of_getElem? (i := 8) rfl))
    refine own_step (g' := (mkF m 46 #[.val (.int p1), .val (.int p2), .val (.int p3), .val (.int p4), .val (.int (p1 &&& (3 : Int32))), .val (.ref r1), .val (.ref r2), .val (.ref r3), .val (.ref nb62), .unset, .unset, .unset, .unset, .unset, .unset, .unset] [])) (fun _ k => XS.pop X75.here hx rfl (hb hby at_45) rfl rfl k) ?_
    refine own_step (g' := (mkF m 48 #[.val (.int p1), .val (.int p2), .val (.int p3), .val (.int p4), .val (.int (p1 &&& (3 : Int32))), .val (.ref r1), .val (.ref r2), .val (.ref r3), .val (.ref nb62), .unset, .unset, .unset, .unset, .unset, .unset, .unset] [(.int (p1 &&& (3 : Int32)))])) (fun _ k => XS.iload X75.here hx rfl (hb hby at_46) rfl k) ?_
    refine own_step (g' := (mkF m 49 #[.val (.int p1), .val (.int p2), .val (.int p3), .val (.int p4), .val (.int (p1 &&& (3 : Int32))), .val (.ref r1), .val (.ref r2), .val (.ref r3), .val (.ref nb62), .unset, .unset, .unset, .unset, .unset, .unset, .unset] [(.int (2 : Int32)), (.int (p1 &&& (3 : Int32)))])) (fun _ k => XS.iconst X75.here hx rfl (hb hby at_48) k) ?_
    refine own_step (g' := (mkF m 60 #[.val (.int p1), .val (.int p2), .val (.int p3), .val (.int p4), .val (.int (p1 &&& (3 : Int32))), .val (.ref r1), .val (.ref r2), .val (.ref r3), .val (.ref nb62), .unset, .unset, .unset, .unset, .unset, .unset, .unset] [])) (fun _ k => XS.icmpYes X75.here hx rfl (pc0 := 49) (pc' := 60) rfl (hb hby at_49) rfl (tlt (by rw [hq] <;> decide : (p1 &&& (3 : Int32)) < (2 : Int32))).1 (by decide) (by decide) k) ?_
    refine own_step (g' := (mkF m 62 #[.val (.int p1), .val (.int p2), .val (.int p3), .val (.int p4), .val (.int (p1 &&& (3 : Int32))), .val (.ref r1), .val (.ref r2), .val (.ref r3), .val (.ref nb62), .unset, .unset, .unset, .unset, .unset, .unset, .unset] [(.int (p1 &&& (3 : Int32)))])) (fun _ k => XS.iload X75.here hx rfl (hb hby at_60) rfl k) ?_
    refine own_step (g' := (mkF m 63 #[.val (.int p1), .val (.int p2), .val (.int p3), .val (.int p4), .val (.int (p1 &&& (3 : Int32))), .val (.ref r1), .val (.ref r2), .val (.ref r3), .val (.ref nb62), .unset, .unset, .unset, .unset, .unset, .unset, .unset] [(.int (3 : Int32)), (.int (p1 &&& (3 : Int32)))])) (fun _ k => XS.iconst X75.here hx rfl (hb hby at_62) k) ?_
    refine own_step (g' := (mkF m 74 #[.val (.int p1), .val (.int p2), .val (.int p3), .val (.int p4), .val (.int (p1 &&& (3 : Int32))), .val (.ref r1), .val (.ref r2), .val (.ref r3), .val (.ref nb62), .unset, .unset, .unset, .unset, .unset, .unset, .unset] [])) (fun _ k => XS.icmpYes X75.here hx rfl (pc0 := 63) (pc' := 74) rfl (hb hby at_63) rfl (tlt (by rw [hq] <;> decide : (p1 &&& (3 : Int32)) < (3 : Int32))).1 (by decide) (by decide) k) ?_
    refine own_step (g' := (mkF m 76 #[.val (.int p1), .val (.int p2), .val (.int p3), .val (.int p4), .val (.int (p1 &&& (3 : Int32))), .val (.ref r1), .val (.ref r2), .val (.ref r3), .val (.ref nb62), .unset, .unset, .unset, .unset, .unset, .unset, .unset] [(.ref nb62)])) (fun _ k => XS.aload X75.here hx rfl (hb hby at_74) rfl rfl k) ?_
    have V_76 : Arv Z T75.heap ed kd (.object "java/lang/Object") (0 : Int32) [] .null := (V_70.keep Kq75 (ninS ne_ed_nb62 nin0))
    have C_77 : Exa Z T75.heap r1 "java/lang/Integer" := (C_71.keep Kq75)
    have C_78 : Exa Z T75.heap r2 "java/lang/Integer" := (C_72.keep Kq75)
    have C_79 : Exa Z T75.heap r3 "java/lang/Integer" := (C_73.keep Kq75)
    refine own_callS X75 hx hZ (W := 0) hown rfl (rmOver l Z a0 hw [] nb62 (1 : Int32) cK T75.heap n0 (Nat.le_trans (Nat.le_trans (Nat.le_trans (Nat.le_trans (Nat.le_trans (Nat.le_trans Z0 Kq53.1) Kq57.1) Kq61.1) Ex62.1) Kq68.1) Kq75.1) HL HS Cq69 F1q69) (hw _ (List.mem_of_getElem? (i := 33) rfl)) (hw _ (List.mem_of_getElem? (i := 34) rfl)) (hw _ (List.mem_of_getElem? (i := 35) rfl)) (hw _ (List.mem_of_getElem? (i := 36) rfl)) (by decide) (by decide) (by decide) (g := (mkF m 76 #[.val (.int p1), .val (.int p2), .val (.int p3), .val (.int p4), .val (.int (p1 &&& (3 : Int32))), .val (.ref r1), .val (.ref r2), .val (.ref r3), .val (.ref nb62), .unset, .unset, .unset, .unset, .unset, .unset, .unset] [(.ref nb62)])) rfl (by rw [hml]; rfl) (argsL := [(.ref nb62)]) (rest := []) rfl (lenOf pd_11 rfl) rfl (by show 2 * 0 + _ ≤ _; exact Nat.le_of_eq rfl) (hb hby at_76) (by decide) (by decide) ?_
    intro v81 T81 L81 X81 hQ81
    obtain ⟨⟨lf, it, rfl, szl, szi, g_it, ne_it_lf, Llf, Ci, I1, I2, I3, I4⟩, Nq81, Kq81⟩ := hQ81
    have N81 := Fr.app N75 Nq81
    show OGo p e below _ T81 (mkF m 79 #[.val (.int p1), .val (.int p2), .val (.int p3), .val (.int p4), .val (.int (p1 &&& (3 : Int32))), .val (.ref r1), .val (.ref r2), .val (.ref r3), .val (.ref nb62), .unset, .unset, .unset, .unset, .unset, .unset, .unset] [(.ref lf)])
    have ne_ed_it : ed ≠ it := Nat.ne_of_lt (Nat.lt_of_lt_of_le V_76.lt szi)
    have ne_r1_it : r1 ≠ it := Nat.ne_of_lt (Nat.lt_of_lt_of_le C_77.lt szi)
    have ne_r2_it : r2 ≠ it := Nat.ne_of_lt (Nat.lt_of_lt_of_le C_78.lt szi)
    have ne_r3_it : r3 ≠ it := Nat.ne_of_lt (Nat.lt_of_lt_of_le C_79.lt szi)
    have ne_nb62_it : nb62 ≠ it := Nat.ne_of_lt (Nat.lt_of_lt_of_le Cq69.lt szi)
    have ne_ar_it : ar ≠ it := Nat.ne_of_lt (Nat.lt_of_lt_of_le Vq69.lt szi)
    refine own_step (g' := (mkF m 81 #[.val (.int p1), .val (.int p2), .val (.int p3), .val (.int p4), .val (.int (p1 &&& (3 : Int32))), .val (.ref r1), .val (.ref r2), .val (.ref r3), .val (.ref nb62), .val (.ref lf), .unset, .unset, .unset, .unset, .unset, .unset] [])) (fun _ k => XS.astore X81.here hx rfl (hb hby at_79) rfl rfl (l' := #[.val (.int p1), .val (.int p2), .val (.int p3), .val (.int p4), .val (.int (p1 &&& (3 : Int32))), .val (.ref r1), .val (.ref r2), .val (.ref r3), .val (.ref nb62), .val (.ref lf), .unset, .unset, .unset, .unset, .unset, .unset]) rfl k) ?_
    refine own_step (g' := (mkF m 83 #[.val (.int p1), .val (.int p2), .val (.int p3), .val (.int p4), .val (.int (p1 &&& (3 : Int32))), .val (.ref r1), .val (.ref r2), .val (.ref r3), .val (.ref nb62), .val (.ref lf), .unset, .unset, .unset, .unset, .unset, .unset] [(.ref lf)])) (fun _ k => XS.aload X81.here hx rfl (hb hby at_81) rfl rfl k) ?_
    have C_83 : Exa Z T81.heap nb62 "java/util/ArrayList" := (Cq69.keep Kq81)
    have F_84 : Fld Z T81.heap nb62 "java/util/AbstractList" "modCount" "I" (.int (1 : Int32)) := (F1q69.keep Kq81 nin0)
    have F_85 : Fld Z T81.heap nb62 "java/util/ArrayList" "size" "I" (.int (1 : Int32)) := (F3q69.keep Kq81 nin0)
    have F_86 : Fld Z T81.heap nb62 "java/util/ArrayList" "elementData" "[Ljava/lang/Object;" (.ref ar) := (F2q69.keep Kq81 nin0)
    have V_87 : Arv Z T81.heap ar kq69 (.object "java/lang/Object") (10 : Int32) [(.ref r1), .null, .null, .null, .null, .null, .null, .null, .null, .null] .null := (Vq69.keep Kq81 nin0)
    refine own_fwd X81 hx hZ (W := 0) hown rfl HL Llf (rmLam1_0 l Z a0 hw [] it nb62 ar r1 kq69 T81.heap n0 (Nat.le_trans (Nat.le_trans (Nat.le_trans (Nat.le_trans (Nat.le_trans (Nat.le_trans (Nat.le_trans Z0 Kq53.1) Kq57.1) Kq61.1) Ex62.1) Kq68.1) Kq75.1) Kq81.1) Ci I1 I2 I3 I4 C_83 F_84 F_85 g_it F_86 V_87) (fun v h L q => ⟨_, q.1, rfl⟩) (hw _ (List.mem_of_getElem? (i := 65) rfl)) (hw _ (List.mem_of_getElem? (i := 66) rfl)) (hw _ (List.mem_of_getElem? (i := 67) rfl)) (hw _ (List.mem_of_getElem? (i := 69) rfl)) (hw _ (List.mem_of_getElem? (i := 35) rfl)) (hw _ (List.mem_of_getElem? (i := 68) rfl)) (by decide) (by decide) (g := (mkF m 83 #[.val (.int p1), .val (.int p2), .val (.int p3), .val (.int p4), .val (.int (p1 &&& (3 : Int32))), .val (.ref r1), .val (.ref r2), .val (.ref r3), .val (.ref nb62), .val (.ref lf), .unset, .unset, .unset, .unset, .unset, .unset] [(.ref lf)])) rfl (by rw [hml]; rfl) (rest := []) rfl (by show 2 * 0 + _ ≤ _; exact Nat.le_of_eq rfl) (hb hby at_83) (by decide) (by decide) ?_
    intro v82 T82 L82 X82 hQ82
    obtain ⟨rfl, Nq82, Kq82, Ci82, Fi82_0, Fi82_1, Fi82_2, Fi82_3⟩ := hQ82
    have N82 := Fr.app N81 Nq82
    show OGo p e below _ T82 (mkF m 88 #[.val (.int p1), .val (.int p2), .val (.int p3), .val (.int p4), .val (.int (p1 &&& (3 : Int32))), .val (.ref r1), .val (.ref r2), .val (.ref r3), .val (.ref nb62), .val (.ref lf), .unset, .unset, .unset, .unset, .unset, .unset] [(.ref r1)])
    have C_88 : Exa Z T82.heap r1 "java/lang/Integer" := ((C_77.keep Kq81).keep Kq82)
    obtain ⟨T89, X89, e89, st89⟩ := castY X82 hx hZ hown (hw _ (List.mem_of_getElem? (i := 150) rfl)) rfl (Ins.self C_88) (g := (mkF m 88 #[.val (.int p1), .val (.int p2), .val (.int p3), .val (.int p4), .val (.int (p1 &&& (3 : Int32))), .val (.ref r1), .val (.ref r2), .val (.ref r3), .val (.ref nb62), .val (.ref lf), .unset, .unset, .unset, .unset, .unset, .unset] [(.ref r1)])) rfl rfl (hb hby at_88)
    refine own_via (g' := (mkF m 91 #[.val (.int p1), .val (.int p2), .val (.int p3), .val (.int p4), .val (.int (p1 &&& (3 : Int32))), .val (.ref r1), .val (.ref r2), .val (.ref r3), .val (.ref nb62), .val (.ref lf), .unset, .unset, .unset, .unset, .unset, .unset] [(.ref r1)])) st89 ?_
    refine own_step (g' := (mkF m 93 #[.val (.int p1), .val (.int p2), .val (.int p3), .val (.int p4), .val (.int (p1 &&& (3 : Int32))), .val (.ref r1), .val (.ref r2), .val (.ref r3), .val (.ref nb62), .val (.ref lf), .val (.ref r1), .unset, .unset, .unset, .unset, .unset] [])) (fun _ k => XS.astore X89.here hx rfl (hb hby at_91) rfl rfl (l' := #[.val (.int p1), .val (.int p2), .val (.int p3), .val (.int p4), .val (.int (p1 &&& (3 : Int32))), .val (.ref r1), .val (.ref r2), .val (.ref r3), .val (.ref nb62), .val (.ref lf), .val (.ref r1), .unset, .unset, .unset, .unset, .unset]) rfl k) ?_
    refine own_step (g' := (mkF m 95 #[.val (.int p1), .val (.int p2), .val (.int p3), .val (.int p4), .val (.int (p1 &&& (3 : Int32))), .val (.ref r1), .val (.ref r2), .val (.ref r3), .val (.ref nb62), .val (.ref lf), .val (.ref r1), .unset, .unset, .unset, .unset, .unset] [(.ref lf)])) (fun _ k => XS.aload X89.here hx rfl (hb hby at_93) rfl rfl k) ?_
    have C_91 : Exa Z T82.heap nb62 "java/util/ArrayList" := (C_83.keep Kq82)
    have F_92 : Fld Z T82.heap nb62 "java/util/AbstractList" "modCount" "I" (.int (1 : Int32)) := (F_84.keep Kq82 (ninS ne_nb62_it nin0))
    have F_93 : Fld Z T82.heap nb62 "java/util/ArrayList" "size" "I" (.int (1 : Int32)) := (F_85.keep Kq82 (ninS ne_nb62_it nin0))
    have L_94 : T82.heap[lf]? = some (own_lam cK it) := (Kq82.2.1 _ _ Llf (ninS (Ne.symm ne_it_lf) nin0))
    refine own_fwd X89 hx hZ (W := 0) hown e89 HL L_94 (rmLam1_1 l Z a0 hw [] it nb62 T82.heap n0 (Nat.le_trans (Nat.le_trans (Nat.le_trans (Nat.le_trans (Nat.le_trans (Nat.le_trans (Nat.le_trans (Nat.le_trans Z0 Kq53.1) Kq57.1) Kq61.1) Ex62.1) Kq68.1) Kq75.1) Kq81.1) Kq82.1) Ci82 Fi82_0 Fi82_1 Fi82_2 Fi82_3 C_91 F_92 F_93) (fun v h L q => ⟨_, q.1, rfl⟩) (hw _ (List.mem_of_getElem? (i := 65) rfl)) (hw _ (List.mem_of_getElem? (i := 66) rfl)) (hw _ (List.mem_of_getElem? (i := 67) rfl)) (hw _ (List.mem_of_getElem? (i := 69) rfl)) (hw _ (List.mem_of_getElem? (i := 35) rfl)) (hw _ (List.mem_of_getElem? (i := 68) rfl)) (by decide) (by decide) (g := (mkF m 95 #[.val (.int p1), .val (.int p2), .val (.int p3), .val (.int p4), .val (.int (p1 &&& (3 : Int32))), .val (.ref r1), .val (.ref r2), .val (.ref r3), .val (.ref nb62), .val (.ref lf), .val (.ref r1), .unset, .unset, .unset, .unset, .unset] [(.ref lf)])) rfl (by rw [hml]; rfl) (rest := []) rfl (by show 2 * 0 + _ ≤ _; exact Nat.le_of_eq rfl) (hb hby at_95) (by decide) (by decide) ?_
    intro v90 T90 L90 X90 hQ90
    obtain ⟨rfl, Nq90, Kq90, Ci90, Fi90_0, Fi90_1, Fi90_2, Fi90_3⟩ := hQ90
    have N90 := Fr.app N82 Nq90
    show OGo p e below _ T90 (mkF m 100 #[.val (.int p1), .val (.int p2), .val (.int p3), .val (.int p4), .val (.int (p1 &&& (3 : Int32))), .val (.ref r1), .val (.ref r2), .val (.ref r3), .val (.ref nb62), .val (.ref lf), .val (.ref r1), .unset, .unset, .unset, .unset, .unset] [.null])
    refine own_step (g' := (mkF m 103 #[.val (.int p1), .val (.int p2), .val (.int p3), .val (.int p4), .val (.int (p1 &&& (3 : Int32))), .val (.ref r1), .val (.ref r2), .val (.ref r3), .val (.ref nb62), .val (.ref lf), .val (.ref r1), .unset, .unset, .unset, .unset, .unset] [.null])) (X90.checkcastNull hx (g := (mkF m 100 #[.val (.int p1), .val (.int p2), .val (.int p3), .val (.int p4), .val (.int (p1 &&& (3 : Int32))), .val (.ref r1), .val (.ref r2), .val (.ref r3), .val (.ref nb62), .val (.ref lf), .val (.ref r1), .unset, .unset, .unset, .unset, .unset] [.null])) rfl rfl (hb hby at_100)) ?_
    refine own_step (g' := (mkF m 105 #[.val (.int p1), .val (.int p2), .val (.int p3), .val (.int p4), .val (.int (p1 &&& (3 : Int32))), .val (.ref r1), .val (.ref r2), .val (.ref r3), .val (.ref nb62), .val (.ref lf), .val (.ref r1), .val .null, .unset, .unset, .unset, .unset] [])) (fun _ k => XS.astore X90.here hx rfl (hb hby at_103) rfl rfl (l' := #[.val (.int p1), .val (.int p2), .val (.int p3), .val (.int p4), .val (.int (p1 &&& (3 : Int32))), .val (.ref r1), .val (.ref r2), .val (.ref r3), .val (.ref nb62), .val (.ref lf), .val (.ref r1), .val .null, .unset, .unset, .unset, .unset]) rfl k) ?_
    refine own_step (g' := (mkF m 107 #[.val (.int p1), .val (.int p2), .val (.int p3), .val (.int p4), .val (.int (p1 &&& (3 : Int32))), .val (.ref r1), .val (.ref r2), .val (.ref r3), .val (.ref nb62), .val (.ref lf), .val (.ref r1), .val .null, .unset, .unset, .unset, .unset] [(.ref lf)])) (fun _ k => XS.aload X90.here hx rfl (hb hby at_105) rfl rfl k) ?_
    have C_96 : Exa Z T90.heap nb62 "java/util/ArrayList" := (C_91.keep Kq90)
    have F_97 : Fld Z T90.heap nb62 "java/util/AbstractList" "modCount" "I" (.int (1 : Int32)) := (F_92.keep Kq90 (ninS ne_nb62_it nin0))
    have F_98 : Fld Z T90.heap nb62 "java/util/ArrayList" "size" "I" (.int (1 : Int32)) := (F_93.keep Kq90 (ninS ne_nb62_it nin0))
    have L_99 : T90.heap[lf]? = some (own_lam cK it) := (Kq90.2.1 _ _ L_94 (ninS (Ne.symm ne_it_lf) nin0))
    refine own_fwd X90 hx hZ (W := 0) hown rfl HL L_99 (rmLam1_1 l Z a0 hw [] it nb62 T90.heap n0 (Nat.le_trans (Nat.le_trans (Nat.le_trans (Nat.le_trans (Nat.le_trans (Nat.le_trans (Nat.le_trans (Nat.le_trans (Nat.le_trans Z0 Kq53.1) Kq57.1) Kq61.1) Ex62.1) Kq68.1) Kq75.1) Kq81.1) Kq82.1) Kq90.1) Ci90 Fi90_0 Fi90_1 Fi90_2 Fi90_3 C_96 F_97 F_98) (fun v h L q => ⟨_, q.1, rfl⟩) (hw _ (List.mem_of_getElem? (i := 65) rfl)) (hw _ (List.mem_of_getElem? (i := 66) rfl)) (hw _ (List.mem_of_getElem? (i := 67) rfl)) (hw _ (List.mem_of_getElem? (i := 69) rfl)) (hw _ (List.mem_of_getElem? (i := 35) rfl)) (hw _ (List.mem_of_getElem? (i := 68) rfl)) (by decide) (by decide) (g := (mkF m 107 #[.val (.int p1), .val (.int p2), .val (.int p3), .val (.int p4), .val (.int (p1 &&& (3 : Int32))), .val (.ref r1), .val (.ref r2), .val (.ref r3), .val (.ref nb62), .val (.ref lf), .val (.ref r1), .val .null, .unset, .unset, .unset, .unset] [(.ref lf)])) rfl (by rw [hml]; rfl) (rest := []) rfl (by show 2 * 0 + _ ≤ _; exact Nat.le_of_eq rfl) (hb hby at_107) (by decide) (by decide) ?_
    intro v95 T95 L95 X95 hQ95
    obtain ⟨rfl, Nq95, Kq95, Ci95, Fi95_0, Fi95_1, Fi95_2, Fi95_3⟩ := hQ95
    have N95 := Fr.app N90 Nq95
    show OGo p e below _ T95 (mkF m 112 #[.val (.int p1), .val (.int p2), .val (.int p3), .val (.int p4), .val (.int (p1 &&& (3 : Int32))), .val (.ref r1), .val (.ref r2), .val (.ref r3), .val (.ref nb62), .val (.ref lf), .val (.ref r1), .val .null, .unset, .unset, .unset, .unset] [.null])
    refine own_step (g' := (mkF m 115 #[.val (.int p1), .val (.int p2), .val (.int p3), .val (.int p4), .val (.int (p1 &&& (3 : Int32))), .val (.ref r1), .val (.ref r2), .val (.ref r3), .val (.ref nb62), .val (.ref lf), .val (.ref r1), .val .null, .unset, .unset, .unset, .unset] [.null])) (X95.checkcastNull hx (g := (mkF m 112 #[.val (.int p1), .val (.int p2), .val (.int p3), .val (.int p4), .val (.int (p1 &&& (3 : Int32))), .val (.ref r1), .val (.ref r2), .val (.ref r3), .val (.ref nb62), .val (.ref lf), .val (.ref r1), .val .null, .unset, .unset, .unset, .unset] [.null])) rfl rfl (hb hby at_112)) ?_
    refine own_step (g' := (mkF m 117 #[.val (.int p1), .val (.int p2), .val (.int p3), .val (.int p4), .val (.int (p1 &&& (3 : Int32))), .val (.ref r1), .val (.ref r2), .val (.ref r3), .val (.ref nb62), .val (.ref lf), .val (.ref r1), .val .null, .val .null, .unset, .unset, .unset] [])) (fun _ k => XS.astore X95.here hx rfl (hb hby at_115) rfl rfl (l' := #[.val (.int p1), .val (.int p2), .val (.int p3), .val (.int p4), .val (.int (p1 &&& (3 : Int32))), .val (.ref r1), .val (.ref r2), .val (.ref r3), .val (.ref nb62), .val (.ref lf), .val (.ref r1), .val .null, .val .null, .unset, .unset, .unset]) rfl k) ?_
    refine own_step (g' := (mkF m 119 #[.val (.int p1), .val (.int p2), .val (.int p3), .val (.int p4), .val (.int (p1 &&& (3 : Int32))), .val (.ref r1), .val (.ref r2), .val (.ref r3), .val (.ref nb62), .val (.ref lf), .val (.ref r1), .val .null, .val .null, .unset, .unset, .unset] [(.ref lf)])) (fun _ k => XS.aload X95.here hx rfl (hb hby at_117) rfl rfl k) ?_
    have C_101 : Exa Z T95.heap nb62 "java/util/ArrayList" := (C_96.keep Kq95)
    have F_102 : Fld Z T95.heap nb62 "java/util/AbstractList" "modCount" "I" (.int (1 : Int32)) := (F_97.keep Kq95 (ninS ne_nb62_it nin0))
    have F_103 : Fld Z T95.heap nb62 "java/util/ArrayList" "size" "I" (.int (1 : Int32)) := (F_98.keep Kq95 (ninS ne_nb62_it nin0))
    have L_104 : T95.heap[lf]? = some (own_lam cK it) := (Kq95.2.1 _ _ L_99 (ninS (Ne.symm ne_it_lf) nin0))
    refine own_fwd X95 hx hZ (W := 0) hown rfl HL L_104 (rmLam1_1 l Z a0 hw [] it nb62 T95.heap n0 (Nat.le_trans (Nat.le_trans (Nat.le_trans (Nat.le_trans (Nat.le_trans (Nat.le_trans (Nat.le_trans (Nat.le_trans (Nat.le_trans (Nat.le_trans Z0 Kq53.1) Kq57.1) Kq61.1) Ex62.1) Kq68.1) Kq75.1) Kq81.1) Kq82.1) Kq90.1) Kq95.1) Ci95 Fi95_0 Fi95_1 Fi95_2 Fi95_3 C_101 F_102 F_103) (fun v h L q => ⟨_, q.1, rfl⟩) (hw _ (List.mem_of_getElem? (i := 65) rfl)) (hw _ (List.mem_of_getElem? (i := 66) rfl)) (hw _ (List.mem_of_getElem? (i := 67) rfl)) (hw _ (List.mem_of_getElem? (i := 69) rfl)) (hw _ (List.mem_of_getElem? (i := 35) rfl)) (hw _ (List.mem_of_getElem? (i := 68) rfl)) (by decide) (by decide) (g := (mkF m 119 #[.val (.int p1), .val (.int p2), .val (.int p3), .val (.int p4), .val (.int (p1 &&& (3 : Int32))), .val (.ref r1), .val (.ref r2), .val (.ref r3), .val (.ref nb62), .val (.ref lf), .val (.ref r1), .val .null, .val .null, .unset, .unset, .unset] [(.ref lf)])) rfl (by rw [hml]; rfl) (rest := []) rfl (by show 2 * 0 + _ ≤ _; exact Nat.le_of_eq rfl) (hb hby at_119) (by decide) (by decide) ?_
    intro v100 T100 L100 X100 hQ100
    obtain ⟨rfl, Nq100, Kq100, Ci100, Fi100_0, Fi100_1, Fi100_2, Fi100_3⟩ := hQ100
    have N100 := Fr.app N95 Nq100
    show OGo p e below _ T100 (mkF m 124 #[.val (.int p1), .val (.int p2), .val (.int p3), .val (.int p4), .val (.int (p1 &&& (3 : Int32))), .val (.ref r1), .val (.ref r2), .val (.ref r3), .val (.ref nb62), .val (.ref lf), .val (.ref r1), .val .null, .val .null, .unset, .unset, .unset] [.null])
    refine own_step (g' := (mkF m 127 #[.val (.int p1), .val (.int p2), .val (.int p3), .val (.int p4), .val (.int (p1 &&& (3 : Int32))), .val (.ref r1), .val (.ref r2), .val (.ref r3), .val (.ref nb62), .val (.ref lf), .val (.ref r1), .val .null, .val .null, .unset, .unset, .unset] [.null])) (X100.checkcastNull hx (g := (mkF m 124 #[.val (.int p1), .val (.int p2), .val (.int p3), .val (.int p4), .val (.int (p1 &&& (3 : Int32))), .val (.ref r1), .val (.ref r2), .val (.ref r3), .val (.ref nb62), .val (.ref lf), .val (.ref r1), .val .null, .val .null, .unset, .unset, .unset] [.null])) rfl rfl (hb hby at_124)) ?_
    refine own_step (g' := (mkF m 129 #[.val (.int p1), .val (.int p2), .val (.int p3), .val (.int p4), .val (.int (p1 &&& (3 : Int32))), .val (.ref r1), .val (.ref r2), .val (.ref r3), .val (.ref nb62), .val (.ref lf), .val (.ref r1), .val .null, .val .null, .val .null, .unset, .unset] [])) (fun _ k => XS.astore X100.here hx rfl (hb hby at_127) rfl rfl (l' := #[.val (.int p1), .val (.int p2), .val (.int p3), .val (.int p4), .val (.int (p1 &&& (3 : Int32))), .val (.ref r1), .val (.ref r2), .val (.ref r3), .val (.ref nb62), .val (.ref lf), .val (.ref r1), .val .null, .val .null, .val .null, .unset, .unset]) rfl k) ?_
    refine own_step (g' := (mkF m 131 #[.val (.int p1), .val (.int p2), .val (.int p3), .val (.int p4), .val (.int (p1 &&& (3 : Int32))), .val (.ref r1), .val (.ref r2), .val (.ref r3), .val (.ref nb62), .val (.ref lf), .val (.ref r1), .val .null, .val .null, .val .null, .unset, .unset] [(.ref lf)])) (fun _ k => XS.aload X100.here hx rfl (hb hby at_129) rfl rfl k) ?_
    have C_106 : Exa Z T100.heap nb62 "java/util/ArrayList" := (C_101.keep Kq100)
    have F_107 : Fld Z T100.heap nb62 "java/util/AbstractList" "modCount" "I" (.int (1 : Int32)) := (F_102.keep Kq100 (ninS ne_nb62_it nin0))
    have F_108 : Fld Z T100.heap nb62 "java/util/ArrayList" "size" "I" (.int (1 : Int32)) := (F_103.keep Kq100 (ninS ne_nb62_it nin0))
    have L_109 : T100.heap[lf]? = some (own_lam cK it) := (Kq100.2.1 _ _ L_104 (ninS (Ne.symm ne_it_lf) nin0))
    refine own_fwd X100 hx hZ (W := 0) hown rfl HL L_109 (rmLam1_1 l Z a0 hw [] it nb62 T100.heap n0 (Nat.le_trans (Nat.le_trans (Nat.le_trans (Nat.le_trans (Nat.le_trans (Nat.le_trans (Nat.le_trans (Nat.le_trans (Nat.le_trans (Nat.le_trans (Nat.le_trans Z0 Kq53.1) Kq57.1) Kq61.1) Ex62.1) Kq68.1) Kq75.1) Kq81.1) Kq82.1) Kq90.1) Kq95.1) Kq100.1) Ci100 Fi100_0 Fi100_1 Fi100_2 Fi100_3 C_106 F_107 F_108) (fun v h L q => ⟨_, q.1, rfl⟩) (hw _ (List.mem_of_getElem? (i := 65) rfl)) (hw _ (List.mem_of_getElem? (i := 66) rfl)) (hw _ (List.mem_of_getElem? (i := 67) rfl)) (hw _ (List.mem_of_getElem? (i := 69) rfl)) (hw _ (List.mem_of_getElem? (i := 35) rfl)) (hw _ (List.mem_of_getElem? (i := 68) rfl)) (by decide) (by decide) (g := (mkF m 131 #[.val (.int p1), .val (.int p2), .val (.int p3), .val (.int p4), .val (.int (p1 &&& (3 : Int32))), .val (.ref r1), .val (.ref r2), .val (.ref r3), .val (.ref nb62), .val (.ref lf), .val (.ref r1), .val .null, .val .null, .val .null, .unset, .unset] [(.ref lf)])) rfl (by rw [hml]; rfl) (rest := []) rfl (by show 2 * 0 + _ ≤ _; exact Nat.le_of_eq rfl) (hb hby at_131) (by decide) (by decide) ?_
    intro v105 T105 L105 X105 hQ105
    obtain ⟨rfl, Nq105, Kq105, Ci105, Fi105_0, Fi105_1, Fi105_2, Fi105_3⟩ := hQ105
    have N105 := Fr.app N100 Nq105
    show OGo p e below _ T105 (mkF m 136 #[.val (.int p1), .val (.int p2), .val (.int p3), .val (.int p4), .val (.int (p1 &&& (3 : Int32))), .val (.ref r1), .val (.ref r2), .val (.ref r3), .val (.ref nb62), .val (.ref lf), .val (.ref r1), .val .null, .val .null, .val .null, .unset, .unset] [.null])
    refine own_step (g' := (mkF m 139 #[.val (.int p1), .val (.int p2), .val (.int p3), .val (.int p4), .val (.int (p1 &&& (3 : Int32))), .val (.ref r1), .val (.ref r2), .val (.ref r3), .val (.ref nb62), .val (.ref lf), .val (.ref r1), .val .null, .val .null, .val .null, .unset, .unset] [.null])) (X105.checkcastNull hx (g := (mkF m 136 #[.val (.int p1), .val (.int p2), .val (.int p3), .val (.int p4), .val (.int (p1 &&& (3 : Int32))), .val (.ref r1), .val (.ref r2), .val (.ref r3), .val (.ref nb62), .val (.ref lf), .val (.ref r1), .val .null, .val .null, .val .null, .unset, .unset] [.null])) rfl rfl (hb hby at_136)) ?_
    refine own_step (g' := (mkF m 141 #[.val (.int p1), .val (.int p2), .val (.int p3), .val (.int p4), .val (.int (p1 &&& (3 : Int32))), .val (.ref r1), .val (.ref r2), .val (.ref r3), .val (.ref nb62), .val (.ref lf), .val (.ref r1), .val .null, .val .null, .val .null, .val .null, .unset] [])) (fun _ k => XS.astore X105.here hx rfl (hb hby at_139) rfl rfl (l' := #[.val (.int p1), .val (.int p2), .val (.int p3), .val (.int p4), .val (.int (p1 &&& (3 : Int32))), .val (.ref r1), .val (.ref r2), .val (.ref r3), .val (.ref nb62), .val (.ref lf), .val (.ref r1), .val .null, .val .null, .val .null, .val .null, .unset]) rfl k) ?_
    refine own_step (g' := (mkF m 143 #[.val (.int p1), .val (.int p2), .val (.int p3), .val (.int p4), .val (.int (p1 &&& (3 : Int32))), .val (.ref r1), .val (.ref r2), .val (.ref r3), .val (.ref nb62), .val (.ref lf), .val (.ref r1), .val .null, .val .null, .val .null, .val .null, .unset] [(.int (p1 &&& (3 : Int32)))])) (fun _ k => XS.iload X105.here hx rfl (hb hby at_141) rfl k) ?_
    refine own_step (g' := (mkF m 144 #[.val (.int p1), .val (.int p2), .val (.int p3), .val (.int p4), .val (.int (p1 &&& (3 : Int32))), .val (.ref r1), .val (.ref r2), .val (.ref r3), .val (.ref nb62), .val (.ref lf), .val (.ref r1), .val .null, .val .null, .val .null, .val .null, .unset] [(.int (1 : Int32)), (.int (p1 &&& (3 : Int32)))])) (fun _ k => XS.iconst X105.here hx rfl (hb hby at_143) k) ?_
    refine own_step (g' := (mkF m 146 #[.val (.int p1), .val (.int p2), .val (.int p3), .val (.int p4), .val (.int (p1 &&& (3 : Int32))), .val (.ref r1), .val (.ref r2), .val (.ref r3), .val (.ref nb62), .val (.ref lf), .val (.ref r1), .val .null, .val .null, .val .null, .val .null, .unset] [(.ref r1), (.int (1 : Int32)), (.int (p1 &&& (3 : Int32)))])) (fun _ k => XS.aload X105.here hx rfl (hb hby at_144) rfl rfl k) ?_
    refine own_step (g' := (mkF m 148 #[.val (.int p1), .val (.int p2), .val (.int p3), .val (.int p4), .val (.int (p1 &&& (3 : Int32))), .val (.ref r1), .val (.ref r2), .val (.ref r3), .val (.ref nb62), .val (.ref lf), .val (.ref r1), .val .null, .val .null, .val .null, .val .null, .unset] [(.ref r1), (.ref r1), (.int (1 : Int32)), (.int (p1 &&& (3 : Int32)))])) (fun _ k => XS.aload X105.here hx rfl (hb hby at_146) rfl rfl k) ?_
    refine own_callS X105 hx hZ (W := 0) hown rfl (rmSlotY l Z a0 hw [] (p1 &&& (3 : Int32)) (1 : Int32) r1 T105.heap n0 (Nat.le_trans (Nat.le_trans (Nat.le_trans (Nat.le_trans (Nat.le_trans (Nat.le_trans (Nat.le_trans (Nat.le_trans (Nat.le_trans (Nat.le_trans (Nat.le_trans (Nat.le_trans Z0 Kq53.1) Kq57.1) Kq61.1) Ex62.1) Kq68.1) Kq75.1) Kq81.1) Kq82.1) Kq90.1) Kq95.1) Kq100.1) Kq105.1) (by rw [hq] <;> decide)) (hw _ (List.mem_of_getElem? (i := 83) rfl)) (hw _ (List.mem_of_getElem? (i := 84) rfl)) (hw _ (List.mem_of_getElem? (i := 85) rfl)) (hw _ (List.mem_of_getElem? (i := 86) rfl)) (by decide) (by decide) (by decide) (g := (mkF m 148 #[.val (.int p1), .val (.int p2), .val (.int p3), .val (.int p4), .val (.int (p1 &&& (3 : Int32))), .val (.ref r1), .val (.ref r2), .val (.ref r3), .val (.ref nb62), .val (.ref lf), .val (.ref r1), .val .null, .val .null, .val .null, .val .null, .unset] [(.ref r1), (.ref r1), (.int (1 : Int32)), (.int (p1 &&& (3 : Int32)))])) rfl (by rw [hml]; rfl) (argsL := [(.int (p1 &&& (3 : Int32))), (.int (1 : Int32)), (.ref r1), (.ref r1)]) (rest := []) rfl (lenOf pd_12 rfl) rfl (by show 2 * 0 + _ ≤ _; exact Nat.le_of_eq rfl) (hb hby at_148) (by decide) (by decide) ?_
    intro v110 T110 L110 X110 hQ110
    obtain ⟨rfl, rfl, e110⟩ := hQ110
    replace X110 := own_pureX X110
    show OGo p e below _ T110 (mkF m 151 #[.val (.int p1), .val (.int p2), .val (.int p3), .val (.int p4), .val (.int (p1 &&& (3 : Int32))), .val (.ref r1), .val (.ref r2), .val (.ref r3), .val (.ref nb62), .val (.ref lf), .val (.ref r1), .val .null, .val .null, .val .null, .val .null, .unset] [(.int (1 : Int32))])
    refine own_step (g' := (mkF m 154 #[.val (.int p1), .val (.int p2), .val (.int p3), .val (.int p4), .val (.int (p1 &&& (3 : Int32))), .val (.ref r1), .val (.ref r2), .val (.ref r3), .val (.ref nb62), .val (.ref lf), .val (.ref r1), .val .null, .val .null, .val .null, .val .null, .unset] [])) (fun _ k => XS.ifNo X110.here hx rfl (hb hby at_151) rfl ((if0 _ _).trans (feq (by decide : ¬ ((1 : Int32) = (0 : Int32)))).1) k) ?_
    refine own_step (g' := (mkF m 156 #[.val (.int p1), .val (.int p2), .val (.int p3), .val (.int p4), .val (.int (p1 &&& (3 : Int32))), .val (.ref r1), .val (.ref r2), .val (.ref r3), .val (.ref nb62), .val (.ref lf), .val (.ref r1), .val .null, .val .null, .val .null, .val .null, .unset] [(.int (p1 &&& (3 : Int32)))])) (fun _ k => XS.iload X110.here hx rfl (hb hby at_154) rfl k) ?_
    refine own_step (g' := (mkF m 157 #[.val (.int p1), .val (.int p2), .val (.int p3), .val (.int p4), .val (.int (p1 &&& (3 : Int32))), .val (.ref r1), .val (.ref r2), .val (.ref r3), .val (.ref nb62), .val (.ref lf), .val (.ref r1), .val .null, .val .null, .val .null, .val .null, .unset] [(.int (2 : Int32)), (.int (p1 &&& (3 : Int32)))])) (fun _ k => XS.iconst X110.here hx rfl (hb hby at_156) k) ?_
    refine own_step (g' := (mkF m 159 #[.val (.int p1), .val (.int p2), .val (.int p3), .val (.int p4), .val (.int (p1 &&& (3 : Int32))), .val (.ref r1), .val (.ref r2), .val (.ref r3), .val (.ref nb62), .val (.ref lf), .val (.ref r1), .val .null, .val .null, .val .null, .val .null, .unset] [.null, (.int (2 : Int32)), (.int (p1 &&& (3 : Int32)))])) (fun _ k => XS.aload X110.here hx rfl (hb hby at_157) rfl rfl k) ?_
    refine own_step (g' := (mkF m 161 #[.val (.int p1), .val (.int p2), .val (.int p3), .val (.int p4), .val (.int (p1 &&& (3 : Int32))), .val (.ref r1), .val (.ref r2), .val (.ref r3), .val (.ref nb62), .val (.ref lf), .val (.ref r1), .val .null, .val .null, .val .null, .val .null, .unset] [(.ref r2), .null, (.int (2 : Int32)), (.int (p1 &&& (3 : Int32)))])) (fun _ k => XS.aload X110.here hx rfl (hb hby at_159) rfl rfl k) ?_
    refine own_callS X110 hx hZ (W := 0) hown e110 (rmSlotN l Z a0 hw [] (p1 &&& (3 : Int32)) (2 : Int32) r2 T105.heap n0 (Nat.le_trans (Nat.le_trans (Nat.le_trans (Nat.le_trans (Nat.le_trans (Nat.le_trans (Nat.le_trans (Nat.le_trans (Nat.le_trans (Nat.le_trans (Nat.le_trans (Nat.le_trans Z0 Kq53.1) Kq57.1) Kq61.1) Ex62.1) Kq68.1) Kq75.1) Kq81.1) Kq82.1) Kq90.1) Kq95.1) Kq100.1) Kq105.1) (by rw [hq] <;> decide)) (hw _ (List.mem_of_getElem? (i := 83) rfl)) (hw _ (List.mem_of_getElem? (i := 84) rfl)) (hw _ (List.mem_of_getElem? (i := 85) rfl)) (hw _ (List.mem_of_getElem? (i := 86) rfl)) (by decide) (by decide) (by decide) (g := (mkF m 161 #[.val (.int p1), .val (.int p2), .val (.int p3), .val (.int p4), .val (.int (p1 &&& (3 : Int32))), .val (.ref r1), .val (.ref r2), .val (.ref r3), .val (.ref nb62), .val (.ref lf), .val (.ref r1), .val .null, .val .null, .val .null, .val .null, .unset] [(.ref r2), .null, (.int (2 : Int32)), (.int (p1 &&& (3 : Int32)))])) rfl (by rw [hml]; rfl) (argsL := [(.int (p1 &&& (3 : Int32))), (.int (2 : Int32)), .null, (.ref r2)]) (rest := []) rfl (lenOf pd_12 rfl) rfl (by show 2 * 0 + _ ≤ _; exact Nat.le_of_eq rfl) (hb hby at_161) (by decide) (by decide) ?_
    intro v111 T111 L111 X111 hQ111
    obtain ⟨rfl, rfl, e111⟩ := hQ111
    replace X111 := own_pureX X111
    show OGo p e below _ T111 (mkF m 164 #[.val (.int p1), .val (.int p2), .val (.int p3), .val (.int p4), .val (.int (p1 &&& (3 : Int32))), .val (.ref r1), .val (.ref r2), .val (.ref r3), .val (.ref nb62), .val (.ref lf), .val (.ref r1), .val .null, .val .null, .val .null, .val .null, .unset] [(.int (1 : Int32))])
    refine own_step (g' := (mkF m 167 #[.val (.int p1), .val (.int p2), .val (.int p3), .val (.int p4), .val (.int (p1 &&& (3 : Int32))), .val (.ref r1), .val (.ref r2), .val (.ref r3), .val (.ref nb62), .val (.ref lf), .val (.ref r1), .val .null, .val .null, .val .null, .val .null, .unset] [])) (fun _ k => XS.ifNo X111.here hx rfl (hb hby at_164) rfl ((if0 _ _).trans (feq (by decide : ¬ ((1 : Int32) = (0 : Int32)))).1) k) ?_
    refine own_step (g' := (mkF m 169 #[.val (.int p1), .val (.int p2), .val (.int p3), .val (.int p4), .val (.int (p1 &&& (3 : Int32))), .val (.ref r1), .val (.ref r2), .val (.ref r3), .val (.ref nb62), .val (.ref lf), .val (.ref r1), .val .null, .val .null, .val .null, .val .null, .unset] [(.int (p1 &&& (3 : Int32)))])) (fun _ k => XS.iload X111.here hx rfl (hb hby at_167) rfl k) ?_
    refine own_step (g' := (mkF m 170 #[.val (.int p1), .val (.int p2), .val (.int p3), .val (.int p4), .val (.int (p1 &&& (3 : Int32))), .val (.ref r1), .val (.ref r2), .val (.ref r3), .val (.ref nb62), .val (.ref lf), .val (.ref r1), .val .null, .val .null, .val .null, .val .null, .unset] [(.int (3 : Int32)), (.int (p1 &&& (3 : Int32)))])) (fun _ k => XS.iconst X111.here hx rfl (hb hby at_169) k) ?_
    refine own_step (g' := (mkF m 172 #[.val (.int p1), .val (.int p2), .val (.int p3), .val (.int p4), .val (.int (p1 &&& (3 : Int32))), .val (.ref r1), .val (.ref r2), .val (.ref r3), .val (.ref nb62), .val (.ref lf), .val (.ref r1), .val .null, .val .null, .val .null, .val .null, .unset] [.null, (.int (3 : Int32)), (.int (p1 &&& (3 : Int32)))])) (fun _ k => XS.aload X111.here hx rfl (hb hby at_170) rfl rfl k) ?_
    refine own_step (g' := (mkF m 174 #[.val (.int p1), .val (.int p2), .val (.int p3), .val (.int p4), .val (.int (p1 &&& (3 : Int32))), .val (.ref r1), .val (.ref r2), .val (.ref r3), .val (.ref nb62), .val (.ref lf), .val (.ref r1), .val .null, .val .null, .val .null, .val .null, .unset] [(.ref r3), .null, (.int (3 : Int32)), (.int (p1 &&& (3 : Int32)))])) (fun _ k => XS.aload X111.here hx rfl (hb hby at_172) rfl rfl k) ?_
    refine own_callS X111 hx hZ (W := 0) hown e111 (rmSlotN l Z a0 hw [] (p1 &&& (3 : Int32)) (3 : Int32) r3 T105.heap n0 (Nat.le_trans (Nat.le_trans (Nat.le_trans (Nat.le_trans (Nat.le_trans (Nat.le_trans (Nat.le_trans (Nat.le_trans (Nat.le_trans (Nat.le_trans (Nat.le_trans (Nat.le_trans Z0 Kq53.1) Kq57.1) Kq61.1) Ex62.1) Kq68.1) Kq75.1) Kq81.1) Kq82.1) Kq90.1) Kq95.1) Kq100.1) Kq105.1) (by rw [hq] <;> decide)) (hw _ (List.mem_of_getElem? (i := 83) rfl)) (hw _ (List.mem_of_getElem? (i := 84) rfl)) (hw _ (List.mem_of_getElem? (i := 85) rfl)) (hw _ (List.mem_of_getElem? (i := 86) rfl)) (by decide) (by decide) (by decide) (g := (mkF m 174 #[.val (.int p1), .val (.int p2), .val (.int p3), .val (.int p4), .val (.int (p1 &&& (3 : Int32))), .val (.ref r1), .val (.ref r2), .val (.ref r3), .val (.ref nb62), .val (.ref lf), .val (.ref r1), .val .null, .val .null, .val .null, .val .null, .unset] [(.ref r3), .null, (.int (3 : Int32)), (.int (p1 &&& (3 : Int32)))])) rfl (by rw [hml]; rfl) (argsL := [(.int (p1 &&& (3 : Int32))), (.int (3 : Int32)), .null, (.ref r3)]) (rest := []) rfl (lenOf pd_12 rfl) rfl (by show 2 * 0 + _ ≤ _; exact Nat.le_of_eq rfl) (hb hby at_174) (by decide) (by decide) ?_
    intro v112 T112 L112 X112 hQ112
    obtain ⟨rfl, rfl, e112⟩ := hQ112
    replace X112 := own_pureX X112
    show OGo p e below _ T112 (mkF m 177 #[.val (.int p1), .val (.int p2), .val (.int p3), .val (.int p4), .val (.int (p1 &&& (3 : Int32))), .val (.ref r1), .val (.ref r2), .val (.ref r3), .val (.ref nb62), .val (.ref lf), .val (.ref r1), .val .null, .val .null, .val .null, .val .null, .unset] [(.int (1 : Int32))])
    refine own_step (g' := (mkF m 180 #[.val (.int p1), .val (.int p2), .val (.int p3), .val (.int p4), .val (.int (p1 &&& (3 : Int32))), .val (.ref r1), .val (.ref r2), .val (.ref r3), .val (.ref nb62), .val (.ref lf), .val (.ref r1), .val .null, .val .null, .val .null, .val .null, .unset] [])) (fun _ k => XS.ifNo X112.here hx rfl (hb hby at_177) rfl ((if0 _ _).trans (feq (by decide : ¬ ((1 : Int32) = (0 : Int32)))).1) k) ?_
    refine own_step (g' := (mkF m 181 #[.val (.int p1), .val (.int p2), .val (.int p3), .val (.int p4), .val (.int (p1 &&& (3 : Int32))), .val (.ref r1), .val (.ref r2), .val (.ref r3), .val (.ref nb62), .val (.ref lf), .val (.ref r1), .val .null, .val .null, .val .null, .val .null, .unset] [(.int (1 : Int32))])) (fun _ k => XS.iconst X112.here hx rfl (hb hby at_180) k) ?_
    refine own_step (g' := (mkF m 185 #[.val (.int p1), .val (.int p2), .val (.int p3), .val (.int p4), .val (.int (p1 &&& (3 : Int32))), .val (.ref r1), .val (.ref r2), .val (.ref r3), .val (.ref nb62), .val (.ref lf), .val (.ref r1), .val .null, .val .null, .val .null, .val .null, .unset] [(.int (1 : Int32))])) (fun _ k => XS.goto X112.here hx rfl (pc0 := 181) (pc' := 185) rfl (hb hby at_181) (by decide) (by decide) k) ?_
    refine own_step (g' := (mkF m 187 #[.val (.int p1), .val (.int p2), .val (.int p3), .val (.int p4), .val (.int (p1 &&& (3 : Int32))), .val (.ref r1), .val (.ref r2), .val (.ref r3), .val (.ref nb62), .val (.ref lf), .val (.ref r1), .val .null, .val .null, .val .null, .val .null, .val (.int (1 : Int32))] [])) (fun _ k => XS.istore X112.here hx rfl (hb hby at_185) rfl (l' := #[.val (.int p1), .val (.int p2), .val (.int p3), .val (.int p4), .val (.int (p1 &&& (3 : Int32))), .val (.ref r1), .val (.ref r2), .val (.ref r3), .val (.ref nb62), .val (.ref lf), .val (.ref r1), .val .null, .val .null, .val .null, .val .null, .val (.int (1 : Int32))]) rfl k) ?_
    refine own_step (g' := (mkF m 189 #[.val (.int p1), .val (.int p2), .val (.int p3), .val (.int p4), .val (.int (p1 &&& (3 : Int32))), .val (.ref r1), .val (.ref r2), .val (.ref r3), .val (.ref nb62), .val (.ref lf), .val (.ref r1), .val .null, .val .null, .val .null, .val .null, .val (.int (1 : Int32))] [(.int (1 : Int32))])) (fun _ k => XS.iload X112.here hx rfl (hb hby at_187) rfl k) ?_
    refine own_step (g' := (mkF m 192 #[.val (.int p1), .val (.int p2), .val (.int p3), .val (.int p4), .val (.int (p1 &&& (3 : Int32))), .val (.ref r1), .val (.ref r2), .val (.ref r3), .val (.ref nb62), .val (.ref lf), .val (.ref r1), .val .null, .val .null, .val .null, .val .null, .val (.int (1 : Int32))] [])) (fun _ k => XS.ifNo X112.here hx rfl (hb hby at_189) rfl ((if0 _ _).trans (feq (by decide : ¬ ((1 : Int32) = (0 : Int32)))).1) k) ?_
    refine own_step (g' := (mkF m 194 #[.val (.int p1), .val (.int p2), .val (.int p3), .val (.int p4), .val (.int (p1 &&& (3 : Int32))), .val (.ref r1), .val (.ref r2), .val (.ref r3), .val (.ref nb62), .val (.ref lf), .val (.ref r1), .val .null, .val .null, .val .null, .val .null, .val (.int (1 : Int32))] [.null])) (fun _ k => XS.aload X112.here hx rfl (hb hby at_192) rfl rfl k) ?_
    refine own_step (g' := (mkF m 197 #[.val (.int p1), .val (.int p2), .val (.int p3), .val (.int p4), .val (.int (p1 &&& (3 : Int32))), .val (.ref r1), .val (.ref r2), .val (.ref r3), .val (.ref nb62), .val (.ref lf), .val (.ref r1), .val .null, .val .null, .val .null, .val .null, .val (.int (1 : Int32))] [])) (fun _ k => XS.ifnonnullNo X112.here hx rfl (hb hby at_194) rfl k) ?_
    refine own_step (g' := (mkF m 199 #[.val (.int p1), .val (.int p2), .val (.int p3), .val (.int p4), .val (.int (p1 &&& (3 : Int32))), .val (.ref r1), .val (.ref r2), .val (.ref r3), .val (.ref nb62), .val (.ref lf), .val (.ref r1), .val .null, .val .null, .val .null, .val .null, .val (.int (1 : Int32))] [.null])) (fun _ k => XS.aload X112.here hx rfl (hb hby at_197) rfl rfl k) ?_
    refine own_step (g' := (mkF m 202 #[.val (.int p1), .val (.int p2), .val (.int p3), .val (.int p4), .val (.int (p1 &&& (3 : Int32))), .val (.ref r1), .val (.ref r2), .val (.ref r3), .val (.ref nb62), .val (.ref lf), .val (.ref r1), .val .null, .val .null, .val .null, .val .null, .val (.int (1 : Int32))] [])) (fun _ k => XS.ifnonnullNo X112.here hx rfl (hb hby at_199) rfl k) ?_
    refine own_step (g' := (mkF m 203 #[.val (.int p1), .val (.int p2), .val (.int p3), .val (.int p4), .val (.int (p1 &&& (3 : Int32))), .val (.ref r1), .val (.ref r2), .val (.ref r3), .val (.ref nb62), .val (.ref lf), .val (.ref r1), .val .null, .val .null, .val .null, .val .null, .val (.int (1 : Int32))] [(.int (1 : Int32))])) (fun _ k => XS.iconst X112.here hx rfl (hb hby at_202) k) ?_
    refine own_step (g' := (mkF m 207 #[.val (.int p1), .val (.int p2), .val (.int p3), .val (.int p4), .val (.int (p1 &&& (3 : Int32))), .val (.ref r1), .val (.ref r2), .val (.ref r3), .val (.ref nb62), .val (.ref lf), .val (.ref r1), .val .null, .val .null, .val .null, .val .null, .val (.int (1 : Int32))] [(.int (1 : Int32))])) (fun _ k => XS.goto X112.here hx rfl (pc0 := 203) (pc' := 207) rfl (hb hby at_203) (by decide) (by decide) k) ?_
    refine own_step (g' := (mkF m 209 #[.val (.int p1), .val (.int p2), .val (.int p3), .val (.int p4), .val (.int (p1 &&& (3 : Int32))), .val (.ref r1), .val (.ref r2), .val (.ref r3), .val (.ref nb62), .val (.ref lf), .val (.ref r1), .val .null, .val .null, .val .null, .val .null, .val (.int (1 : Int32))] [])) (fun _ k => XS.istore X112.here hx rfl (hb hby at_207) rfl (l' := #[.val (.int p1), .val (.int p2), .val (.int p3), .val (.int p4), .val (.int (p1 &&& (3 : Int32))), .val (.ref r1), .val (.ref r2), .val (.ref r3), .val (.ref nb62), .val (.ref lf), .val (.ref r1), .val .null, .val .null, .val .null, .val .null, .val (.int (1 : Int32))]) rfl k) ?_
    refine own_step (g' := (mkF m 211 #[.val (.int p1), .val (.int p2), .val (.int p3), .val (.int p4), .val (.int (p1 &&& (3 : Int32))), .val (.ref r1), .val (.ref r2), .val (.ref r3), .val (.ref nb62), .val (.ref lf), .val (.ref r1), .val .null, .val .null, .val .null, .val .null, .val (.int (1 : Int32))] [(.int (1 : Int32))])) (fun _ k => XS.iload X112.here hx rfl (hb hby at_209) rfl k) ?_
    refine own_step (g' := (mkF m 214 #[.val (.int p1), .val (.int p2), .val (.int p3), .val (.int p4), .val (.int (p1 &&& (3 : Int32))), .val (.ref r1), .val (.ref r2), .val (.ref r3), .val (.ref nb62), .val (.ref lf), .val (.ref r1), .val .null, .val .null, .val .null, .val .null, .val (.int (1 : Int32))] [])) (fun _ k => XS.ifNo X112.here hx rfl (hb hby at_211) rfl ((if0 _ _).trans (feq (by decide : ¬ ((1 : Int32) = (0 : Int32)))).1) k) ?_
    refine own_step (g' := (mkF m 216 #[.val (.int p1), .val (.int p2), .val (.int p3), .val (.int p4), .val (.int (p1 &&& (3 : Int32))), .val (.ref r1), .val (.ref r2), .val (.ref r3), .val (.ref nb62), .val (.ref lf), .val (.ref r1), .val .null, .val .null, .val .null, .val .null, .val (.int (1 : Int32))] [(.ref nb62)])) (fun _ k => XS.aload X112.here hx rfl (hb hby at_214) rfl rfl k) ?_
    have F_113 : Fld Z T105.heap nb62 "java/util/ArrayList" "size" "I" (.int (1 : Int32)) := (F_108.keep Kq105 (ninS ne_nb62_it nin0))
    have C_115 : Exa Z T105.heap nb62 "java/util/ArrayList" := (C_106.keep Kq105)
    refine own_callV X112 hx hZ (W := 0) hown e112 (rmSize l Z a0 hw [] nb62 (1 : Int32) T105.heap n0 (Nat.le_trans (Nat.le_trans (Nat.le_trans (Nat.le_trans (Nat.le_trans (Nat.le_trans (Nat.le_trans (Nat.le_trans (Nat.le_trans (Nat.le_trans (Nat.le_trans (Nat.le_trans Z0 Kq53.1) Kq57.1) Kq61.1) Ex62.1) Kq68.1) Kq75.1) Kq81.1) Kq82.1) Kq90.1) Kq95.1) Kq100.1) Kq105.1) F_113) C_115 (hw _ (List.mem_of_getElem? (i := 87) rfl)) (hw _ (List.mem_of_getElem? (i := 88) rfl)) (notFace_of_selects (args := #[]) (mvT hZ (hw _ (List.mem_of_getElem? (i := 90) rfl)))) (hw _ (List.mem_of_getElem? (i := 90) rfl)) (hw _ (List.mem_of_getElem? (i := 89) rfl)) (hw _ (List.mem_of_getElem? (i := 91) rfl)) (hw _ (List.mem_of_getElem? (i := 9) rfl)) (by decide) (by decide) (by decide) (g := (mkF m 216 #[.val (.int p1), .val (.int p2), .val (.int p3), .val (.int p4), .val (.int (p1 &&& (3 : Int32))), .val (.ref r1), .val (.ref r2), .val (.ref r3), .val (.ref nb62), .val (.ref lf), .val (.ref r1), .val .null, .val .null, .val .null, .val .null, .val (.int (1 : Int32))] [(.ref nb62)])) rfl (by rw [hml]; rfl) (argsL := []) (rest := []) rfl (lenOf pd_13 rfl) rfl (by show 2 * 0 + _ ≤ _; exact Nat.le_of_eq rfl) (hb hby at_216) (by decide) (by decide) ?_
    intro v114 T114 L114 X114 hQ114
    obtain ⟨rfl, rfl, e114⟩ := hQ114
    replace X114 := own_pureX X114
    show OGo p e below _ T114 (mkF m 219 #[.val (.int p1), .val (.int p2), .val (.int p3), .val (.int p4), .val (.int (p1 &&& (3 : Int32))), .val (.ref r1), .val (.ref r2), .val (.ref r3), .val (.ref nb62), .val (.ref lf), .val (.ref r1), .val .null, .val .null, .val .null, .val .null, .val (.int (1 : Int32))] [(.int (1 : Int32))])
    refine own_step (g' := (mkF m 221 #[.val (.int p1), .val (.int p2), .val (.int p3), .val (.int p4), .val (.int (p1 &&& (3 : Int32))), .val (.ref r1), .val (.ref r2), .val (.ref r3), .val (.ref nb62), .val (.ref lf), .val (.ref r1), .val .null, .val .null, .val .null, .val .null, .val (.int (1 : Int32))] [(.int (p1 &&& (3 : Int32))), (.int (1 : Int32))])) (fun _ k => XS.iload X114.here hx rfl (hb hby at_219) rfl k) ?_
    refine own_step (g' := (mkF m 224 #[.val (.int p1), .val (.int p2), .val (.int p3), .val (.int p4), .val (.int (p1 &&& (3 : Int32))), .val (.ref r1), .val (.ref r2), .val (.ref r3), .val (.ref nb62), .val (.ref lf), .val (.ref r1), .val .null, .val .null, .val .null, .val .null, .val (.int (1 : Int32))] [])) (fun _ k => XS.icmpNo X114.here hx rfl (hb hby at_221) rfl (teq (by rw [hq] <;> decide : (1 : Int32) = (p1 &&& (3 : Int32)))).2 k) ?_
    refine own_step (g' := (mkF m 225 #[.val (.int p1), .val (.int p2), .val (.int p3), .val (.int p4), .val (.int (p1 &&& (3 : Int32))), .val (.ref r1), .val (.ref r2), .val (.ref r3), .val (.ref nb62), .val (.ref lf), .val (.ref r1), .val .null, .val .null, .val .null, .val .null, .val (.int (1 : Int32))] [(.int (1 : Int32))])) (fun _ k => XS.iconst X114.here hx rfl (hb hby at_224) k) ?_
    refine own_step (g' := (mkF m 229 #[.val (.int p1), .val (.int p2), .val (.int p3), .val (.int p4), .val (.int (p1 &&& (3 : Int32))), .val (.ref r1), .val (.ref r2), .val (.ref r3), .val (.ref nb62), .val (.ref lf), .val (.ref r1), .val .null, .val .null, .val .null, .val .null, .val (.int (1 : Int32))] [(.int (1 : Int32))])) (fun _ k => XS.goto X114.here hx rfl (pc0 := 225) (pc' := 229) rfl (hb hby at_225) (by decide) (by decide) k) ?_
    exact own_retN X114 hx (t := .boolean) hret (by simp) hlk (hb hby at_229) e114 (by exact ⟨rfl, N105⟩) (by decide) (by decide)
  · refine own_step (g' := (mkF m 1 #[.val (.int p1), .val (.int p2), .val (.int p3), .val (.int p4), .unset, .unset, .unset, .unset, .unset, .unset, .unset, .unset, .unset, .unset, .unset, .unset] [(.int p1)])) (fun _ k => XS.iloadN X0.here hx rfl (hb hby at_0) rfl k) ?_
    refine own_step (g' := (mkF m 2 #[.val (.int p1), .val (.int p2), .val (.int p3), .val (.int p4), .unset, .unset, .unset, .unset, .unset, .unset, .unset, .unset, .unset, .unset, .unset, .unset] [(.int (3 : Int32)), (.int p1)])) (fun _ k => XS.iconst X0.here hx rfl (hb hby at_1) k) ?_
    refine own_step (g' := (mkF m 3 #[.val (.int p1), .val (.int p2), .val (.int p3), .val (.int p4), .unset, .unset, .unset, .unset, .unset, .unset, .unset, .unset, .unset, .unset, .unset, .unset] [(.int (p1 &&& (3 : Int32)))])) (fun _ k => XS.iand X0.here hx rfl (hb hby at_2) rfl k) ?_
    refine own_step (g' := (mkF m 5 #[.val (.int p1), .val (.int p2), .val (.int p3), .val (.int p4), .val (.int (p1 &&& (3 : Int32))), .unset, .unset, .unset, .unset, .unset, .unset, .unset, .unset, .unset, .unset, .unset] [])) (fun _ k => XS.istore X0.here hx rfl (hb hby at_3) rfl (l' := #[.val (.int p1), .val (.int p2), .val (.int p3), .val (.int p4), .val (.int (p1 &&& (3 : Int32))), .unset, .unset, .unset, .unset, .unset, .unset, .unset, .unset, .unset, .unset, .unset]) rfl k) ?_
    refine own_step (g' := (mkF m 6 #[.val (.int p1), .val (.int p2), .val (.int p3), .val (.int p4), .val (.int (p1 &&& (3 : Int32))), .unset, .unset, .unset, .unset, .unset, .unset, .unset, .unset, .unset, .unset, .unset] [(.int p2)])) (fun _ k => XS.iloadN X0.here hx rfl (hb hby at_5) rfl k) ?_
    refine own_callS X0 hx hZ (W := 0) hown e0 (rmVO l Z a0 hw [] p2 ca cc vf h0 n0 Z0 S_hi S_ca Bx O0) (hw _ (List.mem_of_getElem? (i := 0) rfl)) (hw _ (List.mem_of_getElem? (i := 1) rfl)) (hw _ (List.mem_of_getElem? (i := 2) rfl)) (hw _ (List.mem_of_getElem? (i := 3) rfl)) (by decide) (by decide) (by decide) (g := (mkF m 6 #[.val (.int p1), .val (.int p2), .val (.int p3), .val (.int p4), .val (.int (p1 &&& (3 : Int32))), .unset, .unset, .unset, .unset, .unset, .unset, .unset, .unset, .unset, .unset, .unset] [(.int p2)])) rfl (by rw [hml]; rfl) (argsL := [(.int p2)]) (rest := []) rfl (lenOf pd_10 rfl) rfl (by show 2 * 0 + _ ≤ _; exact Nat.le_of_eq rfl) (hb hby at_6) (by decide) (by decide) ?_
    intro v116 T116 L116 X116 hQ116
    obtain ⟨⟨r1, rfl, Cr1⟩, Nq116, Kq116⟩ := hQ116
    have N116 := Fr.app N0 Nq116
    show OGo p e below _ T116 (mkF m 9 #[.val (.int p1), .val (.int p2), .val (.int p3), .val (.int p4), .val (.int (p1 &&& (3 : Int32))), .unset, .unset, .unset, .unset, .unset, .unset, .unset, .unset, .unset, .unset, .unset] [(.ref r1)])
    refine own_step (g' := (mkF m 11 #[.val (.int p1), .val (.int p2), .val (.int p3), .val (.int p4), .val (.int (p1 &&& (3 : Int32))), .val (.ref r1), .unset, .unset, .unset, .unset, .unset, .unset, .unset, .unset, .unset, .unset] [])) (fun _ k => XS.astore X116.here hx rfl (hb hby at_9) rfl rfl (l' := #[.val (.int p1), .val (.int p2), .val (.int p3), .val (.int p4), .val (.int (p1 &&& (3 : Int32))), .val (.ref r1), .unset, .unset, .unset, .unset, .unset, .unset, .unset, .unset, .unset, .unset]) rfl k) ?_
    refine own_step (g' := (mkF m 12 #[.val (.int p1), .val (.int p2), .val (.int p3), .val (.int p4), .val (.int (p1 &&& (3 : Int32))), .val (.ref r1), .unset, .unset, .unset, .unset, .unset, .unset, .unset, .unset, .unset, .unset] [(.int p3)])) (fun _ k => XS.iloadN X116.here hx rfl (hb hby at_11) rfl k) ?_
    have S_117 : Sta Z T116.heap "java/lang/Integer$IntegerCache" "high" "I" (.int (127 : Int32)) := (own_sta_keep S_hi Kq116 all0)
    have S_118 : Sta Z T116.heap "java/lang/Integer$IntegerCache" "cache" "[Ljava/lang/Integer;" (.ref ca) := (own_sta_keep S_ca Kq116 all0)
    have O_119 : Old Z n0 T116.heap := (O0.keep Kq116 all0)
    refine own_callS X116 hx hZ (W := 0) hown rfl (rmVO l Z a0 hw [] p3 ca cc vf T116.heap n0 (Nat.le_trans Z0 Kq116.1) S_117 S_118 Bx O_119) (hw _ (List.mem_of_getElem? (i := 0) rfl)) (hw _ (List.mem_of_getElem? (i := 1) rfl)) (hw _ (List.mem_of_getElem? (i := 2) rfl)) (hw _ (List.mem_of_getElem? (i := 3) rfl)) (by decide) (by decide) (by decide) (g := (mkF m 12 #[.val (.int p1), .val (.int p2), .val (.int p3), .val (.int p4), .val (.int (p1 &&& (3 : Int32))), .val (.ref r1), .unset, .unset, .unset, .unset, .unset, .unset, .unset, .unset, .unset, .unset] [(.int p3)])) rfl (by rw [hml]; rfl) (argsL := [(.int p3)]) (rest := []) rfl (lenOf pd_10 rfl) rfl (by show 2 * 0 + _ ≤ _; exact Nat.le_of_eq rfl) (hb hby at_12) (by decide) (by decide) ?_
    intro v120 T120 L120 X120 hQ120
    obtain ⟨⟨r2, rfl, Cr2⟩, Nq120, Kq120⟩ := hQ120
    have N120 := Fr.app N116 Nq120
    show OGo p e below _ T120 (mkF m 15 #[.val (.int p1), .val (.int p2), .val (.int p3), .val (.int p4), .val (.int (p1 &&& (3 : Int32))), .val (.ref r1), .unset, .unset, .unset, .unset, .unset, .unset, .unset, .unset, .unset, .unset] [(.ref r2)])
    refine own_step (g' := (mkF m 17 #[.val (.int p1), .val (.int p2), .val (.int p3), .val (.int p4), .val (.int (p1 &&& (3 : Int32))), .val (.ref r1), .val (.ref r2), .unset, .unset, .unset, .unset, .unset, .unset, .unset, .unset, .unset] [])) (fun _ k => XS.astore X120.here hx rfl (hb hby at_15) rfl rfl (l' := #[.val (.int p1), .val (.int p2), .val (.int p3), .val (.int p4), .val (.int (p1 &&& (3 : Int32))), .val (.ref r1), .val (.ref r2), .unset, .unset, .unset, .unset, .unset, .unset, .unset, .unset, .unset]) rfl k) ?_
    refine own_step (g' := (mkF m 18 #[.val (.int p1), .val (.int p2), .val (.int p3), .val (.int p4), .val (.int (p1 &&& (3 : Int32))), .val (.ref r1), .val (.ref r2), .unset, .unset, .unset, .unset, .unset, .unset, .unset, .unset, .unset] [(.int p4)])) (fun _ k => XS.iloadN X120.here hx rfl (hb hby at_17) rfl k) ?_
    have S_121 : Sta Z T120.heap "java/lang/Integer$IntegerCache" "high" "I" (.int (127 : Int32)) := (own_sta_keep S_117 Kq120 all0)
    have S_122 : Sta Z T120.heap "java/lang/Integer$IntegerCache" "cache" "[Ljava/lang/Integer;" (.ref ca) := (own_sta_keep S_118 Kq120 all0)
    have O_123 : Old Z n0 T120.heap := (O_119.keep Kq120 all0)
    refine own_callS X120 hx hZ (W := 0) hown rfl (rmVO l Z a0 hw [] p4 ca cc vf T120.heap n0 (Nat.le_trans (Nat.le_trans Z0 Kq116.1) Kq120.1) S_121 S_122 Bx O_123) (hw _ (List.mem_of_getElem? (i := 0) rfl)) (hw _ (List.mem_of_getElem? (i := 1) rfl)) (hw _ (List.mem_of_getElem? (i := 2) rfl)) (hw _ (List.mem_of_getElem? (i := 3) rfl)) (by decide) (by decide) (by decide) (g := (mkF m 18 #[.val (.int p1), .val (.int p2), .val (.int p3), .val (.int p4), .val (.int (p1 &&& (3 : Int32))), .val (.ref r1), .val (.ref r2), .unset, .unset, .unset, .unset, .unset, .unset, .unset, .unset, .unset] [(.int p4)])) rfl (by rw [hml]; rfl) (argsL := [(.int p4)]) (rest := []) rfl (lenOf pd_10 rfl) rfl (by show 2 * 0 + _ ≤ _; exact Nat.le_of_eq rfl) (hb hby at_18) (by decide) (by decide) ?_
    intro v124 T124 L124 X124 hQ124
    obtain ⟨⟨r3, rfl, Cr3⟩, Nq124, Kq124⟩ := hQ124
    have N124 := Fr.app N120 Nq124
    show OGo p e below _ T124 (mkF m 21 #[.val (.int p1), .val (.int p2), .val (.int p3), .val (.int p4), .val (.int (p1 &&& (3 : Int32))), .val (.ref r1), .val (.ref r2), .unset, .unset, .unset, .unset, .unset, .unset, .unset, .unset, .unset] [(.ref r3)])
    refine own_step (g' := (mkF m 23 #[.val (.int p1), .val (.int p2), .val (.int p3), .val (.int p4), .val (.int (p1 &&& (3 : Int32))), .val (.ref r1), .val (.ref r2), .val (.ref r3), .unset, .unset, .unset, .unset, .unset, .unset, .unset, .unset] [])) (fun _ k => XS.astore X124.here hx rfl (hb hby at_21) rfl rfl (l' := #[.val (.int p1), .val (.int p2), .val (.int p3), .val (.int p4), .val (.int (p1 &&& (3 : Int32))), .val (.ref r1), .val (.ref r2), .val (.ref r3), .unset, .unset, .unset, .unset, .unset, .unset, .unset, .unset]) rfl k) ?_
    have V_126 : Arv Z T124.heap ed kd (.object "java/lang/Object") (0 : Int32) [] .null := (((Vd.keep Kq116 nin0).keep Kq120 nin0).keep Kq124 nin0)
    have C_127 : Exa Z T124.heap r1 "java/lang/Integer" := ((Cr1.keep Kq120).keep Kq124)
    have C_128 : Exa Z T124.heap r2 "java/lang/Integer" := (Cr2.keep Kq124)
    obtain ⟨T125, h125, X125, e125, Ex125, A125, D125, -, st125⟩ := newO X124 hx hZ hown (hw _ (List.mem_of_getElem? (i := 7) rfl)) (hw _ (List.mem_of_getElem? (i := 8) rfl)) (hw _ (List.mem_of_getElem? (i := 9) rfl)) rfl (g := (mkF m 23 #[.val (.int p1), .val (.int p2), .val (.int p3), .val (.int p4), .val (.int (p1 &&& (3 : Int32))), .val (.ref r1), .val (.ref r2), .val (.ref r3), .unset, .unset, .unset, .unset, .unset, .unset, .unset, .unset] [])) rfl (hb hby at_23) (by decide) (by decide)
    obtain ⟨nb125, g125⟩ : ∃ z, z = T124.heap.size := ⟨_, rfl⟩
    rw [← g125] at A125 D125 st125
    have g_nb125 : n0 ≤ nb125 := Nat.le_trans (Nat.le_trans (Nat.le_trans (Nat.le_trans Z0 Kq116.1) Kq120.1) Kq124.1) (Nat.le_of_eq g125.symm)
    have ne_ed_nb125 : ed ≠ nb125 := Nat.ne_of_lt (Nat.lt_of_lt_of_le V_126.lt (Nat.le_of_eq g125.symm))
    have ne_r1_nb125 : r1 ≠ nb125 := Nat.ne_of_lt (Nat.lt_of_lt_of_le C_127.lt (Nat.le_of_eq g125.symm))
    have ne_r2_nb125 : r2 ≠ nb125 := Nat.ne_of_lt (Nat.lt_of_lt_of_le C_128.lt (Nat.le_of_eq g125.symm))
    have ne_r3_nb125 : r3 ≠ nb125 := Nat.ne_of_lt (Nat.lt_of_lt_of_le Cr3.lt (Nat.le_of_eq g125.symm))
    have F125_modCount : Fld Z h125 nb125 "java/util/AbstractList" "modCount" "I" (.int (0 : Int32)) := D125 (Or.inl (hw _ (List.mem_of_getElem? (i := 29) rfl))) (ty := .int) (by decide)
    have F125_elementData : Fld Z h125 nb125 "java/util/ArrayList" "elementData" "[Ljava/lang/Object;" .null := D125 (Or.inl (hw _ (List.mem_of_getElem? (i := 32) rfl))) (ty := (.array (.object "java/lang/Object"))) (by decide)
    have F125_size : Fld Z h125 nb125 "java/util/ArrayList" "size" "I" (.int (0 : Int32)) := D125 (Or.inl (hw _ (List.mem_of_getElem? (i := 82) rfl))) (ty := .int) (by decide)
    refine own_via (g' := (mkF m 26 #[.val (.int p1), .val (.int p2), .val (.int p3), .val (.int p4), .val (.int (p1 &&& (3 : Int32))), .val (.ref r1), .val (.ref r2), .val (.ref r3), .unset, .unset, .unset, .unset, .unset, .unset, .unset, .unset] [(.ref nb125)])) st125 ?_
    refine own_step (g' := (mkF m 27 #[.val (.int p1), .val (.int p2), .val (.int p3), .val (.int p4), .val (.int (p1 &&& (3 : Int32))), .val (.ref r1), .val (.ref r2), .val (.ref r3), .unset, .unset, .unset, .unset, .unset, .unset, .unset, .unset] [(.ref nb125), (.ref nb125)])) (fun _ k => XS.dup X125.here hx rfl (hb hby at_26) rfl rfl k) ?_
    have S_130 : Sta Z h125 "java/util/ArrayList" "DEFAULTCAPACITY_EMPTY_ELEMENTDATA" "[Ljava/lang/Object;" (.ref ed) := (Sta.ext Ex125 (own_sta_keep (own_sta_keep (own_sta_keep S_DC Kq116 all0) Kq120 all0) Kq124 all0))
    refine own_init X125 hx hZ (W := 1) hown e125 (rmAL l Z a0 hw [] nb125 ed h125 n0 (Nat.le_trans (Nat.le_trans (Nat.le_trans (Nat.le_trans Z0 Kq116.1) Kq120.1) Kq124.1) Ex125.1) S_130 g_nb125 A125 F125_modCount F125_elementData F125_size) rfl (hw _ (List.mem_of_getElem? (i := 10) rfl)) (hw _ (List.mem_of_getElem? (i := 11) rfl)) (hw _ (List.mem_of_getElem? (i := 12) rfl)) (hw _ (List.mem_of_getElem? (i := 9) rfl)) (by decide) (by decide) (by decide) (g := (mkF m 27 #[.val (.int p1), .val (.int p2), .val (.int p3), .val (.int p4), .val (.int (p1 &&& (3 : Int32))), .val (.ref r1), .val (.ref r2), .val (.ref r3), .unset, .unset, .unset, .unset, .unset, .unset, .unset, .unset] [(.ref nb125), (.ref nb125)])) rfl (by rw [hml]; rfl) (argsL := []) (rest := [(.ref nb125)]) rfl (lenOf pd_0 rfl) rfl (by show 2 * 0 + _ ≤ _; exact Nat.le_of_eq rfl) (hb hby at_27) (by decide) (by decide) ?_
    intro v131 T131 L131 X131 hQ131
    obtain ⟨rfl, Nq131, Kq131, Cl129, F1l129, F2l129, F3l129⟩ := hQ131
    have N131 := Fr.app N124 Nq131
    show OGo p e below _ T131 (mkF m 30 #[.val (.int p1), .val (.int p2), .val (.int p3), .val (.int p4), .val (.int (p1 &&& (3 : Int32))), .val (.ref r1), .val (.ref r2), .val (.ref r3), .unset, .unset, .unset, .unset, .unset, .unset, .unset, .unset] [(.ref nb125)])
    refine own_step (g' := (mkF m 32 #[.val (.int p1), .val (.int p2), .val (.int p3), .val (.int p4), .val (.int (p1 &&& (3 : Int32))), .val (.ref r1), .val (.ref r2), .val (.ref r3), .val (.ref nb125), .unset, .unset, .unset, .unset, .unset, .unset, .unset] [])) (fun _ k => XS.astore X131.here hx rfl (hb hby at_30) rfl rfl (l' := #[.val (.int p1), .val (.int p2), .val (.int p3), .val (.int p4), .val (.int (p1 &&& (3 : Int32))), .val (.ref r1), .val (.ref r2), .val (.ref r3), .val (.ref nb125), .unset, .unset, .unset, .unset, .unset, .unset, .unset]) rfl k) ?_
    refine own_step (g' := (mkF m 34 #[.val (.int p1), .val (.int p2), .val (.int p3), .val (.int p4), .val (.int (p1 &&& (3 : Int32))), .val (.ref r1), .val (.ref r2), .val (.ref r3), .val (.ref nb125), .unset, .unset, .unset, .unset, .unset, .unset, .unset] [(.int (p1 &&& (3 : Int32)))])) (fun _ k => XS.iload X131.here hx rfl (hb hby at_32) rfl k) ?_
    refine own_step (g' := (mkF m 35 #[.val (.int p1), .val (.int p2), .val (.int p3), .val (.int p4), .val (.int (p1 &&& (3 : Int32))), .val (.ref r1), .val (.ref r2), .val (.ref r3), .val (.ref nb125), .unset, .unset, .unset, .unset, .unset, .unset, .unset] [(.int (1 : Int32)), (.int (p1 &&& (3 : Int32)))])) (fun _ k => XS.iconst X131.here hx rfl (hb hby at_34) k) ?_
    refine own_step (g' := (mkF m 38 #[.val (.int p1), .val (.int p2), .val (.int p3), .val (.int p4), .val (.int (p1 &&& (3 : Int32))), .val (.ref r1), .val (.ref r2), .val (.ref r3), .val (.ref nb125), .unset, .unset, .unset, .unset, .unset, .unset, .unset] [])) (fun _ k => XS.icmpNo X131.here hx rfl (hb hby at_35) rfl (flt (by rw [hq] <;> decide : ¬ ((p1 &&& (3 : Int32)) < (1 : Int32)))).1 k) ?_
    refine own_step (g' := (mkF m 40 #[.val (.int p1), .val (.int p2), .val (.int p3), .val (.int p4), .val (.int (p1 &&& (3 : Int32))), .val (.ref r1), .val (.ref r2), .val (.ref r3), .val (.ref nb125), .unset, .unset, .unset, .unset, .unset, .unset, .unset] [(.ref nb125)])) (fun _ k => XS.aload X131.here hx rfl (hb hby at_38) rfl rfl k) ?_
    refine own_step (g' := (mkF m 42 #[.val (.int p1), .val (.int p2), .val (.int p3), .val (.int p4), .val (.int (p1 &&& (3 : Int32))), .val (.ref r1), .val (.ref r2), .val (.ref r3), .val (.ref nb125), .unset, .unset, .unset, .unset, .unset, .unset, .unset] [(.ref r1), (.ref nb125)])) (fun _ k => XS.aload X131.here hx rfl (hb hby at_40) rfl rfl k) ?_
    have V_133 : Arv Z T131.heap ed kd (.object "java/lang/Object") (0 : Int32) [] .null := ((V_126.ext Ex125).keep Kq131 (ninS ne_ed_nb125 nin0))
    have C_134 : Exa Z T131.heap r1 "java/lang/Integer" := ((Exa.ext Ex125 C_127).keep Kq131)
    have C_135 : Exa Z T131.heap r2 "java/lang/Integer" := ((Exa.ext Ex125 C_128).keep Kq131)
    have C_136 : Exa Z T131.heap r3 "java/lang/Integer" := ((Exa.ext Ex125 Cr3).keep Kq131)
    have S_137 : Sta Z T131.heap "java/util/ArrayList" "DEFAULTCAPACITY_EMPTY_ELEMENTDATA" "[Ljava/lang/Object;" (.ref ed) := (own_sta_keep S_130 Kq131 (allS (own_nsE A125) all0))
    refine own_callV X131 hx hZ (W := 0) hown rfl (rmAdd0 l Z a0 hw [] nb125 r1 ed kd (0 : Int32) T131.heap n0 (Nat.le_trans (Nat.le_trans (Nat.le_trans (Nat.le_trans (Nat.le_trans Z0 Kq116.1) Kq120.1) Kq124.1) Ex125.1) Kq131.1) S_137 V_133 g_nb125 Cl129 F1l129 F2l129 F3l129 C_134) Cl129 (hw _ (List.mem_of_getElem? (i := 108) rfl)) (hw _ (List.mem_of_getElem? (i := 109) rfl)) (notFace_of_selects (args := #[]) (mvT hZ (hw _ (List.mem_of_getElem? (i := 111) rfl)))) (hw _ (List.mem_of_getElem? (i := 111) rfl)) (hw _ (List.mem_of_getElem? (i := 110) rfl)) (hw _ (List.mem_of_getElem? (i := 112) rfl)) (hw _ (List.mem_of_getElem? (i := 9) rfl)) (by decide) (by decide) (by decide) (g := (mkF m 42 #[.val (.int p1), .val (.int p2), .val (.int p3), .val (.int p4), .val (.int (p1 &&& (3 : Int32))), .val (.ref r1), .val (.ref r2), .val (.ref r3), .val (.ref nb125), .unset, .unset, .unset, .unset, .unset, .unset, .unset] [(.ref r1), (.ref nb125)])) rfl (by rw [hml]; rfl) (argsL := [(.ref r1)]) (rest := []) rfl (lenOf pd_14 rfl) rfl (by show 2 * 0 + _ ≤ _; exact Nat.le_of_eq rfl) (hb hby at_42) (by decide) (by decide) ?_
    intro v138 T138 L138 X138 hQ138
    obtain ⟨⟨ar, kq132, rfl, szar, g_ar, Oq132, Vq132, Cq132, F1q132, F2q132, F3q132⟩, Nq138, Kq138⟩ := hQ138
    have N138 := Fr.app N131 Nq138
    show OGo p e below _ T138 (mkF m 45 #[.val (.int p1), .val (.int p2), .val (.int p3), .val (.int p4), .val (.int (p1 &&& (3 : Int32))), .val (.ref r1), .val (.ref r2), .val (.ref r3), .val (.ref nb125), .unset, .unset, .unset, .unset, .unset, .unset, .unset] [(.int (1 : Int32))])
    have ne_ed_ar : ed ≠ ar := Nat.ne_of_lt (Nat.lt_of_lt_of_le V_133.lt szar)
    have ne_r1_ar : r1 ≠ ar := Nat.ne_of_lt (Nat.lt_of_lt_of_le C_134.lt szar)
    have ne_r2_ar : r2 ≠ ar := Nat.ne_of_lt (Nat.lt_of_lt_of_le C_135.lt szar)
    have ne_r3_ar : r3 ≠ ar := Nat.ne_of_lt (Nat.lt_of_lt_of_le C_136.lt szar)
    have ne_l_ar : nb125 ≠ ar := Exa.neArv Cq132 Vq132 (hw _ (List.mem_of_getElem? (i := 8) rfl))
    refine own_step (g' := (mkF m 46 #[.val (.int p1), .val (.int p2), .val (.int p3), .val (.int p4), .val (.int (p1 &&& (3 : Int32))), .val (.ref r1), .val (.ref r2), .val (.ref r3), .val (.ref nb125), .unset, .unset, .unset, .unset, .unset, .unset, .unset] [])) (fun _ k => XS.pop X138.here hx rfl (hb hby at_45) rfl rfl k) ?_
    refine own_step (g' := (mkF m 48 #[.val (.int p1), .val (.int p2), .val (.int p3), .val (.int p4), .val (.int (p1 &&& (3 : Int32))), .val (.ref r1), .val (.ref r2), .val (.ref r3), .val (.ref nb125), .unset, .unset, .unset, .unset, .unset, .unset, .unset] [(.int (p1 &&& (3 : Int32)))])) (fun _ k => XS.iload X138.here hx rfl (hb hby at_46) rfl k) ?_
    refine own_step (g' := (mkF m 49 #[.val (.int p1), .val (.int p2), .val (.int p3), .val (.int p4), .val (.int (p1 &&& (3 : Int32))), .val (.ref r1), .val (.ref r2), .val (.ref r3), .val (.ref nb125), .unset, .unset, .unset, .unset, .unset, .unset, .unset] [(.int (2 : Int32)), (.int (p1 &&& (3 : Int32)))])) (fun _ k => XS.iconst X138.here hx rfl (hb hby at_48) k) ?_
    refine own_step (g' := (mkF m 52 #[.val (.int p1), .val (.int p2), .val (.int p3), .val (.int p4), .val (.int (p1 &&& (3 : Int32))), .val (.ref r1), .val (.ref r2), .val (.ref r3), .val (.ref nb125), .unset, .unset, .unset, .unset, .unset, .unset, .unset] [])) (fun _ k => XS.icmpNo X138.here hx rfl (hb hby at_49) rfl (flt (by rw [hq] <;> decide : ¬ ((p1 &&& (3 : Int32)) < (2 : Int32)))).1 k) ?_
    refine own_step (g' := (mkF m 54 #[.val (.int p1), .val (.int p2), .val (.int p3), .val (.int p4), .val (.int (p1 &&& (3 : Int32))), .val (.ref r1), .val (.ref r2), .val (.ref r3), .val (.ref nb125), .unset, .unset, .unset, .unset, .unset, .unset, .unset] [(.ref nb125)])) (fun _ k => XS.aload X138.here hx rfl (hb hby at_52) rfl rfl k) ?_
    refine own_step (g' := (mkF m 56 #[.val (.int p1), .val (.int p2), .val (.int p3), .val (.int p4), .val (.int (p1 &&& (3 : Int32))), .val (.ref r1), .val (.ref r2), .val (.ref r3), .val (.ref nb125), .unset, .unset, .unset, .unset, .unset, .unset, .unset] [(.ref r2), (.ref nb125)])) (fun _ k => XS.aload X138.here hx rfl (hb hby at_54) rfl rfl k) ?_
    have C_140 : Exa Z T138.heap r2 "java/lang/Integer" := (C_135.keep Kq138)
    refine own_callV X138 hx hZ (W := 0) hown rfl (rmAdd1 l Z a0 hw [] nb125 r2 ar r1 kq132 (1 : Int32) T138.heap n0 (Nat.le_trans (Nat.le_trans (Nat.le_trans (Nat.le_trans (Nat.le_trans (Nat.le_trans Z0 Kq116.1) Kq120.1) Kq124.1) Ex125.1) Kq131.1) Kq138.1) g_nb125 g_ar Oq132 Vq132 Cq132 F1q132 F2q132 F3q132 C_140) Cq132 (hw _ (List.mem_of_getElem? (i := 108) rfl)) (hw _ (List.mem_of_getElem? (i := 109) rfl)) (notFace_of_selects (args := #[]) (mvT hZ (hw _ (List.mem_of_getElem? (i := 111) rfl)))) (hw _ (List.mem_of_getElem? (i := 111) rfl)) (hw _ (List.mem_of_getElem? (i := 110) rfl)) (hw _ (List.mem_of_getElem? (i := 112) rfl)) (hw _ (List.mem_of_getElem? (i := 9) rfl)) (by decide) (by decide) (by decide) (g := (mkF m 56 #[.val (.int p1), .val (.int p2), .val (.int p3), .val (.int p4), .val (.int (p1 &&& (3 : Int32))), .val (.ref r1), .val (.ref r2), .val (.ref r3), .val (.ref nb125), .unset, .unset, .unset, .unset, .unset, .unset, .unset] [(.ref r2), (.ref nb125)])) rfl (by rw [hml]; rfl) (argsL := [(.ref r2)]) (rest := []) rfl (lenOf pd_14 rfl) rfl (by show 2 * 0 + _ ≤ _; exact Nat.le_of_eq rfl) (hb hby at_56) (by decide) (by decide) ?_
    intro v141 T141 L141 X141 hQ141
    obtain ⟨rfl, Nq141, Kq141, Vq139, Cq139, F1q139, F2q139, F3q139⟩ := hQ141
    have N141 := Fr.app N138 Nq141
    show OGo p e below _ T141 (mkF m 59 #[.val (.int p1), .val (.int p2), .val (.int p3), .val (.int p4), .val (.int (p1 &&& (3 : Int32))), .val (.ref r1), .val (.ref r2), .val (.ref r3), .val (.ref nb125), .unset, .unset, .unset, .unset, .unset, .unset, .unset] [(.int (1 : Int32))])
    refine own_step (g' := (mkF m 60 #[.val (.int p1), .val (.int p2), .val (.int p3), .val (.int p4), .val (.int (p1 &&& (3 : Int32))), .val (.ref r1), .val (.ref r2), .val (.ref r3), .val (.ref nb125), .unset, .unset, .unset, .unset, .unset, .unset, .unset] [])) (fun _ k => XS.pop X141.here hx rfl (hb hby at_59) rfl rfl k) ?_
    refine own_step (g' := (mkF m 62 #[.val (.int p1), .val (.int p2), .val (.int p3), .val (.int p4), .val (.int (p1 &&& (3 : Int32))), .val (.ref r1), .val (.ref r2), .val (.ref r3), .val (.ref nb125), .unset, .unset, .unset, .unset, .unset, .unset, .unset] [(.int (p1 &&& (3 : Int32)))])) (fun _ k => XS.iload X141.here hx rfl (hb hby at_60) rfl k) ?_
    refine own_step (g' := (mkF m 63 #[.val (.int p1), .val (.int p2), .val (.int p3), .val (.int p4), .val (.int (p1 &&& (3 : Int32))), .val (.ref r1), .val (.ref r2), .val (.ref r3), .val (.ref nb125), .unset, .unset, .unset, .unset, .unset, .unset, .unset] [(.int (3 : Int32)), (.int (p1 &&& (3 : Int32)))])) (fun _ k => XS.iconst X141.here hx rfl (hb hby at_62) k) ?_
    refine own_step (g' := (mkF m 74 #[.val (.int p1), .val (.int p2), .val (.int p3), .val (.int p4), .val (.int (p1 &&& (3 : Int32))), .val (.ref r1), .val (.ref r2), .val (.ref r3), .val (.ref nb125), .unset, .unset, .unset, .unset, .unset, .unset, .unset] [])) (fun _ k => XS.icmpYes X141.here hx rfl (pc0 := 63) (pc' := 74) rfl (hb hby at_63) rfl (tlt (by rw [hq] <;> decide : (p1 &&& (3 : Int32)) < (3 : Int32))).1 (by decide) (by decide) k) ?_
    refine own_step (g' := (mkF m 76 #[.val (.int p1), .val (.int p2), .val (.int p3), .val (.int p4), .val (.int (p1 &&& (3 : Int32))), .val (.ref r1), .val (.ref r2), .val (.ref r3), .val (.ref nb125), .unset, .unset, .unset, .unset, .unset, .unset, .unset] [(.ref nb125)])) (fun _ k => XS.aload X141.here hx rfl (hb hby at_74) rfl rfl k) ?_
    have V_142 : Arv Z T141.heap ed kd (.object "java/lang/Object") (0 : Int32) [] .null := ((V_133.keep Kq138 (ninS ne_ed_nb125 nin0)).keep Kq141 (ninS ne_ed_nb125 (ninS ne_ed_ar nin0)))
    have C_143 : Exa Z T141.heap r1 "java/lang/Integer" := ((C_134.keep Kq138).keep Kq141)
    have C_144 : Exa Z T141.heap r2 "java/lang/Integer" := (C_140.keep Kq141)
    have C_145 : Exa Z T141.heap r3 "java/lang/Integer" := ((C_136.keep Kq138).keep Kq141)
    refine own_callS X141 hx hZ (W := 0) hown rfl (rmOver l Z a0 hw [] nb125 (2 : Int32) cK T141.heap n0 (Nat.le_trans (Nat.le_trans (Nat.le_trans (Nat.le_trans (Nat.le_trans (Nat.le_trans (Nat.le_trans Z0 Kq116.1) Kq120.1) Kq124.1) Ex125.1) Kq131.1) Kq138.1) Kq141.1) HL HS Cq139 F1q139) (hw _ (List.mem_of_getElem? (i := 33) rfl)) (hw _ (List.mem_of_getElem? (i := 34) rfl)) (hw _ (List.mem_of_getElem? (i := 35) rfl)) (hw _ (List.mem_of_getElem? (i := 36) rfl)) (by decide) (by decide) (by decide) (g := (mkF m 76 #[.val (.int p1), .val (.int p2), .val (.int p3), .val (.int p4), .val (.int (p1 &&& (3 : Int32))), .val (.ref r1), .val (.ref r2), .val (.ref r3), .val (.ref nb125), .unset, .unset, .unset, .unset, .unset, .unset, .unset] [(.ref nb125)])) rfl (by rw [hml]; rfl) (argsL := [(.ref nb125)]) (rest := []) rfl (lenOf pd_11 rfl) rfl (by show 2 * 0 + _ ≤ _; exact Nat.le_of_eq rfl) (hb hby at_76) (by decide) (by decide) ?_
    intro v147 T147 L147 X147 hQ147
    obtain ⟨⟨lf, it, rfl, szl, szi, g_it, ne_it_lf, Llf, Ci, I1, I2, I3, I4⟩, Nq147, Kq147⟩ := hQ147
    have N147 := Fr.app N141 Nq147
    show OGo p e below _ T147 (mkF m 79 #[.val (.int p1), .val (.int p2), .val (.int p3), .val (.int p4), .val (.int (p1 &&& (3 : Int32))), .val (.ref r1), .val (.ref r2), .val (.ref r3), .val (.ref nb125), .unset, .unset, .unset, .unset, .unset, .unset, .unset] [(.ref lf)])
    have ne_ed_it : ed ≠ it := Nat.ne_of_lt (Nat.lt_of_lt_of_le V_142.lt szi)
    have ne_r1_it : r1 ≠ it := Nat.ne_of_lt (Nat.lt_of_lt_of_le C_143.lt szi)
    have ne_r2_it : r2 ≠ it := Nat.ne_of_lt (Nat.lt_of_lt_of_le C_144.lt szi)
    have ne_r3_it : r3 ≠ it := Nat.ne_of_lt (Nat.lt_of_lt_of_le C_145.lt szi)
    have ne_nb125_it : nb125 ≠ it := Nat.ne_of_lt (Nat.lt_of_lt_of_le Cq139.lt szi)
    have ne_ar_it : ar ≠ it := Nat.ne_of_lt (Nat.lt_of_lt_of_le Vq139.lt szi)
    refine own_step (g' := (mkF m 81 #[.val (.int p1), .val (.int p2), .val (.int p3), .val (.int p4), .val (.int (p1 &&& (3 : Int32))), .val (.ref r1), .val (.ref r2), .val (.ref r3), .val (.ref nb125), .val (.ref lf), .unset, .unset, .unset, .unset, .unset, .unset] [])) (fun _ k => XS.astore X147.here hx rfl (hb hby at_79) rfl rfl (l' := #[.val (.int p1), .val (.int p2), .val (.int p3), .val (.int p4), .val (.int (p1 &&& (3 : Int32))), .val (.ref r1), .val (.ref r2), .val (.ref r3), .val (.ref nb125), .val (.ref lf), .unset, .unset, .unset, .unset, .unset, .unset]) rfl k) ?_
    refine own_step (g' := (mkF m 83 #[.val (.int p1), .val (.int p2), .val (.int p3), .val (.int p4), .val (.int (p1 &&& (3 : Int32))), .val (.ref r1), .val (.ref r2), .val (.ref r3), .val (.ref nb125), .val (.ref lf), .unset, .unset, .unset, .unset, .unset, .unset] [(.ref lf)])) (fun _ k => XS.aload X147.here hx rfl (hb hby at_81) rfl rfl k) ?_
    have C_149 : Exa Z T147.heap nb125 "java/util/ArrayList" := (Cq139.keep Kq147)
    have F_150 : Fld Z T147.heap nb125 "java/util/AbstractList" "modCount" "I" (.int (2 : Int32)) := (F1q139.keep Kq147 nin0)
    have F_151 : Fld Z T147.heap nb125 "java/util/ArrayList" "size" "I" (.int (2 : Int32)) := (F3q139.keep Kq147 nin0)
    have F_152 : Fld Z T147.heap nb125 "java/util/ArrayList" "elementData" "[Ljava/lang/Object;" (.ref ar) := (F2q139.keep Kq147 nin0)
    have V_153 : Arv Z T147.heap ar kq132 (.object "java/lang/Object") (10 : Int32) [(.ref r1), (.ref r2), .null, .null, .null, .null, .null, .null, .null, .null] .null := (Vq139.keep Kq147 nin0)
    refine own_fwd X147 hx hZ (W := 0) hown rfl HL Llf (rmLam2_0 l Z a0 hw [] it nb125 ar r1 r2 kq132 T147.heap n0 (Nat.le_trans (Nat.le_trans (Nat.le_trans (Nat.le_trans (Nat.le_trans (Nat.le_trans (Nat.le_trans (Nat.le_trans Z0 Kq116.1) Kq120.1) Kq124.1) Ex125.1) Kq131.1) Kq138.1) Kq141.1) Kq147.1) Ci I1 I2 I3 I4 C_149 F_150 F_151 g_it F_152 V_153) (fun v h L q => ⟨_, q.1, rfl⟩) (hw _ (List.mem_of_getElem? (i := 65) rfl)) (hw _ (List.mem_of_getElem? (i := 66) rfl)) (hw _ (List.mem_of_getElem? (i := 67) rfl)) (hw _ (List.mem_of_getElem? (i := 69) rfl)) (hw _ (List.mem_of_getElem? (i := 35) rfl)) (hw _ (List.mem_of_getElem? (i := 68) rfl)) (by decide) (by decide) (g := (mkF m 83 #[.val (.int p1), .val (.int p2), .val (.int p3), .val (.int p4), .val (.int (p1 &&& (3 : Int32))), .val (.ref r1), .val (.ref r2), .val (.ref r3), .val (.ref nb125), .val (.ref lf), .unset, .unset, .unset, .unset, .unset, .unset] [(.ref lf)])) rfl (by rw [hml]; rfl) (rest := []) rfl (by show 2 * 0 + _ ≤ _; exact Nat.le_of_eq rfl) (hb hby at_83) (by decide) (by decide) ?_
    intro v148 T148 L148 X148 hQ148
    obtain ⟨rfl, Nq148, Kq148, Ci148, Fi148_0, Fi148_1, Fi148_2, Fi148_3⟩ := hQ148
    have N148 := Fr.app N147 Nq148
    show OGo p e below _ T148 (mkF m 88 #[.val (.int p1), .val (.int p2), .val (.int p3), .val (.int p4), .val (.int (p1 &&& (3 : Int32))), .val (.ref r1), .val (.ref r2), .val (.ref r3), .val (.ref nb125), .val (.ref lf), .unset, .unset, .unset, .unset, .unset, .unset] [(.ref r1)])
    have C_154 : Exa Z T148.heap r1 "java/lang/Integer" := ((C_143.keep Kq147).keep Kq148)
    obtain ⟨T155, X155, e155, st155⟩ := castY X148 hx hZ hown (hw _ (List.mem_of_getElem? (i := 150) rfl)) rfl (Ins.self C_154) (g := (mkF m 88 #[.val (.int p1), .val (.int p2), .val (.int p3), .val (.int p4), .val (.int (p1 &&& (3 : Int32))), .val (.ref r1), .val (.ref r2), .val (.ref r3), .val (.ref nb125), .val (.ref lf), .unset, .unset, .unset, .unset, .unset, .unset] [(.ref r1)])) rfl rfl (hb hby at_88)
    refine own_via (g' := (mkF m 91 #[.val (.int p1), .val (.int p2), .val (.int p3), .val (.int p4), .val (.int (p1 &&& (3 : Int32))), .val (.ref r1), .val (.ref r2), .val (.ref r3), .val (.ref nb125), .val (.ref lf), .unset, .unset, .unset, .unset, .unset, .unset] [(.ref r1)])) st155 ?_
    refine own_step (g' := (mkF m 93 #[.val (.int p1), .val (.int p2), .val (.int p3), .val (.int p4), .val (.int (p1 &&& (3 : Int32))), .val (.ref r1), .val (.ref r2), .val (.ref r3), .val (.ref nb125), .val (.ref lf), .val (.ref r1), .unset, .unset, .unset, .unset, .unset] [])) (fun _ k => XS.astore X155.here hx rfl (hb hby at_91) rfl rfl (l' := #[.val (.int p1), .val (.int p2), .val (.int p3), .val (.int p4), .val (.int (p1 &&& (3 : Int32))), .val (.ref r1), .val (.ref r2), .val (.ref r3), .val (.ref nb125), .val (.ref lf), .val (.ref r1), .unset, .unset, .unset, .unset, .unset]) rfl k) ?_
    refine own_step (g' := (mkF m 95 #[.val (.int p1), .val (.int p2), .val (.int p3), .val (.int p4), .val (.int (p1 &&& (3 : Int32))), .val (.ref r1), .val (.ref r2), .val (.ref r3), .val (.ref nb125), .val (.ref lf), .val (.ref r1), .unset, .unset, .unset, .unset, .unset] [(.ref lf)])) (fun _ k => XS.aload X155.here hx rfl (hb hby at_93) rfl rfl k) ?_
    have C_157 : Exa Z T148.heap nb125 "java/util/ArrayList" := (C_149.keep Kq148)
    have F_158 : Fld Z T148.heap nb125 "java/util/AbstractList" "modCount" "I" (.int (2 : Int32)) := (F_150.keep Kq148 (ninS ne_nb125_it nin0))
    have F_159 : Fld Z T148.heap nb125 "java/util/ArrayList" "size" "I" (.int (2 : Int32)) := (F_151.keep Kq148 (ninS ne_nb125_it nin0))
    have F_160 : Fld Z T148.heap nb125 "java/util/ArrayList" "elementData" "[Ljava/lang/Object;" (.ref ar) := (F_152.keep Kq148 (ninS ne_nb125_it nin0))
    have V_161 : Arv Z T148.heap ar kq132 (.object "java/lang/Object") (10 : Int32) [(.ref r1), (.ref r2), .null, .null, .null, .null, .null, .null, .null, .null] .null := (V_153.keep Kq148 (ninS ne_ar_it nin0))
    have L_162 : T148.heap[lf]? = some (own_lam cK it) := (Kq148.2.1 _ _ Llf (ninS (Ne.symm ne_it_lf) nin0))
    refine own_fwd X155 hx hZ (W := 0) hown e155 HL L_162 (rmLam2_1 l Z a0 hw [] it nb125 ar r1 r2 kq132 T148.heap n0 (Nat.le_trans (Nat.le_trans (Nat.le_trans (Nat.le_trans (Nat.le_trans (Nat.le_trans (Nat.le_trans (Nat.le_trans (Nat.le_trans Z0 Kq116.1) Kq120.1) Kq124.1) Ex125.1) Kq131.1) Kq138.1) Kq141.1) Kq147.1) Kq148.1) Ci148 Fi148_0 Fi148_1 Fi148_2 Fi148_3 C_157 F_158 F_159 g_it F_160 V_161) (fun v h L q => ⟨_, q.1, rfl⟩) (hw _ (List.mem_of_getElem? (i := 65) rfl)) (hw _ (List.mem_of_getElem? (i := 66) rfl)) (hw _ (List.mem_of_getElem? (i := 67) rfl)) (hw _ (List.mem_of_getElem? (i := 69) rfl)) (hw _ (List.mem_of_getElem? (i := 35) rfl)) (hw _ (List.mem_of_getElem? (i := 68) rfl)) (by decide) (by decide) (g := (mkF m 95 #[.val (.int p1), .val (.int p2), .val (.int p3), .val (.int p4), .val (.int (p1 &&& (3 : Int32))), .val (.ref r1), .val (.ref r2), .val (.ref r3), .val (.ref nb125), .val (.ref lf), .val (.ref r1), .unset, .unset, .unset, .unset, .unset] [(.ref lf)])) rfl (by rw [hml]; rfl) (rest := []) rfl (by show 2 * 0 + _ ≤ _; exact Nat.le_of_eq rfl) (hb hby at_95) (by decide) (by decide) ?_
    intro v156 T156 L156 X156 hQ156
    obtain ⟨rfl, Nq156, Kq156, Ci156, Fi156_0, Fi156_1, Fi156_2, Fi156_3⟩ := hQ156
    have N156 := Fr.app N148 Nq156
    show OGo p e below _ T156 (mkF m 100 #[.val (.int p1), .val (.int p2), .val (.int p3), .val (.int p4), .val (.int (p1 &&& (3 : Int32))), .val (.ref r1), .val (.ref r2), .val (.ref r3), .val (.ref nb125), .val (.ref lf), .val (.ref r1), .unset, .unset, .unset, .unset, .unset] [(.ref r2)])
    have C_163 : Exa Z T156.heap r2 "java/lang/Integer" := (((C_144.keep Kq147).keep Kq148).keep Kq156)
    obtain ⟨T164, X164, e164, st164⟩ := castY X156 hx hZ hown (hw _ (List.mem_of_getElem? (i := 150) rfl)) rfl (Ins.self C_163) (g := (mkF m 100 #[.val (.int p1), .val (.int p2), .val (.int p3), .val (.int p4), .val (.int (p1 &&& (3 : Int32))), .val (.ref r1), .val (.ref r2), .val (.ref r3), .val (.ref nb125), .val (.ref lf), .val (.ref r1), .unset, .unset, .unset, .unset, .unset] [(.ref r2)])) rfl rfl (hb hby at_100)
    refine own_via (g' := (mkF m 103 #[.val (.int p1), .val (.int p2), .val (.int p3), .val (.int p4), .val (.int (p1 &&& (3 : Int32))), .val (.ref r1), .val (.ref r2), .val (.ref r3), .val (.ref nb125), .val (.ref lf), .val (.ref r1), .unset, .unset, .unset, .unset, .unset] [(.ref r2)])) st164 ?_
    refine own_step (g' := (mkF m 105 #[.val (.int p1), .val (.int p2), .val (.int p3), .val (.int p4), .val (.int (p1 &&& (3 : Int32))), .val (.ref r1), .val (.ref r2), .val (.ref r3), .val (.ref nb125), .val (.ref lf), .val (.ref r1), .val (.ref r2), .unset, .unset, .unset, .unset] [])) (fun _ k => XS.astore X164.here hx rfl (hb hby at_103) rfl rfl (l' := #[.val (.int p1), .val (.int p2), .val (.int p3), .val (.int p4), .val (.int (p1 &&& (3 : Int32))), .val (.ref r1), .val (.ref r2), .val (.ref r3), .val (.ref nb125), .val (.ref lf), .val (.ref r1), .val (.ref r2), .unset, .unset, .unset, .unset]) rfl k) ?_
    refine own_step (g' := (mkF m 107 #[.val (.int p1), .val (.int p2), .val (.int p3), .val (.int p4), .val (.int (p1 &&& (3 : Int32))), .val (.ref r1), .val (.ref r2), .val (.ref r3), .val (.ref nb125), .val (.ref lf), .val (.ref r1), .val (.ref r2), .unset, .unset, .unset, .unset] [(.ref lf)])) (fun _ k => XS.aload X164.here hx rfl (hb hby at_105) rfl rfl k) ?_
    have C_166 : Exa Z T156.heap nb125 "java/util/ArrayList" := (C_157.keep Kq156)
    have F_167 : Fld Z T156.heap nb125 "java/util/AbstractList" "modCount" "I" (.int (2 : Int32)) := (F_158.keep Kq156 (ninS ne_nb125_it nin0))
    have F_168 : Fld Z T156.heap nb125 "java/util/ArrayList" "size" "I" (.int (2 : Int32)) := (F_159.keep Kq156 (ninS ne_nb125_it nin0))
    have L_169 : T156.heap[lf]? = some (own_lam cK it) := (Kq156.2.1 _ _ L_162 (ninS (Ne.symm ne_it_lf) nin0))
    refine own_fwd X164 hx hZ (W := 0) hown e164 HL L_169 (rmLam2_2 l Z a0 hw [] it nb125 T156.heap n0 (Nat.le_trans (Nat.le_trans (Nat.le_trans (Nat.le_trans (Nat.le_trans (Nat.le_trans (Nat.le_trans (Nat.le_trans (Nat.le_trans (Nat.le_trans Z0 Kq116.1) Kq120.1) Kq124.1) Ex125.1) Kq131.1) Kq138.1) Kq141.1) Kq147.1) Kq148.1) Kq156.1) Ci156 Fi156_0 Fi156_1 Fi156_2 Fi156_3 C_166 F_167 F_168) (fun v h L q => ⟨_, q.1, rfl⟩) (hw _ (List.mem_of_getElem? (i := 65) rfl)) (hw _ (List.mem_of_getElem? (i := 66) rfl)) (hw _ (List.mem_of_getElem? (i := 67) rfl)) (hw _ (List.mem_of_getElem? (i := 69) rfl)) (hw _ (List.mem_of_getElem? (i := 35) rfl)) (hw _ (List.mem_of_getElem? (i := 68) rfl)) (by decide) (by decide) (g := (mkF m 107 #[.val (.int p1), .val (.int p2), .val (.int p3), .val (.int p4), .val (.int (p1 &&& (3 : Int32))), .val (.ref r1), .val (.ref r2), .val (.ref r3), .val (.ref nb125), .val (.ref lf), .val (.ref r1), .val (.ref r2), .unset, .unset, .unset, .unset] [(.ref lf)])) rfl (by rw [hml]; rfl) (rest := []) rfl (by show 2 * 0 + _ ≤ _; exact Nat.le_of_eq rfl) (hb hby at_107) (by decide) (by decide) ?_
    intro v165 T165 L165 X165 hQ165
    obtain ⟨rfl, Nq165, Kq165, Ci165, Fi165_0, Fi165_1, Fi165_2, Fi165_3⟩ := hQ165
    have N165 := Fr.app N156 Nq165
    show OGo p e below _ T165 (mkF m 112 #[.val (.int p1), .val (.int p2), .val (.int p3), .val (.int p4), .val (.int (p1 &&& (3 : Int32))), .val (.ref r1), .val (.ref r2), .val (.ref r3), .val (.ref nb125), .val (.ref lf), .val (.ref r1), .val (.ref r2), .unset, .unset, .unset, .unset] [.null])
    refine own_step (g' := (mkF m 115 #[.val (.int p1), .val (.int p2), .val (.int p3), .val (.int p4), .val (.int (p1 &&& (3 : Int32))), .val (.ref r1), .val (.ref r2), .val (.ref r3), .val (.ref nb125), .val (.ref lf), .val (.ref r1), .val (.ref r2), .unset, .unset, .unset, .unset] [.null])) (X165.checkcastNull hx (g := (mkF m 112 #[.val (.int p1), .val (.int p2), .val (.int p3), .val (.int p4), .val (.int (p1 &&& (3 : Int32))), .val (.ref r1), .val (.ref r2), .val (.ref r3), .val (.ref nb125), .val (.ref lf), .val (.ref r1), .val (.ref r2), .unset, .unset, .unset, .unset] [.null])) rfl rfl (hb hby at_112)) ?_
    refine own_step (g' := (mkF m 117 #[.val (.int p1), .val (.int p2), .val (.int p3), .val (.int p4), .val (.int (p1 &&& (3 : Int32))), .val (.ref r1), .val (.ref r2), .val (.ref r3), .val (.ref nb125), .val (.ref lf), .val (.ref r1), .val (.ref r2), .val .null, .unset, .unset, .unset] [])) (fun _ k => XS.astore X165.here hx rfl (hb hby at_115) rfl rfl (l' := #[.val (.int p1), .val (.int p2), .val (.int p3), .val (.int p4), .val (.int (p1 &&& (3 : Int32))), .val (.ref r1), .val (.ref r2), .val (.ref r3), .val (.ref nb125), .val (.ref lf), .val (.ref r1), .val (.ref r2), .val .null, .unset, .unset, .unset]) rfl k) ?_
    refine own_step (g' := (mkF m 119 #[.val (.int p1), .val (.int p2), .val (.int p3), .val (.int p4), .val (.int (p1 &&& (3 : Int32))), .val (.ref r1), .val (.ref r2), .val (.ref r3), .val (.ref nb125), .val (.ref lf), .val (.ref r1), .val (.ref r2), .val .null, .unset, .unset, .unset] [(.ref lf)])) (fun _ k => XS.aload X165.here hx rfl (hb hby at_117) rfl rfl k) ?_
    have C_171 : Exa Z T165.heap nb125 "java/util/ArrayList" := (C_166.keep Kq165)
    have F_172 : Fld Z T165.heap nb125 "java/util/AbstractList" "modCount" "I" (.int (2 : Int32)) := (F_167.keep Kq165 (ninS ne_nb125_it nin0))
    have F_173 : Fld Z T165.heap nb125 "java/util/ArrayList" "size" "I" (.int (2 : Int32)) := (F_168.keep Kq165 (ninS ne_nb125_it nin0))
    have L_174 : T165.heap[lf]? = some (own_lam cK it) := (Kq165.2.1 _ _ L_169 (ninS (Ne.symm ne_it_lf) nin0))
    refine own_fwd X165 hx hZ (W := 0) hown rfl HL L_174 (rmLam2_2 l Z a0 hw [] it nb125 T165.heap n0 (Nat.le_trans (Nat.le_trans (Nat.le_trans (Nat.le_trans (Nat.le_trans (Nat.le_trans (Nat.le_trans (Nat.le_trans (Nat.le_trans (Nat.le_trans (Nat.le_trans Z0 Kq116.1) Kq120.1) Kq124.1) Ex125.1) Kq131.1) Kq138.1) Kq141.1) Kq147.1) Kq148.1) Kq156.1) Kq165.1) Ci165 Fi165_0 Fi165_1 Fi165_2 Fi165_3 C_171 F_172 F_173) (fun v h L q => ⟨_, q.1, rfl⟩) (hw _ (List.mem_of_getElem? (i := 65) rfl)) (hw _ (List.mem_of_getElem? (i := 66) rfl)) (hw _ (List.mem_of_getElem? (i := 67) rfl)) (hw _ (List.mem_of_getElem? (i := 69) rfl)) (hw _ (List.mem_of_getElem? (i := 35) rfl)) (hw _ (List.mem_of_getElem? (i := 68) rfl)) (by decide) (by decide) (g := (mkF m 119 #[.val (.int p1), .val (.int p2), .val (.int p3), .val (.int p4), .val (.int (p1 &&& (3 : Int32))), .val (.ref r1), .val (.ref r2), .val (.ref r3), .val (.ref nb125), .val (.ref lf), .val (.ref r1), .val (.ref r2), .val .null, .unset, .unset, .unset] [(.ref lf)])) rfl (by rw [hml]; rfl) (rest := []) rfl (by show 2 * 0 + _ ≤ _; exact Nat.le_of_eq rfl) (hb hby at_119) (by decide) (by decide) ?_
    intro v170 T170 L170 X170 hQ170
    obtain ⟨rfl, Nq170, Kq170, Ci170, Fi170_0, Fi170_1, Fi170_2, Fi170_3⟩ := hQ170
    have N170 := Fr.app N165 Nq170
    show OGo p e below _ T170 (mkF m 124 #[.val (.int p1), .val (.int p2), .val (.int p3), .val (.int p4), .val (.int (p1 &&& (3 : Int32))), .val (.ref r1), .val (.ref r2), .val (.ref r3), .val (.ref nb125), .val (.ref lf), .val (.ref r1), .val (.ref r2), .val .null, .unset, .unset, .unset] [.null])
    refine own_step (g' := (mkF m 127 #[.val (.int p1), .val (.int p2), .val (.int p3), .val (.int p4), .val (.int (p1 &&& (3 : Int32))), .val (.ref r1), .val (.ref r2), .val (.ref r3), .val (.ref nb125), .val (.ref lf), .val (.ref r1), .val (.ref r2), .val .null, .unset, .unset, .unset] [.null])) (X170.checkcastNull hx (g := (mkF m 124 #[.val (.int p1), .val (.int p2), .val (.int p3), .val (.int p4), .val (.int (p1 &&& (3 : Int32))), .val (.ref r1), .val (.ref r2), .val (.ref r3), .val (.ref nb125), .val (.ref lf), .val (.ref r1), .val (.ref r2), .val .null, .unset, .unset, .unset] [.null])) rfl rfl (hb hby at_124)) ?_
    refine own_step (g' := (mkF m 129 #[.val (.int p1), .val (.int p2), .val (.int p3), .val (.int p4), .val (.int (p1 &&& (3 : Int32))), .val (.ref r1), .val (.ref r2), .val (.ref r3), .val (.ref nb125), .val (.ref lf), .val (.ref r1), .val (.ref r2), .val .null, .val .null, .unset, .unset] [])) (fun _ k => XS.astore X170.here hx rfl (hb hby at_127) rfl rfl (l' := #[.val (.int p1), .val (.int p2), .val (.int p3), .val (.int p4), .val (.int (p1 &&& (3 : Int32))), .val (.ref r1), .val (.ref r2), .val (.ref r3), .val (.ref nb125), .val (.ref lf), .val (.ref r1), .val (.ref r2), .val .null, .val .null, .unset, .unset]) rfl k) ?_
    refine own_step (g' := (mkF m 131 #[.val (.int p1), .val (.int p2), .val (.int p3), .val (.int p4), .val (.int (p1 &&& (3 : Int32))), .val (.ref r1), .val (.ref r2), .val (.ref r3), .val (.ref nb125), .val (.ref lf), .val (.ref r1), .val (.ref r2), .val .null, .val .null, .unset, .unset] [(.ref lf)])) (fun _ k => XS.aload X170.here hx rfl (hb hby at_129) rfl rfl k) ?_
    have C_176 : Exa Z T170.heap nb125 "java/util/ArrayList" := (C_171.keep Kq170)
    have F_177 : Fld Z T170.heap nb125 "java/util/AbstractList" "modCount" "I" (.int (2 : Int32)) := (F_172.keep Kq170 (ninS ne_nb125_it nin0))
    have F_178 : Fld Z T170.heap nb125 "java/util/ArrayList" "size" "I" (.int (2 : Int32)) := (F_173.keep Kq170 (ninS ne_nb125_it nin0))
    have L_179 : T170.heap[lf]? = some (own_lam cK it) := (Kq170.2.1 _ _ L_174 (ninS (Ne.symm ne_it_lf) nin0))
    refine own_fwd X170 hx hZ (W := 0) hown rfl HL L_179 (rmLam2_2 l Z a0 hw [] it nb125 T170.heap n0 (Nat.le_trans (Nat.le_trans (Nat.le_trans (Nat.le_trans (Nat.le_trans (Nat.le_trans (Nat.le_trans (Nat.le_trans (Nat.le_trans (Nat.le_trans (Nat.le_trans (Nat.le_trans Z0 Kq116.1) Kq120.1) Kq124.1) Ex125.1) Kq131.1) Kq138.1) Kq141.1) Kq147.1) Kq148.1) Kq156.1) Kq165.1) Kq170.1) Ci170 Fi170_0 Fi170_1 Fi170_2 Fi170_3 C_176 F_177 F_178) (fun v h L q => ⟨_, q.1, rfl⟩) (hw _ (List.mem_of_getElem? (i := 65) rfl)) (hw _ (List.mem_of_getElem? (i := 66) rfl)) (hw _ (List.mem_of_getElem? (i := 67) rfl)) (hw _ (List.mem_of_getElem? (i := 69) rfl)) (hw _ (List.mem_of_getElem? (i := 35) rfl)) (hw _ (List.mem_of_getElem? (i := 68) rfl)) (by decide) (by decide) (g := (mkF m 131 #[.val (.int p1), .val (.int p2), .val (.int p3), .val (.int p4), .val (.int (p1 &&& (3 : Int32))), .val (.ref r1), .val (.ref r2), .val (.ref r3), .val (.ref nb125), .val (.ref lf), .val (.ref r1), .val (.ref r2), .val .null, .val .null, .unset, .unset] [(.ref lf)])) rfl (by rw [hml]; rfl) (rest := []) rfl (by show 2 * 0 + _ ≤ _; exact Nat.le_of_eq rfl) (hb hby at_131) (by decide) (by decide) ?_
    intro v175 T175 L175 X175 hQ175
    obtain ⟨rfl, Nq175, Kq175, Ci175, Fi175_0, Fi175_1, Fi175_2, Fi175_3⟩ := hQ175
    have N175 := Fr.app N170 Nq175
    show OGo p e below _ T175 (mkF m 136 #[.val (.int p1), .val (.int p2), .val (.int p3), .val (.int p4), .val (.int (p1 &&& (3 : Int32))), .val (.ref r1), .val (.ref r2), .val (.ref r3), .val (.ref nb125), .val (.ref lf), .val (.ref r1), .val (.ref r2), .val .null, .val .null, .unset, .unset] [.null])
    refine own_step (g' := (mkF m 139 #[.val (.int p1), .val (.int p2), .val (.int p3), .val (.int p4), .val (.int (p1 &&& (3 : Int32))), .val (.ref r1), .val (.ref r2), .val (.ref r3), .val (.ref nb125), .val (.ref lf), .val (.ref r1), .val (.ref r2), .val .null, .val .null, .unset, .unset] [.null])) (X175.checkcastNull hx (g := (mkF m 136 #[.val (.int p1), .val (.int p2), .val (.int p3), .val (.int p4), .val (.int (p1 &&& (3 : Int32))), .val (.ref r1), .val (.ref r2), .val (.ref r3), .val (.ref nb125), .val (.ref lf), .val (.ref r1), .val (.ref r2), .val .null, .val .null, .unset, .unset] [.null])) rfl rfl (hb hby at_136)) ?_
    refine own_step (g' := (mkF m 141 #[.val (.int p1), .val (.int p2), .val (.int p3), .val (.int p4), .val (.int (p1 &&& (3 : Int32))), .val (.ref r1), .val (.ref r2), .val (.ref r3), .val (.ref nb125), .val (.ref lf), .val (.ref r1), .val (.ref r2), .val .null, .val .null, .val .null, .unset] [])) (fun _ k => XS.astore X175.here hx rfl (hb hby at_139) rfl rfl (l' := #[.val (.int p1), .val (.int p2), .val (.int p3), .val (.int p4), .val (.int (p1 &&& (3 : Int32))), .val (.ref r1), .val (.ref r2), .val (.ref r3), .val (.ref nb125), .val (.ref lf), .val (.ref r1), .val (.ref r2), .val .null, .val .null, .val .null, .unset]) rfl k) ?_
    refine own_step (g' := (mkF m 143 #[.val (.int p1), .val (.int p2), .val (.int p3), .val (.int p4), .val (.int (p1 &&& (3 : Int32))), .val (.ref r1), .val (.ref r2), .val (.ref r3), .val (.ref nb125), .val (.ref lf), .val (.ref r1), .val (.ref r2), .val .null, .val .null, .val .null, .unset] [(.int (p1 &&& (3 : Int32)))])) (fun _ k => XS.iload X175.here hx rfl (hb hby at_141) rfl k) ?_
    refine own_step (g' := (mkF m 144 #[.val (.int p1), .val (.int p2), .val (.int p3), .val (.int p4), .val (.int (p1 &&& (3 : Int32))), .val (.ref r1), .val (.ref r2), .val (.ref r3), .val (.ref nb125), .val (.ref lf), .val (.ref r1), .val (.ref r2), .val .null, .val .null, .val .null, .unset] [(.int (1 : Int32)), (.int (p1 &&& (3 : Int32)))])) (fun _ k => XS.iconst X175.here hx rfl (hb hby at_143) k) ?_
    refine own_step (g' := (mkF m 146 #[.val (.int p1), .val (.int p2), .val (.int p3), .val (.int p4), .val (.int (p1 &&& (3 : Int32))), .val (.ref r1), .val (.ref r2), .val (.ref r3), .val (.ref nb125), .val (.ref lf), .val (.ref r1), .val (.ref r2), .val .null, .val .null, .val .null, .unset] [(.ref r1), (.int (1 : Int32)), (.int (p1 &&& (3 : Int32)))])) (fun _ k => XS.aload X175.here hx rfl (hb hby at_144) rfl rfl k) ?_
    refine own_step (g' := (mkF m 148 #[.val (.int p1), .val (.int p2), .val (.int p3), .val (.int p4), .val (.int (p1 &&& (3 : Int32))), .val (.ref r1), .val (.ref r2), .val (.ref r3), .val (.ref nb125), .val (.ref lf), .val (.ref r1), .val (.ref r2), .val .null, .val .null, .val .null, .unset] [(.ref r1), (.ref r1), (.int (1 : Int32)), (.int (p1 &&& (3 : Int32)))])) (fun _ k => XS.aload X175.here hx rfl (hb hby at_146) rfl rfl k) ?_
    refine own_callS X175 hx hZ (W := 0) hown rfl (rmSlotY l Z a0 hw [] (p1 &&& (3 : Int32)) (1 : Int32) r1 T175.heap n0 (Nat.le_trans (Nat.le_trans (Nat.le_trans (Nat.le_trans (Nat.le_trans (Nat.le_trans (Nat.le_trans (Nat.le_trans (Nat.le_trans (Nat.le_trans (Nat.le_trans (Nat.le_trans (Nat.le_trans Z0 Kq116.1) Kq120.1) Kq124.1) Ex125.1) Kq131.1) Kq138.1) Kq141.1) Kq147.1) Kq148.1) Kq156.1) Kq165.1) Kq170.1) Kq175.1) (by rw [hq] <;> decide)) (hw _ (List.mem_of_getElem? (i := 83) rfl)) (hw _ (List.mem_of_getElem? (i := 84) rfl)) (hw _ (List.mem_of_getElem? (i := 85) rfl)) (hw _ (List.mem_of_getElem? (i := 86) rfl)) (by decide) (by decide) (by decide) (g := (mkF m 148 #[.val (.int p1), .val (.int p2), .val (.int p3), .val (.int p4), .val (.int (p1 &&& (3 : Int32))), .val (.ref r1), .val (.ref r2), .val (.ref r3), .val (.ref nb125), .val (.ref lf), .val (.ref r1), .val (.ref r2), .val .null, .val .null, .val .null, .unset] [(.ref r1), (.ref r1), (.int (1 : Int32)), (.int (p1 &&& (3 : Int32)))])) rfl (by rw [hml]; rfl) (argsL := [(.int (p1 &&& (3 : Int32))), (.int (1 : Int32)), (.ref r1), (.ref r1)]) (rest := []) rfl (lenOf pd_12 rfl) rfl (by show 2 * 0 + _ ≤ _; exact Nat.le_of_eq rfl) (hb hby at_148) (by decide) (by decide) ?_
    intro v180 T180 L180 X180 hQ180
    obtain ⟨rfl, rfl, e180⟩ := hQ180
    replace X180 := own_pureX X180
    show OGo p e below _ T180 (mkF m 151 #[.val (.int p1), .val (.int p2), .val (.int p3), .val (.int p4), .val (.int (p1 &&& (3 : Int32))), .val (.ref r1), .val (.ref r2), .val (.ref r3), .val (.ref nb125), .val (.ref lf), .val (.ref r1), .val (.ref r2), .val .null, .val .null, .val .null, .unset] [(.int (1 : Int32))])
    refine own_step (g' := (mkF m 154 #[.val (.int p1), .val (.int p2), .val (.int p3), .val (.int p4), .val (.int (p1 &&& (3 : Int32))), .val (.ref r1), .val (.ref r2), .val (.ref r3), .val (.ref nb125), .val (.ref lf), .val (.ref r1), .val (.ref r2), .val .null, .val .null, .val .null, .unset] [])) (fun _ k => XS.ifNo X180.here hx rfl (hb hby at_151) rfl ((if0 _ _).trans (feq (by decide : ¬ ((1 : Int32) = (0 : Int32)))).1) k) ?_
    refine own_step (g' := (mkF m 156 #[.val (.int p1), .val (.int p2), .val (.int p3), .val (.int p4), .val (.int (p1 &&& (3 : Int32))), .val (.ref r1), .val (.ref r2), .val (.ref r3), .val (.ref nb125), .val (.ref lf), .val (.ref r1), .val (.ref r2), .val .null, .val .null, .val .null, .unset] [(.int (p1 &&& (3 : Int32)))])) (fun _ k => XS.iload X180.here hx rfl (hb hby at_154) rfl k) ?_
    refine own_step (g' := (mkF m 157 #[.val (.int p1), .val (.int p2), .val (.int p3), .val (.int p4), .val (.int (p1 &&& (3 : Int32))), .val (.ref r1), .val (.ref r2), .val (.ref r3), .val (.ref nb125), .val (.ref lf), .val (.ref r1), .val (.ref r2), .val .null, .val .null, .val .null, .unset] [(.int (2 : Int32)), (.int (p1 &&& (3 : Int32)))])) (fun _ k => XS.iconst X180.here hx rfl (hb hby at_156) k) ?_
    refine own_step (g' := (mkF m 159 #[.val (.int p1), .val (.int p2), .val (.int p3), .val (.int p4), .val (.int (p1 &&& (3 : Int32))), .val (.ref r1), .val (.ref r2), .val (.ref r3), .val (.ref nb125), .val (.ref lf), .val (.ref r1), .val (.ref r2), .val .null, .val .null, .val .null, .unset] [(.ref r2), (.int (2 : Int32)), (.int (p1 &&& (3 : Int32)))])) (fun _ k => XS.aload X180.here hx rfl (hb hby at_157) rfl rfl k) ?_
    refine own_step (g' := (mkF m 161 #[.val (.int p1), .val (.int p2), .val (.int p3), .val (.int p4), .val (.int (p1 &&& (3 : Int32))), .val (.ref r1), .val (.ref r2), .val (.ref r3), .val (.ref nb125), .val (.ref lf), .val (.ref r1), .val (.ref r2), .val .null, .val .null, .val .null, .unset] [(.ref r2), (.ref r2), (.int (2 : Int32)), (.int (p1 &&& (3 : Int32)))])) (fun _ k => XS.aload X180.here hx rfl (hb hby at_159) rfl rfl k) ?_
    refine own_callS X180 hx hZ (W := 0) hown e180 (rmSlotY l Z a0 hw [] (p1 &&& (3 : Int32)) (2 : Int32) r2 T175.heap n0 (Nat.le_trans (Nat.le_trans (Nat.le_trans (Nat.le_trans (Nat.le_trans (Nat.le_trans (Nat.le_trans (Nat.le_trans (Nat.le_trans (Nat.le_trans (Nat.le_trans (Nat.le_trans (Nat.le_trans Z0 Kq116.1) Kq120.1) Kq124.1) Ex125.1) Kq131.1) Kq138.1) Kq141.1) Kq147.1) Kq148.1) Kq156.1) Kq165.1) Kq170.1) Kq175.1) (by rw [hq] <;> decide)) (hw _ (List.mem_of_getElem? (i := 83) rfl)) (hw _ (List.mem_of_getElem? (i := 84) rfl)) (hw _ (List.mem_of_getElem? (i := 85) rfl)) (hw _ (List.mem_of_getElem? (i := 86) rfl)) (by decide) (by decide) (by decide) (g := (mkF m 161 #[.val (.int p1), .val (.int p2), .val (.int p3), .val (.int p4), .val (.int (p1 &&& (3 : Int32))), .val (.ref r1), .val (.ref r2), .val (.ref r3), .val (.ref nb125), .val (.ref lf), .val (.ref r1), .val (.ref r2), .val .null, .val .null, .val .null, .unset] [(.ref r2), (.ref r2), (.int (2 : Int32)), (.int (p1 &&& (3 : Int32)))])) rfl (by rw [hml]; rfl) (argsL := [(.int (p1 &&& (3 : Int32))), (.int (2 : Int32)), (.ref r2), (.ref r2)]) (rest := []) rfl (lenOf pd_12 rfl) rfl (by show 2 * 0 + _ ≤ _; exact Nat.le_of_eq rfl) (hb hby at_161) (by decide) (by decide) ?_
    intro v181 T181 L181 X181 hQ181
    obtain ⟨rfl, rfl, e181⟩ := hQ181
    replace X181 := own_pureX X181
    show OGo p e below _ T181 (mkF m 164 #[.val (.int p1), .val (.int p2), .val (.int p3), .val (.int p4), .val (.int (p1 &&& (3 : Int32))), .val (.ref r1), .val (.ref r2), .val (.ref r3), .val (.ref nb125), .val (.ref lf), .val (.ref r1), .val (.ref r2), .val .null, .val .null, .val .null, .unset] [(.int (1 : Int32))])
    refine own_step (g' := (mkF m 167 #[.val (.int p1), .val (.int p2), .val (.int p3), .val (.int p4), .val (.int (p1 &&& (3 : Int32))), .val (.ref r1), .val (.ref r2), .val (.ref r3), .val (.ref nb125), .val (.ref lf), .val (.ref r1), .val (.ref r2), .val .null, .val .null, .val .null, .unset] [])) (fun _ k => XS.ifNo X181.here hx rfl (hb hby at_164) rfl ((if0 _ _).trans (feq (by decide : ¬ ((1 : Int32) = (0 : Int32)))).1) k) ?_
    refine own_step (g' := (mkF m 169 #[.val (.int p1), .val (.int p2), .val (.int p3), .val (.int p4), .val (.int (p1 &&& (3 : Int32))), .val (.ref r1), .val (.ref r2), .val (.ref r3), .val (.ref nb125), .val (.ref lf), .val (.ref r1), .val (.ref r2), .val .null, .val .null, .val .null, .unset] [(.int (p1 &&& (3 : Int32)))])) (fun _ k => XS.iload X181.here hx rfl (hb hby at_167) rfl k) ?_
    refine own_step (g' := (mkF m 170 #[.val (.int p1), .val (.int p2), .val (.int p3), .val (.int p4), .val (.int (p1 &&& (3 : Int32))), .val (.ref r1), .val (.ref r2), .val (.ref r3), .val (.ref nb125), .val (.ref lf), .val (.ref r1), .val (.ref r2), .val .null, .val .null, .val .null, .unset] [(.int (3 : Int32)), (.int (p1 &&& (3 : Int32)))])) (fun _ k => XS.iconst X181.here hx rfl (hb hby at_169) k) ?_
    refine own_step (g' := (mkF m 172 #[.val (.int p1), .val (.int p2), .val (.int p3), .val (.int p4), .val (.int (p1 &&& (3 : Int32))), .val (.ref r1), .val (.ref r2), .val (.ref r3), .val (.ref nb125), .val (.ref lf), .val (.ref r1), .val (.ref r2), .val .null, .val .null, .val .null, .unset] [.null, (.int (3 : Int32)), (.int (p1 &&& (3 : Int32)))])) (fun _ k => XS.aload X181.here hx rfl (hb hby at_170) rfl rfl k) ?_
    refine own_step (g' := (mkF m 174 #[.val (.int p1), .val (.int p2), .val (.int p3), .val (.int p4), .val (.int (p1 &&& (3 : Int32))), .val (.ref r1), .val (.ref r2), .val (.ref r3), .val (.ref nb125), .val (.ref lf), .val (.ref r1), .val (.ref r2), .val .null, .val .null, .val .null, .unset] [(.ref r3), .null, (.int (3 : Int32)), (.int (p1 &&& (3 : Int32)))])) (fun _ k => XS.aload X181.here hx rfl (hb hby at_172) rfl rfl k) ?_
    refine own_callS X181 hx hZ (W := 0) hown e181 (rmSlotN l Z a0 hw [] (p1 &&& (3 : Int32)) (3 : Int32) r3 T175.heap n0 (Nat.le_trans (Nat.le_trans (Nat.le_trans (Nat.le_trans (Nat.le_trans (Nat.le_trans (Nat.le_trans (Nat.le_trans (Nat.le_trans (Nat.le_trans (Nat.le_trans (Nat.le_trans (Nat.le_trans Z0 Kq116.1) Kq120.1) Kq124.1) Ex125.1) Kq131.1) Kq138.1) Kq141.1) Kq147.1) Kq148.1) Kq156.1) Kq165.1) Kq170.1) Kq175.1) (by rw [hq] <;> decide)) (hw _ (List.mem_of_getElem? (i := 83) rfl)) (hw _ (List.mem_of_getElem? (i := 84) rfl)) (hw _ (List.mem_of_getElem? (i := 85) rfl)) (hw _ (List.mem_of_getElem? (i := 86) rfl)) (by decide) (by decide) (by decide) (g := (mkF m 174 #[.val (.int p1), .val (.int p2), .val (.int p3), .val (.int p4), .val (.int (p1 &&& (3 : Int32))), .val (.ref r1), .val (.ref r2), .val (.ref r3), .val (.ref nb125), .val (.ref lf), .val (.ref r1), .val (.ref r2), .val .null, .val .null, .val .null, .unset] [(.ref r3), .null, (.int (3 : Int32)), (.int (p1 &&& (3 : Int32)))])) rfl (by rw [hml]; rfl) (argsL := [(.int (p1 &&& (3 : Int32))), (.int (3 : Int32)), .null, (.ref r3)]) (rest := []) rfl (lenOf pd_12 rfl) rfl (by show 2 * 0 + _ ≤ _; exact Nat.le_of_eq rfl) (hb hby at_174) (by decide) (by decide) ?_
    intro v182 T182 L182 X182 hQ182
    obtain ⟨rfl, rfl, e182⟩ := hQ182
    replace X182 := own_pureX X182
    show OGo p e below _ T182 (mkF m 177 #[.val (.int p1), .val (.int p2), .val (.int p3), .val (.int p4), .val (.int (p1 &&& (3 : Int32))), .val (.ref r1), .val (.ref r2), .val (.ref r3), .val (.ref nb125), .val (.ref lf), .val (.ref r1), .val (.ref r2), .val .null, .val .null, .val .null, .unset] [(.int (1 : Int32))])
    refine own_step (g' := (mkF m 180 #[.val (.int p1), .val (.int p2), .val (.int p3), .val (.int p4), .val (.int (p1 &&& (3 : Int32))), .val (.ref r1), .val (.ref r2), .val (.ref r3), .val (.ref nb125), .val (.ref lf), .val (.ref r1), .val (.ref r2), .val .null, .val .null, .val .null, .unset] [])) (fun _ k => XS.ifNo X182.here hx rfl (hb hby at_177) rfl ((if0 _ _).trans (feq (by decide : ¬ ((1 : Int32) = (0 : Int32)))).1) k) ?_
    refine own_step (g' := (mkF m 181 #[.val (.int p1), .val (.int p2), .val (.int p3), .val (.int p4), .val (.int (p1 &&& (3 : Int32))), .val (.ref r1), .val (.ref r2), .val (.ref r3), .val (.ref nb125), .val (.ref lf), .val (.ref r1), .val (.ref r2), .val .null, .val .null, .val .null, .unset] [(.int (1 : Int32))])) (fun _ k => XS.iconst X182.here hx rfl (hb hby at_180) k) ?_
    refine own_step (g' := (mkF m 185 #[.val (.int p1), .val (.int p2), .val (.int p3), .val (.int p4), .val (.int (p1 &&& (3 : Int32))), .val (.ref r1), .val (.ref r2), .val (.ref r3), .val (.ref nb125), .val (.ref lf), .val (.ref r1), .val (.ref r2), .val .null, .val .null, .val .null, .unset] [(.int (1 : Int32))])) (fun _ k => XS.goto X182.here hx rfl (pc0 := 181) (pc' := 185) rfl (hb hby at_181) (by decide) (by decide) k) ?_
    refine own_step (g' := (mkF m 187 #[.val (.int p1), .val (.int p2), .val (.int p3), .val (.int p4), .val (.int (p1 &&& (3 : Int32))), .val (.ref r1), .val (.ref r2), .val (.ref r3), .val (.ref nb125), .val (.ref lf), .val (.ref r1), .val (.ref r2), .val .null, .val .null, .val .null, .val (.int (1 : Int32))] [])) (fun _ k => XS.istore X182.here hx rfl (hb hby at_185) rfl (l' := #[.val (.int p1), .val (.int p2), .val (.int p3), .val (.int p4), .val (.int (p1 &&& (3 : Int32))), .val (.ref r1), .val (.ref r2), .val (.ref r3), .val (.ref nb125), .val (.ref lf), .val (.ref r1), .val (.ref r2), .val .null, .val .null, .val .null, .val (.int (1 : Int32))]) rfl k) ?_
    refine own_step (g' := (mkF m 189 #[.val (.int p1), .val (.int p2), .val (.int p3), .val (.int p4), .val (.int (p1 &&& (3 : Int32))), .val (.ref r1), .val (.ref r2), .val (.ref r3), .val (.ref nb125), .val (.ref lf), .val (.ref r1), .val (.ref r2), .val .null, .val .null, .val .null, .val (.int (1 : Int32))] [(.int (1 : Int32))])) (fun _ k => XS.iload X182.here hx rfl (hb hby at_187) rfl k) ?_
    refine own_step (g' := (mkF m 192 #[.val (.int p1), .val (.int p2), .val (.int p3), .val (.int p4), .val (.int (p1 &&& (3 : Int32))), .val (.ref r1), .val (.ref r2), .val (.ref r3), .val (.ref nb125), .val (.ref lf), .val (.ref r1), .val (.ref r2), .val .null, .val .null, .val .null, .val (.int (1 : Int32))] [])) (fun _ k => XS.ifNo X182.here hx rfl (hb hby at_189) rfl ((if0 _ _).trans (feq (by decide : ¬ ((1 : Int32) = (0 : Int32)))).1) k) ?_
    refine own_step (g' := (mkF m 194 #[.val (.int p1), .val (.int p2), .val (.int p3), .val (.int p4), .val (.int (p1 &&& (3 : Int32))), .val (.ref r1), .val (.ref r2), .val (.ref r3), .val (.ref nb125), .val (.ref lf), .val (.ref r1), .val (.ref r2), .val .null, .val .null, .val .null, .val (.int (1 : Int32))] [.null])) (fun _ k => XS.aload X182.here hx rfl (hb hby at_192) rfl rfl k) ?_
    refine own_step (g' := (mkF m 197 #[.val (.int p1), .val (.int p2), .val (.int p3), .val (.int p4), .val (.int (p1 &&& (3 : Int32))), .val (.ref r1), .val (.ref r2), .val (.ref r3), .val (.ref nb125), .val (.ref lf), .val (.ref r1), .val (.ref r2), .val .null, .val .null, .val .null, .val (.int (1 : Int32))] [])) (fun _ k => XS.ifnonnullNo X182.here hx rfl (hb hby at_194) rfl k) ?_
    refine own_step (g' := (mkF m 199 #[.val (.int p1), .val (.int p2), .val (.int p3), .val (.int p4), .val (.int (p1 &&& (3 : Int32))), .val (.ref r1), .val (.ref r2), .val (.ref r3), .val (.ref nb125), .val (.ref lf), .val (.ref r1), .val (.ref r2), .val .null, .val .null, .val .null, .val (.int (1 : Int32))] [.null])) (fun _ k => XS.aload X182.here hx rfl (hb hby at_197) rfl rfl k) ?_
    refine own_step (g' := (mkF m 202 #[.val (.int p1), .val (.int p2), .val (.int p3), .val (.int p4), .val (.int (p1 &&& (3 : Int32))), .val (.ref r1), .val (.ref r2), .val (.ref r3), .val (.ref nb125), .val (.ref lf), .val (.ref r1), .val (.ref r2), .val .null, .val .null, .val .null, .val (.int (1 : Int32))] [])) (fun _ k => XS.ifnonnullNo X182.here hx rfl (hb hby at_199) rfl k) ?_
    refine own_step (g' := (mkF m 203 #[.val (.int p1), .val (.int p2), .val (.int p3), .val (.int p4), .val (.int (p1 &&& (3 : Int32))), .val (.ref r1), .val (.ref r2), .val (.ref r3), .val (.ref nb125), .val (.ref lf), .val (.ref r1), .val (.ref r2), .val .null, .val .null, .val .null, .val (.int (1 : Int32))] [(.int (1 : Int32))])) (fun _ k => XS.iconst X182.here hx rfl (hb hby at_202) k) ?_
    refine own_step (g' := (mkF m 207 #[.val (.int p1), .val (.int p2), .val (.int p3), .val (.int p4), .val (.int (p1 &&& (3 : Int32))), .val (.ref r1), .val (.ref r2), .val (.ref r3), .val (.ref nb125), .val (.ref lf), .val (.ref r1), .val (.ref r2), .val .null, .val .null, .val .null, .val (.int (1 : Int32))] [(.int (1 : Int32))])) (fun _ k => XS.goto X182.here hx rfl (pc0 := 203) (pc' := 207) rfl (hb hby at_203) (by decide) (by decide) k) ?_
    refine own_step (g' := (mkF m 209 #[.val (.int p1), .val (.int p2), .val (.int p3), .val (.int p4), .val (.int (p1 &&& (3 : Int32))), .val (.ref r1), .val (.ref r2), .val (.ref r3), .val (.ref nb125), .val (.ref lf), .val (.ref r1), .val (.ref r2), .val .null, .val .null, .val .null, .val (.int (1 : Int32))] [])) (fun _ k => XS.istore X182.here hx rfl (hb hby at_207) rfl (l' := #[.val (.int p1), .val (.int p2), .val (.int p3), .val (.int p4), .val (.int (p1 &&& (3 : Int32))), .val (.ref r1), .val (.ref r2), .val (.ref r3), .val (.ref nb125), .val (.ref lf), .val (.ref r1), .val (.ref r2), .val .null, .val .null, .val .null, .val (.int (1 : Int32))]) rfl k) ?_
    refine own_step (g' := (mkF m 211 #[.val (.int p1), .val (.int p2), .val (.int p3), .val (.int p4), .val (.int (p1 &&& (3 : Int32))), .val (.ref r1), .val (.ref r2), .val (.ref r3), .val (.ref nb125), .val (.ref lf), .val (.ref r1), .val (.ref r2), .val .null, .val .null, .val .null, .val (.int (1 : Int32))] [(.int (1 : Int32))])) (fun _ k => XS.iload X182.here hx rfl (hb hby at_209) rfl k) ?_
    refine own_step (g' := (mkF m 214 #[.val (.int p1), .val (.int p2), .val (.int p3), .val (.int p4), .val (.int (p1 &&& (3 : Int32))), .val (.ref r1), .val (.ref r2), .val (.ref r3), .val (.ref nb125), .val (.ref lf), .val (.ref r1), .val (.ref r2), .val .null, .val .null, .val .null, .val (.int (1 : Int32))] [])) (fun _ k => XS.ifNo X182.here hx rfl (hb hby at_211) rfl ((if0 _ _).trans (feq (by decide : ¬ ((1 : Int32) = (0 : Int32)))).1) k) ?_
    refine own_step (g' := (mkF m 216 #[.val (.int p1), .val (.int p2), .val (.int p3), .val (.int p4), .val (.int (p1 &&& (3 : Int32))), .val (.ref r1), .val (.ref r2), .val (.ref r3), .val (.ref nb125), .val (.ref lf), .val (.ref r1), .val (.ref r2), .val .null, .val .null, .val .null, .val (.int (1 : Int32))] [(.ref nb125)])) (fun _ k => XS.aload X182.here hx rfl (hb hby at_214) rfl rfl k) ?_
    have F_183 : Fld Z T175.heap nb125 "java/util/ArrayList" "size" "I" (.int (2 : Int32)) := (F_178.keep Kq175 (ninS ne_nb125_it nin0))
    have C_185 : Exa Z T175.heap nb125 "java/util/ArrayList" := (C_176.keep Kq175)
    refine own_callV X182 hx hZ (W := 0) hown e182 (rmSize l Z a0 hw [] nb125 (2 : Int32) T175.heap n0 (Nat.le_trans (Nat.le_trans (Nat.le_trans (Nat.le_trans (Nat.le_trans (Nat.le_trans (Nat.le_trans (Nat.le_trans (Nat.le_trans (Nat.le_trans (Nat.le_trans (Nat.le_trans (Nat.le_trans Z0 Kq116.1) Kq120.1) Kq124.1) Ex125.1) Kq131.1) Kq138.1) Kq141.1) Kq147.1) Kq148.1) Kq156.1) Kq165.1) Kq170.1) Kq175.1) F_183) C_185 (hw _ (List.mem_of_getElem? (i := 87) rfl)) (hw _ (List.mem_of_getElem? (i := 88) rfl)) (notFace_of_selects (args := #[]) (mvT hZ (hw _ (List.mem_of_getElem? (i := 90) rfl)))) (hw _ (List.mem_of_getElem? (i := 90) rfl)) (hw _ (List.mem_of_getElem? (i := 89) rfl)) (hw _ (List.mem_of_getElem? (i := 91) rfl)) (hw _ (List.mem_of_getElem? (i := 9) rfl)) (by decide) (by decide) (by decide) (g := (mkF m 216 #[.val (.int p1), .val (.int p2), .val (.int p3), .val (.int p4), .val (.int (p1 &&& (3 : Int32))), .val (.ref r1), .val (.ref r2), .val (.ref r3), .val (.ref nb125), .val (.ref lf), .val (.ref r1), .val (.ref r2), .val .null, .val .null, .val .null, .val (.int (1 : Int32))] [(.ref nb125)])) rfl (by rw [hml]; rfl) (argsL := []) (rest := []) rfl (lenOf pd_13 rfl) rfl (by show 2 * 0 + _ ≤ _; exact Nat.le_of_eq rfl) (hb hby at_216) (by decide) (by decide) ?_
    intro v184 T184 L184 X184 hQ184
    obtain ⟨rfl, rfl, e184⟩ := hQ184
    replace X184 := own_pureX X184
    show OGo p e below _ T184 (mkF m 219 #[.val (.int p1), .val (.int p2), .val (.int p3), .val (.int p4), .val (.int (p1 &&& (3 : Int32))), .val (.ref r1), .val (.ref r2), .val (.ref r3), .val (.ref nb125), .val (.ref lf), .val (.ref r1), .val (.ref r2), .val .null, .val .null, .val .null, .val (.int (1 : Int32))] [(.int (2 : Int32))])
    refine own_step (g' := (mkF m 221 #[.val (.int p1), .val (.int p2), .val (.int p3), .val (.int p4), .val (.int (p1 &&& (3 : Int32))), .val (.ref r1), .val (.ref r2), .val (.ref r3), .val (.ref nb125), .val (.ref lf), .val (.ref r1), .val (.ref r2), .val .null, .val .null, .val .null, .val (.int (1 : Int32))] [(.int (p1 &&& (3 : Int32))), (.int (2 : Int32))])) (fun _ k => XS.iload X184.here hx rfl (hb hby at_219) rfl k) ?_
    refine own_step (g' := (mkF m 224 #[.val (.int p1), .val (.int p2), .val (.int p3), .val (.int p4), .val (.int (p1 &&& (3 : Int32))), .val (.ref r1), .val (.ref r2), .val (.ref r3), .val (.ref nb125), .val (.ref lf), .val (.ref r1), .val (.ref r2), .val .null, .val .null, .val .null, .val (.int (1 : Int32))] [])) (fun _ k => XS.icmpNo X184.here hx rfl (hb hby at_221) rfl (teq (by rw [hq] <;> decide : (2 : Int32) = (p1 &&& (3 : Int32)))).2 k) ?_
    refine own_step (g' := (mkF m 225 #[.val (.int p1), .val (.int p2), .val (.int p3), .val (.int p4), .val (.int (p1 &&& (3 : Int32))), .val (.ref r1), .val (.ref r2), .val (.ref r3), .val (.ref nb125), .val (.ref lf), .val (.ref r1), .val (.ref r2), .val .null, .val .null, .val .null, .val (.int (1 : Int32))] [(.int (1 : Int32))])) (fun _ k => XS.iconst X184.here hx rfl (hb hby at_224) k) ?_
    refine own_step (g' := (mkF m 229 #[.val (.int p1), .val (.int p2), .val (.int p3), .val (.int p4), .val (.int (p1 &&& (3 : Int32))), .val (.ref r1), .val (.ref r2), .val (.ref r3), .val (.ref nb125), .val (.ref lf), .val (.ref r1), .val (.ref r2), .val .null, .val .null, .val .null, .val (.int (1 : Int32))] [(.int (1 : Int32))])) (fun _ k => XS.goto X184.here hx rfl (pc0 := 225) (pc' := 229) rfl (hb hby at_225) (by decide) (by decide) k) ?_
    exact own_retN X184 hx (t := .boolean) hret (by simp) hlk (hb hby at_229) e184 (by exact ⟨rfl, N175⟩) (by decide) (by decide)
  · refine own_step (g' := (mkF m 1 #[.val (.int p1), .val (.int p2), .val (.int p3), .val (.int p4), .unset, .unset, .unset, .unset, .unset, .unset, .unset, .unset, .unset, .unset, .unset, .unset] [(.int p1)])) (fun _ k => XS.iloadN X0.here hx rfl (hb hby at_0) rfl k) ?_
    refine own_step (g' := (mkF m 2 #[.val (.int p1), .val (.int p2), .val (.int p3), .val (.int p4), .unset, .unset, .unset, .unset, .unset, .unset, .unset, .unset, .unset, .unset, .unset, .unset] [(.int (3 : Int32)), (.int p1)])) (fun _ k => XS.iconst X0.here hx rfl (hb hby at_1) k) ?_
    refine own_step (g' := (mkF m 3 #[.val (.int p1), .val (.int p2), .val (.int p3), .val (.int p4), .unset, .unset, .unset, .unset, .unset, .unset, .unset, .unset, .unset, .unset, .unset, .unset] [(.int (p1 &&& (3 : Int32)))])) (fun _ k => XS.iand X0.here hx rfl (hb hby at_2) rfl k) ?_
    refine own_step (g' := (mkF m 5 #[.val (.int p1), .val (.int p2), .val (.int p3), .val (.int p4), .val (.int (p1 &&& (3 : Int32))), .unset, .unset, .unset, .unset, .unset, .unset, .unset, .unset, .unset, .unset, .unset] [])) (fun _ k => XS.istore X0.here hx rfl (hb hby at_3) rfl (l' := #[.val (.int p1), .val (.int p2), .val (.int p3), .val (.int p4), .val (.int (p1 &&& (3 : Int32))), .unset, .unset, .unset, .unset, .unset, .unset, .unset, .unset, .unset, .unset, .unset]) rfl k) ?_
    refine own_step (g' := (mkF m 6 #[.val (.int p1), .val (.int p2), .val (.int p3), .val (.int p4), .val (.int (p1 &&& (3 : Int32))), .unset, .unset, .unset, .unset, .unset, .unset, .unset, .unset, .unset, .unset, .unset] [(.int p2)])) (fun _ k => XS.iloadN X0.here hx rfl (hb hby at_5) rfl k) ?_
    refine own_callS X0 hx hZ (W := 0) hown e0 (rmVO l Z a0 hw [] p2 ca cc vf h0 n0 Z0 S_hi S_ca Bx O0) (hw _ (List.mem_of_getElem? (i := 0) rfl)) (hw _ (List.mem_of_getElem? (i := 1) rfl)) (hw _ (List.mem_of_getElem? (i := 2) rfl)) (hw _ (List.mem_of_getElem? (i := 3) rfl)) (by decide) (by decide) (by decide) (g := (mkF m 6 #[.val (.int p1), .val (.int p2), .val (.int p3), .val (.int p4), .val (.int (p1 &&& (3 : Int32))), .unset, .unset, .unset, .unset, .unset, .unset, .unset, .unset, .unset, .unset, .unset] [(.int p2)])) rfl (by rw [hml]; rfl) (argsL := [(.int p2)]) (rest := []) rfl (lenOf pd_10 rfl) rfl (by show 2 * 0 + _ ≤ _; exact Nat.le_of_eq rfl) (hb hby at_6) (by decide) (by decide) ?_
    intro v186 T186 L186 X186 hQ186
    obtain ⟨⟨r1, rfl, Cr1⟩, Nq186, Kq186⟩ := hQ186
    have N186 := Fr.app N0 Nq186
    show OGo p e below _ T186 (mkF m 9 #[.val (.int p1), .val (.int p2), .val (.int p3), .val (.int p4), .val (.int (p1 &&& (3 : Int32))), .unset, .unset, .unset, .unset, .unset, .unset, .unset, .unset, .unset, .unset, .unset] [(.ref r1)])
    refine own_step (g' := (mkF m 11 #[.val (.int p1), .val (.int p2), .val (.int p3), .val (.int p4), .val (.int (p1 &&& (3 : Int32))), .val (.ref r1), .unset, .unset, .unset, .unset, .unset, .unset, .unset, .unset, .unset, .unset] [])) (fun _ k => XS.astore X186.here hx rfl (hb hby at_9) rfl rfl (l' := #[.val (.int p1), .val (.int p2), .val (.int p3), .val (.int p4), .val (.int (p1 &&& (3 : Int32))), .val (.ref r1), .unset, .unset, .unset, .unset, .unset, .unset, .unset, .unset, .unset, .unset]) rfl k) ?_
    refine own_step (g' := (mkF m 12 #[.val (.int p1), .val (.int p2), .val (.int p3), .val (.int p4), .val (.int (p1 &&& (3 : Int32))), .val (.ref r1), .unset, .unset, .unset, .unset, .unset, .unset, .unset, .unset, .unset, .unset] [(.int p3)])) (fun _ k => XS.iloadN X186.here hx rfl (hb hby at_11) rfl k) ?_
    have S_187 : Sta Z T186.heap "java/lang/Integer$IntegerCache" "high" "I" (.int (127 : Int32)) := (own_sta_keep S_hi Kq186 all0)
    have S_188 : Sta Z T186.heap "java/lang/Integer$IntegerCache" "cache" "[Ljava/lang/Integer;" (.ref ca) := (own_sta_keep S_ca Kq186 all0)
    have O_189 : Old Z n0 T186.heap := (O0.keep Kq186 all0)
    refine own_callS X186 hx hZ (W := 0) hown rfl (rmVO l Z a0 hw [] p3 ca cc vf T186.heap n0 (Nat.le_trans Z0 Kq186.1) S_187 S_188 Bx O_189) (hw _ (List.mem_of_getElem? (i := 0) rfl)) (hw _ (List.mem_of_getElem? (i := 1) rfl)) (hw _ (List.mem_of_getElem? (i := 2) rfl)) (hw _ (List.mem_of_getElem? (i := 3) rfl)) (by decide) (by decide) (by decide) (g := (mkF m 12 #[.val (.int p1), .val (.int p2), .val (.int p3), .val (.int p4), .val (.int (p1 &&& (3 : Int32))), .val (.ref r1), .unset, .unset, .unset, .unset, .unset, .unset, .unset, .unset, .unset, .unset] [(.int p3)])) rfl (by rw [hml]; rfl) (argsL := [(.int p3)]) (rest := []) rfl (lenOf pd_10 rfl) rfl (by show 2 * 0 + _ ≤ _; exact Nat.le_of_eq rfl) (hb hby at_12) (by decide) (by decide) ?_
    intro v190 T190 L190 X190 hQ190
    obtain ⟨⟨r2, rfl, Cr2⟩, Nq190, Kq190⟩ := hQ190
    have N190 := Fr.app N186 Nq190
    show OGo p e below _ T190 (mkF m 15 #[.val (.int p1), .val (.int p2), .val (.int p3), .val (.int p4), .val (.int (p1 &&& (3 : Int32))), .val (.ref r1), .unset, .unset, .unset, .unset, .unset, .unset, .unset, .unset, .unset, .unset] [(.ref r2)])
    refine own_step (g' := (mkF m 17 #[.val (.int p1), .val (.int p2), .val (.int p3), .val (.int p4), .val (.int (p1 &&& (3 : Int32))), .val (.ref r1), .val (.ref r2), .unset, .unset, .unset, .unset, .unset, .unset, .unset, .unset, .unset] [])) (fun _ k => XS.astore X190.here hx rfl (hb hby at_15) rfl rfl (l' := #[.val (.int p1), .val (.int p2), .val (.int p3), .val (.int p4), .val (.int (p1 &&& (3 : Int32))), .val (.ref r1), .val (.ref r2), .unset, .unset, .unset, .unset, .unset, .unset, .unset, .unset, .unset]) rfl k) ?_
    refine own_step (g' := (mkF m 18 #[.val (.int p1), .val (.int p2), .val (.int p3), .val (.int p4), .val (.int (p1 &&& (3 : Int32))), .val (.ref r1), .val (.ref r2), .unset, .unset, .unset, .unset, .unset, .unset, .unset, .unset, .unset] [(.int p4)])) (fun _ k => XS.iloadN X190.here hx rfl (hb hby at_17) rfl k) ?_
    have S_191 : Sta Z T190.heap "java/lang/Integer$IntegerCache" "high" "I" (.int (127 : Int32)) := (own_sta_keep S_187 Kq190 all0)
    have S_192 : Sta Z T190.heap "java/lang/Integer$IntegerCache" "cache" "[Ljava/lang/Integer;" (.ref ca) := (own_sta_keep S_188 Kq190 all0)
    have O_193 : Old Z n0 T190.heap := (O_189.keep Kq190 all0)
    refine own_callS X190 hx hZ (W := 0) hown rfl (rmVO l Z a0 hw [] p4 ca cc vf T190.heap n0 (Nat.le_trans (Nat.le_trans Z0 Kq186.1) Kq190.1) S_191 S_192 Bx O_193) (hw _ (List.mem_of_getElem? (i := 0) rfl)) (hw _ (List.mem_of_getElem? (i := 1) rfl)) (hw _ (List.mem_of_getElem? (i := 2) rfl)) (hw _ (List.mem_of_getElem? (i := 3) rfl)) (by decide) (by decide) (by decide) (g := (mkF m 18 #[.val (.int p1), .val (.int p2), .val (.int p3), .val (.int p4), .val (.int (p1 &&& (3 : Int32))), .val (.ref r1), .val (.ref r2), .unset, .unset, .unset, .unset, .unset, .unset, .unset, .unset, .unset] [(.int p4)])) rfl (by rw [hml]; rfl) (argsL := [(.int p4)]) (rest := []) rfl (lenOf pd_10 rfl) rfl (by show 2 * 0 + _ ≤ _; exact Nat.le_of_eq rfl) (hb hby at_18) (by decide) (by decide) ?_
    intro v194 T194 L194 X194 hQ194
    obtain ⟨⟨r3, rfl, Cr3⟩, Nq194, Kq194⟩ := hQ194
    have N194 := Fr.app N190 Nq194
    show OGo p e below _ T194 (mkF m 21 #[.val (.int p1), .val (.int p2), .val (.int p3), .val (.int p4), .val (.int (p1 &&& (3 : Int32))), .val (.ref r1), .val (.ref r2), .unset, .unset, .unset, .unset, .unset, .unset, .unset, .unset, .unset] [(.ref r3)])
    refine own_step (g' := (mkF m 23 #[.val (.int p1), .val (.int p2), .val (.int p3), .val (.int p4), .val (.int (p1 &&& (3 : Int32))), .val (.ref r1), .val (.ref r2), .val (.ref r3), .unset, .unset, .unset, .unset, .unset, .unset, .unset, .unset] [])) (fun _ k => XS.astore X194.here hx rfl (hb hby at_21) rfl rfl (l' := #[.val (.int p1), .val (.int p2), .val (.int p3), .val (.int p4), .val (.int (p1 &&& (3 : Int32))), .val (.ref r1), .val (.ref r2), .val (.ref r3), .unset, .unset, .unset, .unset, .unset, .unset, .unset, .unset]) rfl k) ?_
    have V_196 : Arv Z T194.heap ed kd (.object "java/lang/Object") (0 : Int32) [] .null := (((Vd.keep Kq186 nin0).keep Kq190 nin0).keep Kq194 nin0)
    have C_197 : Exa Z T194.heap r1 "java/lang/Integer" := ((Cr1.keep Kq190).keep Kq194)
    have C_198 : Exa Z T194.heap r2 "java/lang/Integer" := (Cr2.keep Kq194)
    obtain ⟨T195, h195, X195, e195, Ex195, A195, D195, -, st195⟩ := newO X194 hx hZ hown (hw _ (List.mem_of_getElem? (i := 7) rfl)) (hw _ (List.mem_of_getElem? (i := 8) rfl)) (hw _ (List.mem_of_getElem? (i := 9) rfl)) rfl (g := (mkF m 23 #[.val (.int p1), .val (.int p2), .val (.int p3), .val (.int p4), .val (.int (p1 &&& (3 : Int32))), .val (.ref r1), .val (.ref r2), .val (.ref r3), .unset, .unset, .unset, .unset, .unset, .unset, .unset, .unset] [])) rfl (hb hby at_23) (by decide) (by decide)
    obtain ⟨nb195, g195⟩ : ∃ z, z = T194.heap.size := ⟨_, rfl⟩
    rw [← g195] at A195 D195 st195
    have g_nb195 : n0 ≤ nb195 := Nat.le_trans (Nat.le_trans (Nat.le_trans (Nat.le_trans Z0 Kq186.1) Kq190.1) Kq194.1) (Nat.le_of_eq g195.symm)
    have ne_ed_nb195 : ed ≠ nb195 := Nat.ne_of_lt (Nat.lt_of_lt_of_le V_196.lt (Nat.le_of_eq g195.symm))
    have ne_r1_nb195 : r1 ≠ nb195 := Nat.ne_of_lt (Nat.lt_of_lt_of_le C_197.lt (Nat.le_of_eq g195.symm))
    have ne_r2_nb195 : r2 ≠ nb195 := Nat.ne_of_lt (Nat.lt_of_lt_of_le C_198.lt (Nat.le_of_eq g195.symm))
    have ne_r3_nb195 : r3 ≠ nb195 := Nat.ne_of_lt (Nat.lt_of_lt_of_le Cr3.lt (Nat.le_of_eq g195.symm))
    have F195_modCount : Fld Z h195 nb195 "java/util/AbstractList" "modCount" "I" (.int (0 : Int32)) := D195 (Or.inl (hw _ (List.mem_of_getElem? (i := 29) rfl))) (ty := .int) (by decide)
    have F195_elementData : Fld Z h195 nb195 "java/util/ArrayList" "elementData" "[Ljava/lang/Object;" .null := D195 (Or.inl (hw _ (List.mem_of_getElem? (i := 32) rfl))) (ty := (.array (.object "java/lang/Object"))) (by decide)
    have F195_size : Fld Z h195 nb195 "java/util/ArrayList" "size" "I" (.int (0 : Int32)) := D195 (Or.inl (hw _ (List.mem_of_getElem? (i := 82) rfl))) (ty := .int) (by decide)
    refine own_via (g' := (mkF m 26 #[.val (.int p1), .val (.int p2), .val (.int p3), .val (.int p4), .val (.int (p1 &&& (3 : Int32))), .val (.ref r1), .val (.ref r2), .val (.ref r3), .unset, .unset, .unset, .unset, .unset, .unset, .unset, .unset] [(.ref nb195)])) st195 ?_
    refine own_step (g' := (mkF m 27 #[.val (.int p1), .val (.int p2), .val (.int p3), .val (.int p4), .val (.int (p1 &&& (3 : Int32))), .val (.ref r1), .val (.ref r2), .val (.ref r3), .unset, .unset, .unset, .unset, .unset, .unset, .unset, .unset] [(.ref nb195), (.ref nb195)])) (fun _ k => XS.dup X195.here hx rfl (hb hby at_26) rfl rfl k) ?_
    have S_200 : Sta Z h195 "java/util/ArrayList" "DEFAULTCAPACITY_EMPTY_ELEMENTDATA" "[Ljava/lang/Object;" (.ref ed) := (Sta.ext Ex195 (own_sta_keep (own_sta_keep (own_sta_keep S_DC Kq186 all0) Kq190 all0) Kq194 all0))
    refine own_init X195 hx hZ (W := 1) hown e195 (rmAL l Z a0 hw [] nb195 ed h195 n0 (Nat.le_trans (Nat.le_trans (Nat.le_trans (Nat.le_trans Z0 Kq186.1) Kq190.1) Kq194.1) Ex195.1) S_200 g_nb195 A195 F195_modCount F195_elementData F195_size) rfl (hw _ (List.mem_of_getElem? (i := 10) rfl)) (hw _ (List.mem_of_getElem? (i := 11) rfl)) (hw _ (List.mem_of_getElem? (i := 12) rfl)) (hw _ (List.mem_of_getElem? (i := 9) rfl)) (by decide) (by decide) (by decide) (g := (mkF m 27 #[.val (.int p1), .val (.int p2), .val (.int p3), .val (.int p4), .val (.int (p1 &&& (3 : Int32))), .val (.ref r1), .val (.ref r2), .val (.ref r3), .unset, .unset, .unset, .unset, .unset, .unset, .unset, .unset] [(.ref nb195), (.ref nb195)])) rfl (by rw [hml]; rfl) (argsL := []) (rest := [(.ref nb195)]) rfl (lenOf pd_0 rfl) rfl (by show 2 * 0 + _ ≤ _; exact Nat.le_of_eq rfl) (hb hby at_27) (by decide) (by decide) ?_
    intro v201 T201 L201 X201 hQ201
    obtain ⟨rfl, Nq201, Kq201, Cl199, F1l199, F2l199, F3l199⟩ := hQ201
    have N201 := Fr.app N194 Nq201
    show OGo p e below _ T201 (mkF m 30 #[.val (.int p1), .val (.int p2), .val (.int p3), .val (.int p4), .val (.int (p1 &&& (3 : Int32))), .val (.ref r1), .val (.ref r2), .val (.ref r3), .unset, .unset, .unset, .unset, .unset, .unset, .unset, .unset] [(.ref nb195)])
    refine own_step (g' := (mkF m 32 #[.val (.int p1), .val (.int p2), .val (.int p3), .val (.int p4), .val (.int (p1 &&& (3 : Int32))), .val (.ref r1), .val (.ref r2), .val (.ref r3), .val (.ref nb195), .unset, .unset, .unset, .unset, .unset, .unset, .unset] [])) (fun _ k => XS.astore X201.here hx rfl (hb hby at_30) rfl rfl (l' := #[.val (.int p1), .val (.int p2), .val (.int p3), .val (.int p4), .val (.int (p1 &&& (3 : Int32))), .val (.ref r1), .val (.ref r2), .val (.ref r3), .val (.ref nb195), .unset, .unset, .unset, .unset, .unset, .unset, .unset]) rfl k) ?_
    refine own_step (g' := (mkF m 34 #[.val (.int p1), .val (.int p2), .val (.int p3), .val (.int p4), .val (.int (p1 &&& (3 : Int32))), .val (.ref r1), .val (.ref r2), .val (.ref r3), .val (.ref nb195), .unset, .unset, .unset, .unset, .unset, .unset, .unset] [(.int (p1 &&& (3 : Int32)))])) (fun _ k => XS.iload X201.here hx rfl (hb hby at_32) rfl k) ?_
    refine own_step (g' := (mkF m 35 #[.val (.int p1), .val (.int p2), .val (.int p3), .val (.int p4), .val (.int (p1 &&& (3 : Int32))), .val (.ref r1), .val (.ref r2), .val (.ref r3), .val (.ref nb195), .unset, .unset, .unset, .unset, .unset, .unset, .unset] [(.int (1 : Int32)), (.int (p1 &&& (3 : Int32)))])) (fun _ k => XS.iconst X201.here hx rfl (hb hby at_34) k) ?_
    refine own_step (g' := (mkF m 38 #[.val (.int p1), .val (.int p2), .val (.int p3), .val (.int p4), .val (.int (p1 &&& (3 : Int32))), .val (.ref r1), .val (.ref r2), .val (.ref r3), .val (.ref nb195), .unset, .unset, .unset, .unset, .unset, .unset, .unset] [])) (fun _ k => XS.icmpNo X201.here hx rfl (hb hby at_35) rfl (flt (by rw [hq] <;> decide : ¬ ((p1 &&& (3 : Int32)) < (1 : Int32)))).1 k) ?_
    refine own_step (g' := (mkF m 40 #[.val (.int p1), .val (.int p2), .val (.int p3), .val (.int p4), .val (.int (p1 &&& (3 : Int32))), .val (.ref r1), .val (.ref r2), .val (.ref r3), .val (.ref nb195), .unset, .unset, .unset, .unset, .unset, .unset, .unset] [(.ref nb195)])) (fun _ k => XS.aload X201.here hx rfl (hb hby at_38) rfl rfl k) ?_
    refine own_step (g' := (mkF m 42 #[.val (.int p1), .val (.int p2), .val (.int p3), .val (.int p4), .val (.int (p1 &&& (3 : Int32))), .val (.ref r1), .val (.ref r2), .val (.ref r3), .val (.ref nb195), .unset, .unset, .unset, .unset, .unset, .unset, .unset] [(.ref r1), (.ref nb195)])) (fun _ k => XS.aload X201.here hx rfl (hb hby at_40) rfl rfl k) ?_
    have V_203 : Arv Z T201.heap ed kd (.object "java/lang/Object") (0 : Int32) [] .null := ((V_196.ext Ex195).keep Kq201 (ninS ne_ed_nb195 nin0))
    have C_204 : Exa Z T201.heap r1 "java/lang/Integer" := ((Exa.ext Ex195 C_197).keep Kq201)
    have C_205 : Exa Z T201.heap r2 "java/lang/Integer" := ((Exa.ext Ex195 C_198).keep Kq201)
    have C_206 : Exa Z T201.heap r3 "java/lang/Integer" := ((Exa.ext Ex195 Cr3).keep Kq201)
    have S_207 : Sta Z T201.heap "java/util/ArrayList" "DEFAULTCAPACITY_EMPTY_ELEMENTDATA" "[Ljava/lang/Object;" (.ref ed) := (own_sta_keep S_200 Kq201 (allS (own_nsE A195) all0))
    refine own_callV X201 hx hZ (W := 0) hown rfl (rmAdd0 l Z a0 hw [] nb195 r1 ed kd (0 : Int32) T201.heap n0 (Nat.le_trans (Nat.le_trans (Nat.le_trans (Nat.le_trans (Nat.le_trans Z0 Kq186.1) Kq190.1) Kq194.1) Ex195.1) Kq201.1) S_207 V_203 g_nb195 Cl199 F1l199 F2l199 F3l199 C_204) Cl199 (hw _ (List.mem_of_getElem? (i := 108) rfl)) (hw _ (List.mem_of_getElem? (i := 109) rfl)) (notFace_of_selects (args := #[]) (mvT hZ (hw _ (List.mem_of_getElem? (i := 111) rfl)))) (hw _ (List.mem_of_getElem? (i := 111) rfl)) (hw _ (List.mem_of_getElem? (i := 110) rfl)) (hw _ (List.mem_of_getElem? (i := 112) rfl)) (hw _ (List.mem_of_getElem? (i := 9) rfl)) (by decide) (by decide) (by decide) (g := (mkF m 42 #[.val (.int p1), .val (.int p2), .val (.int p3), .val (.int p4), .val (.int (p1 &&& (3 : Int32))), .val (.ref r1), .val (.ref r2), .val (.ref r3), .val (.ref nb195), .unset, .unset, .unset, .unset, .unset, .unset, .unset] [(.ref r1), (.ref nb195)])) rfl (by rw [hml]; rfl) (argsL := [(.ref r1)]) (rest := []) rfl (lenOf pd_14 rfl) rfl (by show 2 * 0 + _ ≤ _; exact Nat.le_of_eq rfl) (hb hby at_42) (by decide) (by decide) ?_
    intro v208 T208 L208 X208 hQ208
    obtain ⟨⟨ar, kq202, rfl, szar, g_ar, Oq202, Vq202, Cq202, F1q202, F2q202, F3q202⟩, Nq208, Kq208⟩ := hQ208
    have N208 := Fr.app N201 Nq208
    show OGo p e below _ T208 (mkF m 45 #[.val (.int p1), .val (.int p2), .val (.int p3), .val (.int p4), .val (.int (p1 &&& (3 : Int32))), .val (.ref r1), .val (.ref r2), .val (.ref r3), .val (.ref nb195), .unset, .unset, .unset, .unset, .unset, .unset, .unset] [(.int (1 : Int32))])
    have ne_ed_ar : ed ≠ ar := Nat.ne_of_lt (Nat.lt_of_lt_of_le V_203.lt szar)
    have ne_r1_ar : r1 ≠ ar := Nat.ne_of_lt (Nat.lt_of_lt_of_le C_204.lt szar)
    have ne_r2_ar : r2 ≠ ar := Nat.ne_of_lt (Nat.lt_of_lt_of_le C_205.lt szar)
    have ne_r3_ar : r3 ≠ ar := Nat.ne_of_lt (Nat.lt_of_lt_of_le C_206.lt szar)
    have ne_l_ar : nb195 ≠ ar := Exa.neArv Cq202 Vq202 (hw _ (List.mem_of_getElem? (i := 8) rfl))
    refine own_step (g' := (mkF m 46 #[.val (.int p1), .val (.int p2), .val (.int p3), .val (.int p4), .val (.int (p1 &&& (3 : Int32))), .val (.ref r1), .val (.ref r2), .val (.ref r3), .val (.ref nb195), .unset, .unset, .unset, .unset, .unset, .unset, .unset] [])) (fun _ k => XS.pop X208.here hx rfl (hb hby at_45) rfl rfl k) ?_
    refine own_step (g' := (mkF m 48 #[.val (.int p1), .val (.int p2), .val (.int p3), .val (.int p4), .val (.int (p1 &&& (3 : Int32))), .val (.ref r1), .val (.ref r2), .val (.ref r3), .val (.ref nb195), .unset, .unset, .unset, .unset, .unset, .unset, .unset] [(.int (p1 &&& (3 : Int32)))])) (fun _ k => XS.iload X208.here hx rfl (hb hby at_46) rfl k) ?_
    refine own_step (g' := (mkF m 49 #[.val (.int p1), .val (.int p2), .val (.int p3), .val (.int p4), .val (.int (p1 &&& (3 : Int32))), .val (.ref r1), .val (.ref r2), .val (.ref r3), .val (.ref nb195), .unset, .unset, .unset, .unset, .unset, .unset, .unset] [(.int (2 : Int32)), (.int (p1 &&& (3 : Int32)))])) (fun _ k => XS.iconst X208.here hx rfl (hb hby at_48) k) ?_
    refine own_step (g' := (mkF m 52 #[.val (.int p1), .val (.int p2), .val (.int p3), .val (.int p4), .val (.int (p1 &&& (3 : Int32))), .val (.ref r1), .val (.ref r2), .val (.ref r3), .val (.ref nb195), .unset, .unset, .unset, .unset, .unset, .unset, .unset] [])) (fun _ k => XS.icmpNo X208.here hx rfl (hb hby at_49) rfl (flt (by rw [hq] <;> decide : ¬ ((p1 &&& (3 : Int32)) < (2 : Int32)))).1 k) ?_
    refine own_step (g' := (mkF m 54 #[.val (.int p1), .val (.int p2), .val (.int p3), .val (.int p4), .val (.int (p1 &&& (3 : Int32))), .val (.ref r1), .val (.ref r2), .val (.ref r3), .val (.ref nb195), .unset, .unset, .unset, .unset, .unset, .unset, .unset] [(.ref nb195)])) (fun _ k => XS.aload X208.here hx rfl (hb hby at_52) rfl rfl k) ?_
    refine own_step (g' := (mkF m 56 #[.val (.int p1), .val (.int p2), .val (.int p3), .val (.int p4), .val (.int (p1 &&& (3 : Int32))), .val (.ref r1), .val (.ref r2), .val (.ref r3), .val (.ref nb195), .unset, .unset, .unset, .unset, .unset, .unset, .unset] [(.ref r2), (.ref nb195)])) (fun _ k => XS.aload X208.here hx rfl (hb hby at_54) rfl rfl k) ?_
    have C_210 : Exa Z T208.heap r2 "java/lang/Integer" := (C_205.keep Kq208)
    refine own_callV X208 hx hZ (W := 0) hown rfl (rmAdd1 l Z a0 hw [] nb195 r2 ar r1 kq202 (1 : Int32) T208.heap n0 (Nat.le_trans (Nat.le_trans (Nat.le_trans (Nat.le_trans (Nat.le_trans (Nat.le_trans Z0 Kq186.1) Kq190.1) Kq194.1) Ex195.1) Kq201.1) Kq208.1) g_nb195 g_ar Oq202 Vq202 Cq202 F1q202 F2q202 F3q202 C_210) Cq202 (hw _ (List.mem_of_getElem? (i := 108) rfl)) (hw _ (List.mem_of_getElem? (i := 109) rfl)) (notFace_of_selects (args := #[]) (mvT hZ (hw _ (List.mem_of_getElem? (i := 111) rfl)))) (hw _ (List.mem_of_getElem? (i := 111) rfl)) (hw _ (List.mem_of_getElem? (i := 110) rfl)) (hw _ (List.mem_of_getElem? (i := 112) rfl)) (hw _ (List.mem_of_getElem? (i := 9) rfl)) (by decide) (by decide) (by decide) (g := (mkF m 56 #[.val (.int p1), .val (.int p2), .val (.int p3), .val (.int p4), .val (.int (p1 &&& (3 : Int32))), .val (.ref r1), .val (.ref r2), .val (.ref r3), .val (.ref nb195), .unset, .unset, .unset, .unset, .unset, .unset, .unset] [(.ref r2), (.ref nb195)])) rfl (by rw [hml]; rfl) (argsL := [(.ref r2)]) (rest := []) rfl (lenOf pd_14 rfl) rfl (by show 2 * 0 + _ ≤ _; exact Nat.le_of_eq rfl) (hb hby at_56) (by decide) (by decide) ?_
    intro v211 T211 L211 X211 hQ211
    obtain ⟨rfl, Nq211, Kq211, Vq209, Cq209, F1q209, F2q209, F3q209⟩ := hQ211
    have N211 := Fr.app N208 Nq211
    show OGo p e below _ T211 (mkF m 59 #[.val (.int p1), .val (.int p2), .val (.int p3), .val (.int p4), .val (.int (p1 &&& (3 : Int32))), .val (.ref r1), .val (.ref r2), .val (.ref r3), .val (.ref nb195), .unset, .unset, .unset, .unset, .unset, .unset, .unset] [(.int (1 : Int32))])
    refine own_step (g' := (mkF m 60 #[.val (.int p1), .val (.int p2), .val (.int p3), .val (.int p4), .val (.int (p1 &&& (3 : Int32))), .val (.ref r1), .val (.ref r2), .val (.ref r3), .val (.ref nb195), .unset, .unset, .unset, .unset, .unset, .unset, .unset] [])) (fun _ k => XS.pop X211.here hx rfl (hb hby at_59) rfl rfl k) ?_
    refine own_step (g' := (mkF m 62 #[.val (.int p1), .val (.int p2), .val (.int p3), .val (.int p4), .val (.int (p1 &&& (3 : Int32))), .val (.ref r1), .val (.ref r2), .val (.ref r3), .val (.ref nb195), .unset, .unset, .unset, .unset, .unset, .unset, .unset] [(.int (p1 &&& (3 : Int32)))])) (fun _ k => XS.iload X211.here hx rfl (hb hby at_60) rfl k) ?_
    refine own_step (g' := (mkF m 63 #[.val (.int p1), .val (.int p2), .val (.int p3), .val (.int p4), .val (.int (p1 &&& (3 : Int32))), .val (.ref r1), .val (.ref r2), .val (.ref r3), .val (.ref nb195), .unset, .unset, .unset, .unset, .unset, .unset, .unset] [(.int (3 : Int32)), (.int (p1 &&& (3 : Int32)))])) (fun _ k => XS.iconst X211.here hx rfl (hb hby at_62) k) ?_
    refine own_step (g' := (mkF m 66 #[.val (.int p1), .val (.int p2), .val (.int p3), .val (.int p4), .val (.int (p1 &&& (3 : Int32))), .val (.ref r1), .val (.ref r2), .val (.ref r3), .val (.ref nb195), .unset, .unset, .unset, .unset, .unset, .unset, .unset] [])) (fun _ k => XS.icmpNo X211.here hx rfl (hb hby at_63) rfl (flt (by rw [hq] <;> decide : ¬ ((p1 &&& (3 : Int32)) < (3 : Int32)))).1 k) ?_
    refine own_step (g' := (mkF m 68 #[.val (.int p1), .val (.int p2), .val (.int p3), .val (.int p4), .val (.int (p1 &&& (3 : Int32))), .val (.ref r1), .val (.ref r2), .val (.ref r3), .val (.ref nb195), .unset, .unset, .unset, .unset, .unset, .unset, .unset] [(.ref nb195)])) (fun _ k => XS.aload X211.here hx rfl (hb hby at_66) rfl rfl k) ?_
    refine own_step (g' := (mkF m 70 #[.val (.int p1), .val (.int p2), .val (.int p3), .val (.int p4), .val (.int (p1 &&& (3 : Int32))), .val (.ref r1), .val (.ref r2), .val (.ref r3), .val (.ref nb195), .unset, .unset, .unset, .unset, .unset, .unset, .unset] [(.ref r3), (.ref nb195)])) (fun _ k => XS.aload X211.here hx rfl (hb hby at_68) rfl rfl k) ?_
    have C_213 : Exa Z T211.heap r3 "java/lang/Integer" := ((C_206.keep Kq208).keep Kq211)
    refine own_callV X211 hx hZ (W := 0) hown rfl (rmAdd2 l Z a0 hw [] nb195 r3 ar r1 r2 kq202 (2 : Int32) T211.heap n0 (Nat.le_trans (Nat.le_trans (Nat.le_trans (Nat.le_trans (Nat.le_trans (Nat.le_trans (Nat.le_trans Z0 Kq186.1) Kq190.1) Kq194.1) Ex195.1) Kq201.1) Kq208.1) Kq211.1) g_nb195 g_ar Oq202 Vq209 Cq209 F1q209 F2q209 F3q209 C_213) Cq209 (hw _ (List.mem_of_getElem? (i := 108) rfl)) (hw _ (List.mem_of_getElem? (i := 109) rfl)) (notFace_of_selects (args := #[]) (mvT hZ (hw _ (List.mem_of_getElem? (i := 111) rfl)))) (hw _ (List.mem_of_getElem? (i := 111) rfl)) (hw _ (List.mem_of_getElem? (i := 110) rfl)) (hw _ (List.mem_of_getElem? (i := 112) rfl)) (hw _ (List.mem_of_getElem? (i := 9) rfl)) (by decide) (by decide) (by decide) (g := (mkF m 70 #[.val (.int p1), .val (.int p2), .val (.int p3), .val (.int p4), .val (.int (p1 &&& (3 : Int32))), .val (.ref r1), .val (.ref r2), .val (.ref r3), .val (.ref nb195), .unset, .unset, .unset, .unset, .unset, .unset, .unset] [(.ref r3), (.ref nb195)])) rfl (by rw [hml]; rfl) (argsL := [(.ref r3)]) (rest := []) rfl (lenOf pd_14 rfl) rfl (by show 2 * 0 + _ ≤ _; exact Nat.le_of_eq rfl) (hb hby at_70) (by decide) (by decide) ?_
    intro v214 T214 L214 X214 hQ214
    obtain ⟨rfl, Nq214, Kq214, Vq212, Cq212, F1q212, F2q212, F3q212⟩ := hQ214
    have N214 := Fr.app N211 Nq214
    show OGo p e below _ T214 (mkF m 73 #[.val (.int p1), .val (.int p2), .val (.int p3), .val (.int p4), .val (.int (p1 &&& (3 : Int32))), .val (.ref r1), .val (.ref r2), .val (.ref r3), .val (.ref nb195), .unset, .unset, .unset, .unset, .unset, .unset, .unset] [(.int (1 : Int32))])
    refine own_step (g' := (mkF m 74 #[.val (.int p1), .val (.int p2), .val (.int p3), .val (.int p4), .val (.int (p1 &&& (3 : Int32))), .val (.ref r1), .val (.ref r2), .val (.ref r3), .val (.ref nb195), .unset, .unset, .unset, .unset, .unset, .unset, .unset] [])) (fun _ k => XS.pop X214.here hx rfl (hb hby at_73) rfl rfl k) ?_
    refine own_step (g' := (mkF m 76 #[.val (.int p1), .val (.int p2), .val (.int p3), .val (.int p4), .val (.int (p1 &&& (3 : Int32))), .val (.ref r1), .val (.ref r2), .val (.ref r3), .val (.ref nb195), .unset, .unset, .unset, .unset, .unset, .unset, .unset] [(.ref nb195)])) (fun _ k => XS.aload X214.here hx rfl (hb hby at_74) rfl rfl k) ?_
    have V_215 : Arv Z T214.heap ed kd (.object "java/lang/Object") (0 : Int32) [] .null := (((V_203.keep Kq208 (ninS ne_ed_nb195 nin0)).keep Kq211 (ninS ne_ed_nb195 (ninS ne_ed_ar nin0))).keep Kq214 (ninS ne_ed_nb195 (ninS ne_ed_ar nin0)))
    have C_216 : Exa Z T214.heap r1 "java/lang/Integer" := (((C_204.keep Kq208).keep Kq211).keep Kq214)
    have C_217 : Exa Z T214.heap r2 "java/lang/Integer" := ((C_210.keep Kq211).keep Kq214)
    have C_218 : Exa Z T214.heap r3 "java/lang/Integer" := (C_213.keep Kq214)
    refine own_callS X214 hx hZ (W := 0) hown rfl (rmOver l Z a0 hw [] nb195 (3 : Int32) cK T214.heap n0 (Nat.le_trans (Nat.le_trans (Nat.le_trans (Nat.le_trans (Nat.le_trans (Nat.le_trans (Nat.le_trans (Nat.le_trans Z0 Kq186.1) Kq190.1) Kq194.1) Ex195.1) Kq201.1) Kq208.1) Kq211.1) Kq214.1) HL HS Cq212 F1q212) (hw _ (List.mem_of_getElem? (i := 33) rfl)) (hw _ (List.mem_of_getElem? (i := 34) rfl)) (hw _ (List.mem_of_getElem? (i := 35) rfl)) (hw _ (List.mem_of_getElem? (i := 36) rfl)) (by decide) (by decide) (by decide) (g := (mkF m 76 #[.val (.int p1), .val (.int p2), .val (.int p3), .val (.int p4), .val (.int (p1 &&& (3 : Int32))), .val (.ref r1), .val (.ref r2), .val (.ref r3), .val (.ref nb195), .unset, .unset, .unset, .unset, .unset, .unset, .unset] [(.ref nb195)])) rfl (by rw [hml]; rfl) (argsL := [(.ref nb195)]) (rest := []) rfl (lenOf pd_11 rfl) rfl (by show 2 * 0 + _ ≤ _; exact Nat.le_of_eq rfl) (hb hby at_76) (by decide) (by decide) ?_
    intro v220 T220 L220 X220 hQ220
    obtain ⟨⟨lf, it, rfl, szl, szi, g_it, ne_it_lf, Llf, Ci, I1, I2, I3, I4⟩, Nq220, Kq220⟩ := hQ220
    have N220 := Fr.app N214 Nq220
    show OGo p e below _ T220 (mkF m 79 #[.val (.int p1), .val (.int p2), .val (.int p3), .val (.int p4), .val (.int (p1 &&& (3 : Int32))), .val (.ref r1), .val (.ref r2), .val (.ref r3), .val (.ref nb195), .unset, .unset, .unset, .unset, .unset, .unset, .unset] [(.ref lf)])
    have ne_ed_it : ed ≠ it := Nat.ne_of_lt (Nat.lt_of_lt_of_le V_215.lt szi)
    have ne_r1_it : r1 ≠ it := Nat.ne_of_lt (Nat.lt_of_lt_of_le C_216.lt szi)
    have ne_r2_it : r2 ≠ it := Nat.ne_of_lt (Nat.lt_of_lt_of_le C_217.lt szi)
    have ne_r3_it : r3 ≠ it := Nat.ne_of_lt (Nat.lt_of_lt_of_le C_218.lt szi)
    have ne_nb195_it : nb195 ≠ it := Nat.ne_of_lt (Nat.lt_of_lt_of_le Cq212.lt szi)
    have ne_ar_it : ar ≠ it := Nat.ne_of_lt (Nat.lt_of_lt_of_le Vq212.lt szi)
    refine own_step (g' := (mkF m 81 #[.val (.int p1), .val (.int p2), .val (.int p3), .val (.int p4), .val (.int (p1 &&& (3 : Int32))), .val (.ref r1), .val (.ref r2), .val (.ref r3), .val (.ref nb195), .val (.ref lf), .unset, .unset, .unset, .unset, .unset, .unset] [])) (fun _ k => XS.astore X220.here hx rfl (hb hby at_79) rfl rfl (l' := #[.val (.int p1), .val (.int p2), .val (.int p3), .val (.int p4), .val (.int (p1 &&& (3 : Int32))), .val (.ref r1), .val (.ref r2), .val (.ref r3), .val (.ref nb195), .val (.ref lf), .unset, .unset, .unset, .unset, .unset, .unset]) rfl k) ?_
    refine own_step (g' := (mkF m 83 #[.val (.int p1), .val (.int p2), .val (.int p3), .val (.int p4), .val (.int (p1 &&& (3 : Int32))), .val (.ref r1), .val (.ref r2), .val (.ref r3), .val (.ref nb195), .val (.ref lf), .unset, .unset, .unset, .unset, .unset, .unset] [(.ref lf)])) (fun _ k => XS.aload X220.here hx rfl (hb hby at_81) rfl rfl k) ?_
    have C_222 : Exa Z T220.heap nb195 "java/util/ArrayList" := (Cq212.keep Kq220)
    have F_223 : Fld Z T220.heap nb195 "java/util/AbstractList" "modCount" "I" (.int (3 : Int32)) := (F1q212.keep Kq220 nin0)
    have F_224 : Fld Z T220.heap nb195 "java/util/ArrayList" "size" "I" (.int (3 : Int32)) := (F3q212.keep Kq220 nin0)
    have F_225 : Fld Z T220.heap nb195 "java/util/ArrayList" "elementData" "[Ljava/lang/Object;" (.ref ar) := (F2q212.keep Kq220 nin0)
    have V_226 : Arv Z T220.heap ar kq202 (.object "java/lang/Object") (10 : Int32) [(.ref r1), (.ref r2), (.ref r3), .null, .null, .null, .null, .null, .null, .null] .null := (Vq212.keep Kq220 nin0)
    refine own_fwd X220 hx hZ (W := 0) hown rfl HL Llf (rmLam3_0 l Z a0 hw [] it nb195 ar r1 r2 r3 kq202 T220.heap n0 (Nat.le_trans (Nat.le_trans (Nat.le_trans (Nat.le_trans (Nat.le_trans (Nat.le_trans (Nat.le_trans (Nat.le_trans (Nat.le_trans Z0 Kq186.1) Kq190.1) Kq194.1) Ex195.1) Kq201.1) Kq208.1) Kq211.1) Kq214.1) Kq220.1) Ci I1 I2 I3 I4 C_222 F_223 F_224 g_it F_225 V_226) (fun v h L q => ⟨_, q.1, rfl⟩) (hw _ (List.mem_of_getElem? (i := 65) rfl)) (hw _ (List.mem_of_getElem? (i := 66) rfl)) (hw _ (List.mem_of_getElem? (i := 67) rfl)) (hw _ (List.mem_of_getElem? (i := 69) rfl)) (hw _ (List.mem_of_getElem? (i := 35) rfl)) (hw _ (List.mem_of_getElem? (i := 68) rfl)) (by decide) (by decide) (g := (mkF m 83 #[.val (.int p1), .val (.int p2), .val (.int p3), .val (.int p4), .val (.int (p1 &&& (3 : Int32))), .val (.ref r1), .val (.ref r2), .val (.ref r3), .val (.ref nb195), .val (.ref lf), .unset, .unset, .unset, .unset, .unset, .unset] [(.ref lf)])) rfl (by rw [hml]; rfl) (rest := []) rfl (by show 2 * 0 + _ ≤ _; exact Nat.le_of_eq rfl) (hb hby at_83) (by decide) (by decide) ?_
    intro v221 T221 L221 X221 hQ221
    obtain ⟨rfl, Nq221, Kq221, Ci221, Fi221_0, Fi221_1, Fi221_2, Fi221_3⟩ := hQ221
    have N221 := Fr.app N220 Nq221
    show OGo p e below _ T221 (mkF m 88 #[.val (.int p1), .val (.int p2), .val (.int p3), .val (.int p4), .val (.int (p1 &&& (3 : Int32))), .val (.ref r1), .val (.ref r2), .val (.ref r3), .val (.ref nb195), .val (.ref lf), .unset, .unset, .unset, .unset, .unset, .unset] [(.ref r1)])
    have C_227 : Exa Z T221.heap r1 "java/lang/Integer" := ((C_216.keep Kq220).keep Kq221)
    obtain ⟨T228, X228, e228, st228⟩ := castY X221 hx hZ hown (hw _ (List.mem_of_getElem? (i := 150) rfl)) rfl (Ins.self C_227) (g := (mkF m 88 #[.val (.int p1), .val (.int p2), .val (.int p3), .val (.int p4), .val (.int (p1 &&& (3 : Int32))), .val (.ref r1), .val (.ref r2), .val (.ref r3), .val (.ref nb195), .val (.ref lf), .unset, .unset, .unset, .unset, .unset, .unset] [(.ref r1)])) rfl rfl (hb hby at_88)
    refine own_via (g' := (mkF m 91 #[.val (.int p1), .val (.int p2), .val (.int p3), .val (.int p4), .val (.int (p1 &&& (3 : Int32))), .val (.ref r1), .val (.ref r2), .val (.ref r3), .val (.ref nb195), .val (.ref lf), .unset, .unset, .unset, .unset, .unset, .unset] [(.ref r1)])) st228 ?_
    refine own_step (g' := (mkF m 93 #[.val (.int p1), .val (.int p2), .val (.int p3), .val (.int p4), .val (.int (p1 &&& (3 : Int32))), .val (.ref r1), .val (.ref r2), .val (.ref r3), .val (.ref nb195), .val (.ref lf), .val (.ref r1), .unset, .unset, .unset, .unset, .unset] [])) (fun _ k => XS.astore X228.here hx rfl (hb hby at_91) rfl rfl (l' := #[.val (.int p1), .val (.int p2), .val (.int p3), .val (.int p4), .val (.int (p1 &&& (3 : Int32))), .val (.ref r1), .val (.ref r2), .val (.ref r3), .val (.ref nb195), .val (.ref lf), .val (.ref r1), .unset, .unset, .unset, .unset, .unset]) rfl k) ?_
    refine own_step (g' := (mkF m 95 #[.val (.int p1), .val (.int p2), .val (.int p3), .val (.int p4), .val (.int (p1 &&& (3 : Int32))), .val (.ref r1), .val (.ref r2), .val (.ref r3), .val (.ref nb195), .val (.ref lf), .val (.ref r1), .unset, .unset, .unset, .unset, .unset] [(.ref lf)])) (fun _ k => XS.aload X228.here hx rfl (hb hby at_93) rfl rfl k) ?_
    have C_230 : Exa Z T221.heap nb195 "java/util/ArrayList" := (C_222.keep Kq221)
    have F_231 : Fld Z T221.heap nb195 "java/util/AbstractList" "modCount" "I" (.int (3 : Int32)) := (F_223.keep Kq221 (ninS ne_nb195_it nin0))
    have F_232 : Fld Z T221.heap nb195 "java/util/ArrayList" "size" "I" (.int (3 : Int32)) := (F_224.keep Kq221 (ninS ne_nb195_it nin0))
    have F_233 : Fld Z T221.heap nb195 "java/util/ArrayList" "elementData" "[Ljava/lang/Object;" (.ref ar) := (F_225.keep Kq221 (ninS ne_nb195_it nin0))
    have V_234 : Arv Z T221.heap ar kq202 (.object "java/lang/Object") (10 : Int32) [(.ref r1), (.ref r2), (.ref r3), .null, .null, .null, .null, .null, .null, .null] .null := (V_226.keep Kq221 (ninS ne_ar_it nin0))
    have L_235 : T221.heap[lf]? = some (own_lam cK it) := (Kq221.2.1 _ _ Llf (ninS (Ne.symm ne_it_lf) nin0))
    refine own_fwd X228 hx hZ (W := 0) hown e228 HL L_235 (rmLam3_1 l Z a0 hw [] it nb195 ar r1 r2 r3 kq202 T221.heap n0 (Nat.le_trans (Nat.le_trans (Nat.le_trans (Nat.le_trans (Nat.le_trans (Nat.le_trans (Nat.le_trans (Nat.le_trans (Nat.le_trans (Nat.le_trans Z0 Kq186.1) Kq190.1) Kq194.1) Ex195.1) Kq201.1) Kq208.1) Kq211.1) Kq214.1) Kq220.1) Kq221.1) Ci221 Fi221_0 Fi221_1 Fi221_2 Fi221_3 C_230 F_231 F_232 g_it F_233 V_234) (fun v h L q => ⟨_, q.1, rfl⟩) (hw _ (List.mem_of_getElem? (i := 65) rfl)) (hw _ (List.mem_of_getElem? (i := 66) rfl)) (hw _ (List.mem_of_getElem? (i := 67) rfl)) (hw _ (List.mem_of_getElem? (i := 69) rfl)) (hw _ (List.mem_of_getElem? (i := 35) rfl)) (hw _ (List.mem_of_getElem? (i := 68) rfl)) (by decide) (by decide) (g := (mkF m 95 #[.val (.int p1), .val (.int p2), .val (.int p3), .val (.int p4), .val (.int (p1 &&& (3 : Int32))), .val (.ref r1), .val (.ref r2), .val (.ref r3), .val (.ref nb195), .val (.ref lf), .val (.ref r1), .unset, .unset, .unset, .unset, .unset] [(.ref lf)])) rfl (by rw [hml]; rfl) (rest := []) rfl (by show 2 * 0 + _ ≤ _; exact Nat.le_of_eq rfl) (hb hby at_95) (by decide) (by decide) ?_
    intro v229 T229 L229 X229 hQ229
    obtain ⟨rfl, Nq229, Kq229, Ci229, Fi229_0, Fi229_1, Fi229_2, Fi229_3⟩ := hQ229
    have N229 := Fr.app N221 Nq229
    show OGo p e below _ T229 (mkF m 100 #[.val (.int p1), .val (.int p2), .val (.int p3), .val (.int p4), .val (.int (p1 &&& (3 : Int32))), .val (.ref r1), .val (.ref r2), .val (.ref r3), .val (.ref nb195), .val (.ref lf), .val (.ref r1), .unset, .unset, .unset, .unset, .unset] [(.ref r2)])
    have C_236 : Exa Z T229.heap r2 "java/lang/Integer" := (((C_217.keep Kq220).keep Kq221).keep Kq229)
    obtain ⟨T237, X237, e237, st237⟩ := castY X229 hx hZ hown (hw _ (List.mem_of_getElem? (i := 150) rfl)) rfl (Ins.self C_236) (g := (mkF m 100 #[.val (.int p1), .val (.int p2), .val (.int p3), .val (.int p4), .val (.int (p1 &&& (3 : Int32))), .val (.ref r1), .val (.ref r2), .val (.ref r3), .val (.ref nb195), .val (.ref lf), .val (.ref r1), .unset, .unset, .unset, .unset, .unset] [(.ref r2)])) rfl rfl (hb hby at_100)
    refine own_via (g' := (mkF m 103 #[.val (.int p1), .val (.int p2), .val (.int p3), .val (.int p4), .val (.int (p1 &&& (3 : Int32))), .val (.ref r1), .val (.ref r2), .val (.ref r3), .val (.ref nb195), .val (.ref lf), .val (.ref r1), .unset, .unset, .unset, .unset, .unset] [(.ref r2)])) st237 ?_
    refine own_step (g' := (mkF m 105 #[.val (.int p1), .val (.int p2), .val (.int p3), .val (.int p4), .val (.int (p1 &&& (3 : Int32))), .val (.ref r1), .val (.ref r2), .val (.ref r3), .val (.ref nb195), .val (.ref lf), .val (.ref r1), .val (.ref r2), .unset, .unset, .unset, .unset] [])) (fun _ k => XS.astore X237.here hx rfl (hb hby at_103) rfl rfl (l' := #[.val (.int p1), .val (.int p2), .val (.int p3), .val (.int p4), .val (.int (p1 &&& (3 : Int32))), .val (.ref r1), .val (.ref r2), .val (.ref r3), .val (.ref nb195), .val (.ref lf), .val (.ref r1), .val (.ref r2), .unset, .unset, .unset, .unset]) rfl k) ?_
    refine own_step (g' := (mkF m 107 #[.val (.int p1), .val (.int p2), .val (.int p3), .val (.int p4), .val (.int (p1 &&& (3 : Int32))), .val (.ref r1), .val (.ref r2), .val (.ref r3), .val (.ref nb195), .val (.ref lf), .val (.ref r1), .val (.ref r2), .unset, .unset, .unset, .unset] [(.ref lf)])) (fun _ k => XS.aload X237.here hx rfl (hb hby at_105) rfl rfl k) ?_
    have C_239 : Exa Z T229.heap nb195 "java/util/ArrayList" := (C_230.keep Kq229)
    have F_240 : Fld Z T229.heap nb195 "java/util/AbstractList" "modCount" "I" (.int (3 : Int32)) := (F_231.keep Kq229 (ninS ne_nb195_it nin0))
    have F_241 : Fld Z T229.heap nb195 "java/util/ArrayList" "size" "I" (.int (3 : Int32)) := (F_232.keep Kq229 (ninS ne_nb195_it nin0))
    have F_242 : Fld Z T229.heap nb195 "java/util/ArrayList" "elementData" "[Ljava/lang/Object;" (.ref ar) := (F_233.keep Kq229 (ninS ne_nb195_it nin0))
    have V_243 : Arv Z T229.heap ar kq202 (.object "java/lang/Object") (10 : Int32) [(.ref r1), (.ref r2), (.ref r3), .null, .null, .null, .null, .null, .null, .null] .null := (V_234.keep Kq229 (ninS ne_ar_it nin0))
    have L_244 : T229.heap[lf]? = some (own_lam cK it) := (Kq229.2.1 _ _ L_235 (ninS (Ne.symm ne_it_lf) nin0))
    refine own_fwd X237 hx hZ (W := 0) hown e237 HL L_244 (rmLam3_2 l Z a0 hw [] it nb195 ar r1 r2 r3 kq202 T229.heap n0 (Nat.le_trans (Nat.le_trans (Nat.le_trans (Nat.le_trans (Nat.le_trans (Nat.le_trans (Nat.le_trans (Nat.le_trans (Nat.le_trans (Nat.le_trans (Nat.le_trans Z0 Kq186.1) Kq190.1) Kq194.1) Ex195.1) Kq201.1) Kq208.1) Kq211.1) Kq214.1) Kq220.1) Kq221.1) Kq229.1) Ci229 Fi229_0 Fi229_1 Fi229_2 Fi229_3 C_239 F_240 F_241 g_it F_242 V_243) (fun v h L q => ⟨_, q.1, rfl⟩) (hw _ (List.mem_of_getElem? (i := 65) rfl)) (hw _ (List.mem_of_getElem? (i := 66) rfl)) (hw _ (List.mem_of_getElem? (i := 67) rfl)) (hw _ (List.mem_of_getElem? (i := 69) rfl)) (hw _ (List.mem_of_getElem? (i := 35) rfl)) (hw _ (List.mem_of_getElem? (i := 68) rfl)) (by decide) (by decide) (g := (mkF m 107 #[.val (.int p1), .val (.int p2), .val (.int p3), .val (.int p4), .val (.int (p1 &&& (3 : Int32))), .val (.ref r1), .val (.ref r2), .val (.ref r3), .val (.ref nb195), .val (.ref lf), .val (.ref r1), .val (.ref r2), .unset, .unset, .unset, .unset] [(.ref lf)])) rfl (by rw [hml]; rfl) (rest := []) rfl (by show 2 * 0 + _ ≤ _; exact Nat.le_of_eq rfl) (hb hby at_107) (by decide) (by decide) ?_
    intro v238 T238 L238 X238 hQ238
    obtain ⟨rfl, Nq238, Kq238, Ci238, Fi238_0, Fi238_1, Fi238_2, Fi238_3⟩ := hQ238
    have N238 := Fr.app N229 Nq238
    show OGo p e below _ T238 (mkF m 112 #[.val (.int p1), .val (.int p2), .val (.int p3), .val (.int p4), .val (.int (p1 &&& (3 : Int32))), .val (.ref r1), .val (.ref r2), .val (.ref r3), .val (.ref nb195), .val (.ref lf), .val (.ref r1), .val (.ref r2), .unset, .unset, .unset, .unset] [(.ref r3)])
    have C_245 : Exa Z T238.heap r3 "java/lang/Integer" := ((((C_218.keep Kq220).keep Kq221).keep Kq229).keep Kq238)
    obtain ⟨T246, X246, e246, st246⟩ := castY X238 hx hZ hown (hw _ (List.mem_of_getElem? (i := 150) rfl)) rfl (Ins.self C_245) (g := (mkF m 112 #[.val (.int p1), .val (.int p2), .val (.int p3), .val (.int p4), .val (.int (p1 &&& (3 : Int32))), .val (.ref r1), .val (.ref r2), .val (.ref r3), .val (.ref nb195), .val (.ref lf), .val (.ref r1), .val (.ref r2), .unset, .unset, .unset, .unset] [(.ref r3)])) rfl rfl (hb hby at_112)
    refine own_via (g' := (mkF m 115 #[.val (.int p1), .val (.int p2), .val (.int p3), .val (.int p4), .val (.int (p1 &&& (3 : Int32))), .val (.ref r1), .val (.ref r2), .val (.ref r3), .val (.ref nb195), .val (.ref lf), .val (.ref r1), .val (.ref r2), .unset, .unset, .unset, .unset] [(.ref r3)])) st246 ?_
    refine own_step (g' := (mkF m 117 #[.val (.int p1), .val (.int p2), .val (.int p3), .val (.int p4), .val (.int (p1 &&& (3 : Int32))), .val (.ref r1), .val (.ref r2), .val (.ref r3), .val (.ref nb195), .val (.ref lf), .val (.ref r1), .val (.ref r2), .val (.ref r3), .unset, .unset, .unset] [])) (fun _ k => XS.astore X246.here hx rfl (hb hby at_115) rfl rfl (l' := #[.val (.int p1), .val (.int p2), .val (.int p3), .val (.int p4), .val (.int (p1 &&& (3 : Int32))), .val (.ref r1), .val (.ref r2), .val (.ref r3), .val (.ref nb195), .val (.ref lf), .val (.ref r1), .val (.ref r2), .val (.ref r3), .unset, .unset, .unset]) rfl k) ?_
    refine own_step (g' := (mkF m 119 #[.val (.int p1), .val (.int p2), .val (.int p3), .val (.int p4), .val (.int (p1 &&& (3 : Int32))), .val (.ref r1), .val (.ref r2), .val (.ref r3), .val (.ref nb195), .val (.ref lf), .val (.ref r1), .val (.ref r2), .val (.ref r3), .unset, .unset, .unset] [(.ref lf)])) (fun _ k => XS.aload X246.here hx rfl (hb hby at_117) rfl rfl k) ?_
    have C_248 : Exa Z T238.heap nb195 "java/util/ArrayList" := (C_239.keep Kq238)
    have F_249 : Fld Z T238.heap nb195 "java/util/AbstractList" "modCount" "I" (.int (3 : Int32)) := (F_240.keep Kq238 (ninS ne_nb195_it nin0))
    have F_250 : Fld Z T238.heap nb195 "java/util/ArrayList" "size" "I" (.int (3 : Int32)) := (F_241.keep Kq238 (ninS ne_nb195_it nin0))
    have L_251 : T238.heap[lf]? = some (own_lam cK it) := (Kq238.2.1 _ _ L_244 (ninS (Ne.symm ne_it_lf) nin0))
    refine own_fwd X246 hx hZ (W := 0) hown e246 HL L_251 (rmLam3_3 l Z a0 hw [] it nb195 T238.heap n0 (Nat.le_trans (Nat.le_trans (Nat.le_trans (Nat.le_trans (Nat.le_trans (Nat.le_trans (Nat.le_trans (Nat.le_trans (Nat.le_trans (Nat.le_trans (Nat.le_trans (Nat.le_trans Z0 Kq186.1) Kq190.1) Kq194.1) Ex195.1) Kq201.1) Kq208.1) Kq211.1) Kq214.1) Kq220.1) Kq221.1) Kq229.1) Kq238.1) Ci238 Fi238_0 Fi238_1 Fi238_2 Fi238_3 C_248 F_249 F_250) (fun v h L q => ⟨_, q.1, rfl⟩) (hw _ (List.mem_of_getElem? (i := 65) rfl)) (hw _ (List.mem_of_getElem? (i := 66) rfl)) (hw _ (List.mem_of_getElem? (i := 67) rfl)) (hw _ (List.mem_of_getElem? (i := 69) rfl)) (hw _ (List.mem_of_getElem? (i := 35) rfl)) (hw _ (List.mem_of_getElem? (i := 68) rfl)) (by decide) (by decide) (g := (mkF m 119 #[.val (.int p1), .val (.int p2), .val (.int p3), .val (.int p4), .val (.int (p1 &&& (3 : Int32))), .val (.ref r1), .val (.ref r2), .val (.ref r3), .val (.ref nb195), .val (.ref lf), .val (.ref r1), .val (.ref r2), .val (.ref r3), .unset, .unset, .unset] [(.ref lf)])) rfl (by rw [hml]; rfl) (rest := []) rfl (by show 2 * 0 + _ ≤ _; exact Nat.le_of_eq rfl) (hb hby at_119) (by decide) (by decide) ?_
    intro v247 T247 L247 X247 hQ247
    obtain ⟨rfl, Nq247, Kq247, Ci247, Fi247_0, Fi247_1, Fi247_2, Fi247_3⟩ := hQ247
    have N247 := Fr.app N238 Nq247
    show OGo p e below _ T247 (mkF m 124 #[.val (.int p1), .val (.int p2), .val (.int p3), .val (.int p4), .val (.int (p1 &&& (3 : Int32))), .val (.ref r1), .val (.ref r2), .val (.ref r3), .val (.ref nb195), .val (.ref lf), .val (.ref r1), .val (.ref r2), .val (.ref r3), .unset, .unset, .unset] [.null])
    refine own_step (g' := (mkF m 127 #[.val (.int p1), .val (.int p2), .val (.int p3), .val (.int p4), .val (.int (p1 &&& (3 : Int32))), .val (.ref r1), .val (.ref r2), .val (.ref r3), .val (.ref nb195), .val (.ref lf), .val (.ref r1), .val (.ref r2), .val (.ref r3), .unset, .unset, .unset] [.null])) (X247.checkcastNull hx (g := (mkF m 124 #[.val (.int p1), .val (.int p2), .val (.int p3), .val (.int p4), .val (.int (p1 &&& (3 : Int32))), .val (.ref r1), .val (.ref r2), .val (.ref r3), .val (.ref nb195), .val (.ref lf), .val (.ref r1), .val (.ref r2), .val (.ref r3), .unset, .unset, .unset] [.null])) rfl rfl (hb hby at_124)) ?_
    refine own_step (g' := (mkF m 129 #[.val (.int p1), .val (.int p2), .val (.int p3), .val (.int p4), .val (.int (p1 &&& (3 : Int32))), .val (.ref r1), .val (.ref r2), .val (.ref r3), .val (.ref nb195), .val (.ref lf), .val (.ref r1), .val (.ref r2), .val (.ref r3), .val .null, .unset, .unset] [])) (fun _ k => XS.astore X247.here hx rfl (hb hby at_127) rfl rfl (l' := #[.val (.int p1), .val (.int p2), .val (.int p3), .val (.int p4), .val (.int (p1 &&& (3 : Int32))), .val (.ref r1), .val (.ref r2), .val (.ref r3), .val (.ref nb195), .val (.ref lf), .val (.ref r1), .val (.ref r2), .val (.ref r3), .val .null, .unset, .unset]) rfl k) ?_
    refine own_step (g' := (mkF m 131 #[.val (.int p1), .val (.int p2), .val (.int p3), .val (.int p4), .val (.int (p1 &&& (3 : Int32))), .val (.ref r1), .val (.ref r2), .val (.ref r3), .val (.ref nb195), .val (.ref lf), .val (.ref r1), .val (.ref r2), .val (.ref r3), .val .null, .unset, .unset] [(.ref lf)])) (fun _ k => XS.aload X247.here hx rfl (hb hby at_129) rfl rfl k) ?_
    have C_253 : Exa Z T247.heap nb195 "java/util/ArrayList" := (C_248.keep Kq247)
    have F_254 : Fld Z T247.heap nb195 "java/util/AbstractList" "modCount" "I" (.int (3 : Int32)) := (F_249.keep Kq247 (ninS ne_nb195_it nin0))
    have F_255 : Fld Z T247.heap nb195 "java/util/ArrayList" "size" "I" (.int (3 : Int32)) := (F_250.keep Kq247 (ninS ne_nb195_it nin0))
    have L_256 : T247.heap[lf]? = some (own_lam cK it) := (Kq247.2.1 _ _ L_251 (ninS (Ne.symm ne_it_lf) nin0))
    refine own_fwd X247 hx hZ (W := 0) hown rfl HL L_256 (rmLam3_3 l Z a0 hw [] it nb195 T247.heap n0 (Nat.le_trans (Nat.le_trans (Nat.le_trans (Nat.le_trans (Nat.le_trans (Nat.le_trans (Nat.le_trans (Nat.le_trans (Nat.le_trans (Nat.le_trans (Nat.le_trans (Nat.le_trans (Nat.le_trans Z0 Kq186.1) Kq190.1) Kq194.1) Ex195.1) Kq201.1) Kq208.1) Kq211.1) Kq214.1) Kq220.1) Kq221.1) Kq229.1) Kq238.1) Kq247.1) Ci247 Fi247_0 Fi247_1 Fi247_2 Fi247_3 C_253 F_254 F_255) (fun v h L q => ⟨_, q.1, rfl⟩) (hw _ (List.mem_of_getElem? (i := 65) rfl)) (hw _ (List.mem_of_getElem? (i := 66) rfl)) (hw _ (List.mem_of_getElem? (i := 67) rfl)) (hw _ (List.mem_of_getElem? (i := 69) rfl)) (hw _ (List.mem_of_getElem? (i := 35) rfl)) (hw _ (List.mem_of_getElem? (i := 68) rfl)) (by decide) (by decide) (g := (mkF m 131 #[.val (.int p1), .val (.int p2), .val (.int p3), .val (.int p4), .val (.int (p1 &&& (3 : Int32))), .val (.ref r1), .val (.ref r2), .val (.ref r3), .val (.ref nb195), .val (.ref lf), .val (.ref r1), .val (.ref r2), .val (.ref r3), .val .null, .unset, .unset] [(.ref lf)])) rfl (by rw [hml]; rfl) (rest := []) rfl (by show 2 * 0 + _ ≤ _; exact Nat.le_of_eq rfl) (hb hby at_131) (by decide) (by decide) ?_
    intro v252 T252 L252 X252 hQ252
    obtain ⟨rfl, Nq252, Kq252, Ci252, Fi252_0, Fi252_1, Fi252_2, Fi252_3⟩ := hQ252
    have N252 := Fr.app N247 Nq252
    show OGo p e below _ T252 (mkF m 136 #[.val (.int p1), .val (.int p2), .val (.int p3), .val (.int p4), .val (.int (p1 &&& (3 : Int32))), .val (.ref r1), .val (.ref r2), .val (.ref r3), .val (.ref nb195), .val (.ref lf), .val (.ref r1), .val (.ref r2), .val (.ref r3), .val .null, .unset, .unset] [.null])
    refine own_step (g' := (mkF m 139 #[.val (.int p1), .val (.int p2), .val (.int p3), .val (.int p4), .val (.int (p1 &&& (3 : Int32))), .val (.ref r1), .val (.ref r2), .val (.ref r3), .val (.ref nb195), .val (.ref lf), .val (.ref r1), .val (.ref r2), .val (.ref r3), .val .null, .unset, .unset] [.null])) (X252.checkcastNull hx (g := (mkF m 136 #[.val (.int p1), .val (.int p2), .val (.int p3), .val (.int p4), .val (.int (p1 &&& (3 : Int32))), .val (.ref r1), .val (.ref r2), .val (.ref r3), .val (.ref nb195), .val (.ref lf), .val (.ref r1), .val (.ref r2), .val (.ref r3), .val .null, .unset, .unset] [.null])) rfl rfl (hb hby at_136)) ?_
    refine own_step (g' := (mkF m 141 #[.val (.int p1), .val (.int p2), .val (.int p3), .val (.int p4), .val (.int (p1 &&& (3 : Int32))), .val (.ref r1), .val (.ref r2), .val (.ref r3), .val (.ref nb195), .val (.ref lf), .val (.ref r1), .val (.ref r2), .val (.ref r3), .val .null, .val .null, .unset] [])) (fun _ k => XS.astore X252.here hx rfl (hb hby at_139) rfl rfl (l' := #[.val (.int p1), .val (.int p2), .val (.int p3), .val (.int p4), .val (.int (p1 &&& (3 : Int32))), .val (.ref r1), .val (.ref r2), .val (.ref r3), .val (.ref nb195), .val (.ref lf), .val (.ref r1), .val (.ref r2), .val (.ref r3), .val .null, .val .null, .unset]) rfl k) ?_
    refine own_step (g' := (mkF m 143 #[.val (.int p1), .val (.int p2), .val (.int p3), .val (.int p4), .val (.int (p1 &&& (3 : Int32))), .val (.ref r1), .val (.ref r2), .val (.ref r3), .val (.ref nb195), .val (.ref lf), .val (.ref r1), .val (.ref r2), .val (.ref r3), .val .null, .val .null, .unset] [(.int (p1 &&& (3 : Int32)))])) (fun _ k => XS.iload X252.here hx rfl (hb hby at_141) rfl k) ?_
    refine own_step (g' := (mkF m 144 #[.val (.int p1), .val (.int p2), .val (.int p3), .val (.int p4), .val (.int (p1 &&& (3 : Int32))), .val (.ref r1), .val (.ref r2), .val (.ref r3), .val (.ref nb195), .val (.ref lf), .val (.ref r1), .val (.ref r2), .val (.ref r3), .val .null, .val .null, .unset] [(.int (1 : Int32)), (.int (p1 &&& (3 : Int32)))])) (fun _ k => XS.iconst X252.here hx rfl (hb hby at_143) k) ?_
    refine own_step (g' := (mkF m 146 #[.val (.int p1), .val (.int p2), .val (.int p3), .val (.int p4), .val (.int (p1 &&& (3 : Int32))), .val (.ref r1), .val (.ref r2), .val (.ref r3), .val (.ref nb195), .val (.ref lf), .val (.ref r1), .val (.ref r2), .val (.ref r3), .val .null, .val .null, .unset] [(.ref r1), (.int (1 : Int32)), (.int (p1 &&& (3 : Int32)))])) (fun _ k => XS.aload X252.here hx rfl (hb hby at_144) rfl rfl k) ?_
    refine own_step (g' := (mkF m 148 #[.val (.int p1), .val (.int p2), .val (.int p3), .val (.int p4), .val (.int (p1 &&& (3 : Int32))), .val (.ref r1), .val (.ref r2), .val (.ref r3), .val (.ref nb195), .val (.ref lf), .val (.ref r1), .val (.ref r2), .val (.ref r3), .val .null, .val .null, .unset] [(.ref r1), (.ref r1), (.int (1 : Int32)), (.int (p1 &&& (3 : Int32)))])) (fun _ k => XS.aload X252.here hx rfl (hb hby at_146) rfl rfl k) ?_
    refine own_callS X252 hx hZ (W := 0) hown rfl (rmSlotY l Z a0 hw [] (p1 &&& (3 : Int32)) (1 : Int32) r1 T252.heap n0 (Nat.le_trans (Nat.le_trans (Nat.le_trans (Nat.le_trans (Nat.le_trans (Nat.le_trans (Nat.le_trans (Nat.le_trans (Nat.le_trans (Nat.le_trans (Nat.le_trans (Nat.le_trans (Nat.le_trans (Nat.le_trans Z0 Kq186.1) Kq190.1) Kq194.1) Ex195.1) Kq201.1) Kq208.1) Kq211.1) Kq214.1) Kq220.1) Kq221.1) Kq229.1) Kq238.1) Kq247.1) Kq252.1) (by rw [hq] <;> decide)) (hw _ (List.mem_of_getElem? (i := 83) rfl)) (hw _ (List.mem_of_getElem? (i := 84) rfl)) (hw _ (List.mem_of_getElem? (i := 85) rfl)) (hw _ (List.mem_of_getElem? (i := 86) rfl)) (by decide) (by decide) (by decide) (g := (mkF m 148 #[.val (.int p1), .val (.int p2), .val (.int p3), .val (.int p4), .val (.int (p1 &&& (3 : Int32))), .val (.ref r1), .val (.ref r2), .val (.ref r3), .val (.ref nb195), .val (.ref lf), .val (.ref r1), .val (.ref r2), .val (.ref r3), .val .null, .val .null, .unset] [(.ref r1), (.ref r1), (.int (1 : Int32)), (.int (p1 &&& (3 : Int32)))])) rfl (by rw [hml]; rfl) (argsL := [(.int (p1 &&& (3 : Int32))), (.int (1 : Int32)), (.ref r1), (.ref r1)]) (rest := []) rfl (lenOf pd_12 rfl) rfl (by show 2 * 0 + _ ≤ _; exact Nat.le_of_eq rfl) (hb hby at_148) (by decide) (by decide) ?_
    intro v257 T257 L257 X257 hQ257
    obtain ⟨rfl, rfl, e257⟩ := hQ257
    replace X257 := own_pureX X257
    show OGo p e below _ T257 (mkF m 151 #[.val (.int p1), .val (.int p2), .val (.int p3), .val (.int p4), .val (.int (p1 &&& (3 : Int32))), .val (.ref r1), .val (.ref r2), .val (.ref r3), .val (.ref nb195), .val (.ref lf), .val (.ref r1), .val (.ref r2), .val (.ref r3), .val .null, .val .null, .unset] [(.int (1 : Int32))])
    refine own_step (g' := (mkF m 154 #[.val (.int p1), .val (.int p2), .val (.int p3), .val (.int p4), .val (.int (p1 &&& (3 : Int32))), .val (.ref r1), .val (.ref r2), .val (.ref r3), .val (.ref nb195), .val (.ref lf), .val (.ref r1), .val (.ref r2), .val (.ref r3), .val .null, .val .null, .unset] [])) (fun _ k => XS.ifNo X257.here hx rfl (hb hby at_151) rfl ((if0 _ _).trans (feq (by decide : ¬ ((1 : Int32) = (0 : Int32)))).1) k) ?_
    refine own_step (g' := (mkF m 156 #[.val (.int p1), .val (.int p2), .val (.int p3), .val (.int p4), .val (.int (p1 &&& (3 : Int32))), .val (.ref r1), .val (.ref r2), .val (.ref r3), .val (.ref nb195), .val (.ref lf), .val (.ref r1), .val (.ref r2), .val (.ref r3), .val .null, .val .null, .unset] [(.int (p1 &&& (3 : Int32)))])) (fun _ k => XS.iload X257.here hx rfl (hb hby at_154) rfl k) ?_
    refine own_step (g' := (mkF m 157 #[.val (.int p1), .val (.int p2), .val (.int p3), .val (.int p4), .val (.int (p1 &&& (3 : Int32))), .val (.ref r1), .val (.ref r2), .val (.ref r3), .val (.ref nb195), .val (.ref lf), .val (.ref r1), .val (.ref r2), .val (.ref r3), .val .null, .val .null, .unset] [(.int (2 : Int32)), (.int (p1 &&& (3 : Int32)))])) (fun _ k => XS.iconst X257.here hx rfl (hb hby at_156) k) ?_
    refine own_step (g' := (mkF m 159 #[.val (.int p1), .val (.int p2), .val (.int p3), .val (.int p4), .val (.int (p1 &&& (3 : Int32))), .val (.ref r1), .val (.ref r2), .val (.ref r3), .val (.ref nb195), .val (.ref lf), .val (.ref r1), .val (.ref r2), .val (.ref r3), .val .null, .val .null, .unset] [(.ref r2), (.int (2 : Int32)), (.int (p1 &&& (3 : Int32)))])) (fun _ k => XS.aload X257.here hx rfl (hb hby at_157) rfl rfl k) ?_
    refine own_step (g' := (mkF m 161 #[.val (.int p1), .val (.int p2), .val (.int p3), .val (.int p4), .val (.int (p1 &&& (3 : Int32))), .val (.ref r1), .val (.ref r2), .val (.ref r3), .val (.ref nb195), .val (.ref lf), .val (.ref r1), .val (.ref r2), .val (.ref r3), .val .null, .val .null, .unset] [(.ref r2), (.ref r2), (.int (2 : Int32)), (.int (p1 &&& (3 : Int32)))])) (fun _ k => XS.aload X257.here hx rfl (hb hby at_159) rfl rfl k) ?_
    refine own_callS X257 hx hZ (W := 0) hown e257 (rmSlotY l Z a0 hw [] (p1 &&& (3 : Int32)) (2 : Int32) r2 T252.heap n0 (Nat.le_trans (Nat.le_trans (Nat.le_trans (Nat.le_trans (Nat.le_trans (Nat.le_trans (Nat.le_trans (Nat.le_trans (Nat.le_trans (Nat.le_trans (Nat.le_trans (Nat.le_trans (Nat.le_trans (Nat.le_trans Z0 Kq186.1) Kq190.1) Kq194.1) Ex195.1) Kq201.1) Kq208.1) Kq211.1) Kq214.1) Kq220.1) Kq221.1) Kq229.1) Kq238.1) Kq247.1) Kq252.1) (by rw [hq] <;> decide)) (hw _ (List.mem_of_getElem? (i := 83) rfl)) (hw _ (List.mem_of_getElem? (i := 84) rfl)) (hw _ (List.mem_of_getElem? (i := 85) rfl)) (hw _ (List.mem_of_getElem? (i := 86) rfl)) (by decide) (by decide) (by decide) (g := (mkF m 161 #[.val (.int p1), .val (.int p2), .val (.int p3), .val (.int p4), .val (.int (p1 &&& (3 : Int32))), .val (.ref r1), .val (.ref r2), .val (.ref r3), .val (.ref nb195), .val (.ref lf), .val (.ref r1), .val (.ref r2), .val (.ref r3), .val .null, .val .null, .unset] [(.ref r2), (.ref r2), (.int (2 : Int32)), (.int (p1 &&& (3 : Int32)))])) rfl (by rw [hml]; rfl) (argsL := [(.int (p1 &&& (3 : Int32))), (.int (2 : Int32)), (.ref r2), (.ref r2)]) (rest := []) rfl (lenOf pd_12 rfl) rfl (by show 2 * 0 + _ ≤ _; exact Nat.le_of_eq rfl) (hb hby at_161) (by decide) (by decide) ?_
    intro v258 T258 L258 X258 hQ258
    obtain ⟨rfl, rfl, e258⟩ := hQ258
    replace X258 := own_pureX X258
    show OGo p e below _ T258 (mkF m 164 #[.val (.int p1), .val (.int p2), .val (.int p3), .val (.int p4), .val (.int (p1 &&& (3 : Int32))), .val (.ref r1), .val (.ref r2), .val (.ref r3), .val (.ref nb195), .val (.ref lf), .val (.ref r1), .val (.ref r2), .val (.ref r3), .val .null, .val .null, .unset] [(.int (1 : Int32))])
    refine own_step (g' := (mkF m 167 #[.val (.int p1), .val (.int p2), .val (.int p3), .val (.int p4), .val (.int (p1 &&& (3 : Int32))), .val (.ref r1), .val (.ref r2), .val (.ref r3), .val (.ref nb195), .val (.ref lf), .val (.ref r1), .val (.ref r2), .val (.ref r3), .val .null, .val .null, .unset] [])) (fun _ k => XS.ifNo X258.here hx rfl (hb hby at_164) rfl ((if0 _ _).trans (feq (by decide : ¬ ((1 : Int32) = (0 : Int32)))).1) k) ?_
    refine own_step (g' := (mkF m 169 #[.val (.int p1), .val (.int p2), .val (.int p3), .val (.int p4), .val (.int (p1 &&& (3 : Int32))), .val (.ref r1), .val (.ref r2), .val (.ref r3), .val (.ref nb195), .val (.ref lf), .val (.ref r1), .val (.ref r2), .val (.ref r3), .val .null, .val .null, .unset] [(.int (p1 &&& (3 : Int32)))])) (fun _ k => XS.iload X258.here hx rfl (hb hby at_167) rfl k) ?_
    refine own_step (g' := (mkF m 170 #[.val (.int p1), .val (.int p2), .val (.int p3), .val (.int p4), .val (.int (p1 &&& (3 : Int32))), .val (.ref r1), .val (.ref r2), .val (.ref r3), .val (.ref nb195), .val (.ref lf), .val (.ref r1), .val (.ref r2), .val (.ref r3), .val .null, .val .null, .unset] [(.int (3 : Int32)), (.int (p1 &&& (3 : Int32)))])) (fun _ k => XS.iconst X258.here hx rfl (hb hby at_169) k) ?_
    refine own_step (g' := (mkF m 172 #[.val (.int p1), .val (.int p2), .val (.int p3), .val (.int p4), .val (.int (p1 &&& (3 : Int32))), .val (.ref r1), .val (.ref r2), .val (.ref r3), .val (.ref nb195), .val (.ref lf), .val (.ref r1), .val (.ref r2), .val (.ref r3), .val .null, .val .null, .unset] [(.ref r3), (.int (3 : Int32)), (.int (p1 &&& (3 : Int32)))])) (fun _ k => XS.aload X258.here hx rfl (hb hby at_170) rfl rfl k) ?_
    refine own_step (g' := (mkF m 174 #[.val (.int p1), .val (.int p2), .val (.int p3), .val (.int p4), .val (.int (p1 &&& (3 : Int32))), .val (.ref r1), .val (.ref r2), .val (.ref r3), .val (.ref nb195), .val (.ref lf), .val (.ref r1), .val (.ref r2), .val (.ref r3), .val .null, .val .null, .unset] [(.ref r3), (.ref r3), (.int (3 : Int32)), (.int (p1 &&& (3 : Int32)))])) (fun _ k => XS.aload X258.here hx rfl (hb hby at_172) rfl rfl k) ?_
    refine own_callS X258 hx hZ (W := 0) hown e258 (rmSlotY l Z a0 hw [] (p1 &&& (3 : Int32)) (3 : Int32) r3 T252.heap n0 (Nat.le_trans (Nat.le_trans (Nat.le_trans (Nat.le_trans (Nat.le_trans (Nat.le_trans (Nat.le_trans (Nat.le_trans (Nat.le_trans (Nat.le_trans (Nat.le_trans (Nat.le_trans (Nat.le_trans (Nat.le_trans Z0 Kq186.1) Kq190.1) Kq194.1) Ex195.1) Kq201.1) Kq208.1) Kq211.1) Kq214.1) Kq220.1) Kq221.1) Kq229.1) Kq238.1) Kq247.1) Kq252.1) (by rw [hq] <;> decide)) (hw _ (List.mem_of_getElem? (i := 83) rfl)) (hw _ (List.mem_of_getElem? (i := 84) rfl)) (hw _ (List.mem_of_getElem? (i := 85) rfl)) (hw _ (List.mem_of_getElem? (i := 86) rfl)) (by decide) (by decide) (by decide) (g := (mkF m 174 #[.val (.int p1), .val (.int p2), .val (.int p3), .val (.int p4), .val (.int (p1 &&& (3 : Int32))), .val (.ref r1), .val (.ref r2), .val (.ref r3), .val (.ref nb195), .val (.ref lf), .val (.ref r1), .val (.ref r2), .val (.ref r3), .val .null, .val .null, .unset] [(.ref r3), (.ref r3), (.int (3 : Int32)), (.int (p1 &&& (3 : Int32)))])) rfl (by rw [hml]; rfl) (argsL := [(.int (p1 &&& (3 : Int32))), (.int (3 : Int32)), (.ref r3), (.ref r3)]) (rest := []) rfl (lenOf pd_12 rfl) rfl (by show 2 * 0 + _ ≤ _; exact Nat.le_of_eq rfl) (hb hby at_174) (by decide) (by decide) ?_
    intro v259 T259 L259 X259 hQ259
    obtain ⟨rfl, rfl, e259⟩ := hQ259
    replace X259 := own_pureX X259
    show OGo p e below _ T259 (mkF m 177 #[.val (.int p1), .val (.int p2), .val (.int p3), .val (.int p4), .val (.int (p1 &&& (3 : Int32))), .val (.ref r1), .val (.ref r2), .val (.ref r3), .val (.ref nb195), .val (.ref lf), .val (.ref r1), .val (.ref r2), .val (.ref r3), .val .null, .val .null, .unset] [(.int (1 : Int32))])
    refine own_step (g' := (mkF m 180 #[.val (.int p1), .val (.int p2), .val (.int p3), .val (.int p4), .val (.int (p1 &&& (3 : Int32))), .val (.ref r1), .val (.ref r2), .val (.ref r3), .val (.ref nb195), .val (.ref lf), .val (.ref r1), .val (.ref r2), .val (.ref r3), .val .null, .val .null, .unset] [])) (fun _ k => XS.ifNo X259.here hx rfl (hb hby at_177) rfl ((if0 _ _).trans (feq (by decide : ¬ ((1 : Int32) = (0 : Int32)))).1) k) ?_
    refine own_step (g' := (mkF m 181 #[.val (.int p1), .val (.int p2), .val (.int p3), .val (.int p4), .val (.int (p1 &&& (3 : Int32))), .val (.ref r1), .val (.ref r2), .val (.ref r3), .val (.ref nb195), .val (.ref lf), .val (.ref r1), .val (.ref r2), .val (.ref r3), .val .null, .val .null, .unset] [(.int (1 : Int32))])) (fun _ k => XS.iconst X259.here hx rfl (hb hby at_180) k) ?_
    refine own_step (g' := (mkF m 185 #[.val (.int p1), .val (.int p2), .val (.int p3), .val (.int p4), .val (.int (p1 &&& (3 : Int32))), .val (.ref r1), .val (.ref r2), .val (.ref r3), .val (.ref nb195), .val (.ref lf), .val (.ref r1), .val (.ref r2), .val (.ref r3), .val .null, .val .null, .unset] [(.int (1 : Int32))])) (fun _ k => XS.goto X259.here hx rfl (pc0 := 181) (pc' := 185) rfl (hb hby at_181) (by decide) (by decide) k) ?_
    refine own_step (g' := (mkF m 187 #[.val (.int p1), .val (.int p2), .val (.int p3), .val (.int p4), .val (.int (p1 &&& (3 : Int32))), .val (.ref r1), .val (.ref r2), .val (.ref r3), .val (.ref nb195), .val (.ref lf), .val (.ref r1), .val (.ref r2), .val (.ref r3), .val .null, .val .null, .val (.int (1 : Int32))] [])) (fun _ k => XS.istore X259.here hx rfl (hb hby at_185) rfl (l' := #[.val (.int p1), .val (.int p2), .val (.int p3), .val (.int p4), .val (.int (p1 &&& (3 : Int32))), .val (.ref r1), .val (.ref r2), .val (.ref r3), .val (.ref nb195), .val (.ref lf), .val (.ref r1), .val (.ref r2), .val (.ref r3), .val .null, .val .null, .val (.int (1 : Int32))]) rfl k) ?_
    refine own_step (g' := (mkF m 189 #[.val (.int p1), .val (.int p2), .val (.int p3), .val (.int p4), .val (.int (p1 &&& (3 : Int32))), .val (.ref r1), .val (.ref r2), .val (.ref r3), .val (.ref nb195), .val (.ref lf), .val (.ref r1), .val (.ref r2), .val (.ref r3), .val .null, .val .null, .val (.int (1 : Int32))] [(.int (1 : Int32))])) (fun _ k => XS.iload X259.here hx rfl (hb hby at_187) rfl k) ?_
    refine own_step (g' := (mkF m 192 #[.val (.int p1), .val (.int p2), .val (.int p3), .val (.int p4), .val (.int (p1 &&& (3 : Int32))), .val (.ref r1), .val (.ref r2), .val (.ref r3), .val (.ref nb195), .val (.ref lf), .val (.ref r1), .val (.ref r2), .val (.ref r3), .val .null, .val .null, .val (.int (1 : Int32))] [])) (fun _ k => XS.ifNo X259.here hx rfl (hb hby at_189) rfl ((if0 _ _).trans (feq (by decide : ¬ ((1 : Int32) = (0 : Int32)))).1) k) ?_
    refine own_step (g' := (mkF m 194 #[.val (.int p1), .val (.int p2), .val (.int p3), .val (.int p4), .val (.int (p1 &&& (3 : Int32))), .val (.ref r1), .val (.ref r2), .val (.ref r3), .val (.ref nb195), .val (.ref lf), .val (.ref r1), .val (.ref r2), .val (.ref r3), .val .null, .val .null, .val (.int (1 : Int32))] [.null])) (fun _ k => XS.aload X259.here hx rfl (hb hby at_192) rfl rfl k) ?_
    refine own_step (g' := (mkF m 197 #[.val (.int p1), .val (.int p2), .val (.int p3), .val (.int p4), .val (.int (p1 &&& (3 : Int32))), .val (.ref r1), .val (.ref r2), .val (.ref r3), .val (.ref nb195), .val (.ref lf), .val (.ref r1), .val (.ref r2), .val (.ref r3), .val .null, .val .null, .val (.int (1 : Int32))] [])) (fun _ k => XS.ifnonnullNo X259.here hx rfl (hb hby at_194) rfl k) ?_
    refine own_step (g' := (mkF m 199 #[.val (.int p1), .val (.int p2), .val (.int p3), .val (.int p4), .val (.int (p1 &&& (3 : Int32))), .val (.ref r1), .val (.ref r2), .val (.ref r3), .val (.ref nb195), .val (.ref lf), .val (.ref r1), .val (.ref r2), .val (.ref r3), .val .null, .val .null, .val (.int (1 : Int32))] [.null])) (fun _ k => XS.aload X259.here hx rfl (hb hby at_197) rfl rfl k) ?_
    refine own_step (g' := (mkF m 202 #[.val (.int p1), .val (.int p2), .val (.int p3), .val (.int p4), .val (.int (p1 &&& (3 : Int32))), .val (.ref r1), .val (.ref r2), .val (.ref r3), .val (.ref nb195), .val (.ref lf), .val (.ref r1), .val (.ref r2), .val (.ref r3), .val .null, .val .null, .val (.int (1 : Int32))] [])) (fun _ k => XS.ifnonnullNo X259.here hx rfl (hb hby at_199) rfl k) ?_
    refine own_step (g' := (mkF m 203 #[.val (.int p1), .val (.int p2), .val (.int p3), .val (.int p4), .val (.int (p1 &&& (3 : Int32))), .val (.ref r1), .val (.ref r2), .val (.ref r3), .val (.ref nb195), .val (.ref lf), .val (.ref r1), .val (.ref r2), .val (.ref r3), .val .null, .val .null, .val (.int (1 : Int32))] [(.int (1 : Int32))])) (fun _ k => XS.iconst X259.here hx rfl (hb hby at_202) k) ?_
    refine own_step (g' := (mkF m 207 #[.val (.int p1), .val (.int p2), .val (.int p3), .val (.int p4), .val (.int (p1 &&& (3 : Int32))), .val (.ref r1), .val (.ref r2), .val (.ref r3), .val (.ref nb195), .val (.ref lf), .val (.ref r1), .val (.ref r2), .val (.ref r3), .val .null, .val .null, .val (.int (1 : Int32))] [(.int (1 : Int32))])) (fun _ k => XS.goto X259.here hx rfl (pc0 := 203) (pc' := 207) rfl (hb hby at_203) (by decide) (by decide) k) ?_
    refine own_step (g' := (mkF m 209 #[.val (.int p1), .val (.int p2), .val (.int p3), .val (.int p4), .val (.int (p1 &&& (3 : Int32))), .val (.ref r1), .val (.ref r2), .val (.ref r3), .val (.ref nb195), .val (.ref lf), .val (.ref r1), .val (.ref r2), .val (.ref r3), .val .null, .val .null, .val (.int (1 : Int32))] [])) (fun _ k => XS.istore X259.here hx rfl (hb hby at_207) rfl (l' := #[.val (.int p1), .val (.int p2), .val (.int p3), .val (.int p4), .val (.int (p1 &&& (3 : Int32))), .val (.ref r1), .val (.ref r2), .val (.ref r3), .val (.ref nb195), .val (.ref lf), .val (.ref r1), .val (.ref r2), .val (.ref r3), .val .null, .val .null, .val (.int (1 : Int32))]) rfl k) ?_
    refine own_step (g' := (mkF m 211 #[.val (.int p1), .val (.int p2), .val (.int p3), .val (.int p4), .val (.int (p1 &&& (3 : Int32))), .val (.ref r1), .val (.ref r2), .val (.ref r3), .val (.ref nb195), .val (.ref lf), .val (.ref r1), .val (.ref r2), .val (.ref r3), .val .null, .val .null, .val (.int (1 : Int32))] [(.int (1 : Int32))])) (fun _ k => XS.iload X259.here hx rfl (hb hby at_209) rfl k) ?_
    refine own_step (g' := (mkF m 214 #[.val (.int p1), .val (.int p2), .val (.int p3), .val (.int p4), .val (.int (p1 &&& (3 : Int32))), .val (.ref r1), .val (.ref r2), .val (.ref r3), .val (.ref nb195), .val (.ref lf), .val (.ref r1), .val (.ref r2), .val (.ref r3), .val .null, .val .null, .val (.int (1 : Int32))] [])) (fun _ k => XS.ifNo X259.here hx rfl (hb hby at_211) rfl ((if0 _ _).trans (feq (by decide : ¬ ((1 : Int32) = (0 : Int32)))).1) k) ?_
    refine own_step (g' := (mkF m 216 #[.val (.int p1), .val (.int p2), .val (.int p3), .val (.int p4), .val (.int (p1 &&& (3 : Int32))), .val (.ref r1), .val (.ref r2), .val (.ref r3), .val (.ref nb195), .val (.ref lf), .val (.ref r1), .val (.ref r2), .val (.ref r3), .val .null, .val .null, .val (.int (1 : Int32))] [(.ref nb195)])) (fun _ k => XS.aload X259.here hx rfl (hb hby at_214) rfl rfl k) ?_
    have F_260 : Fld Z T252.heap nb195 "java/util/ArrayList" "size" "I" (.int (3 : Int32)) := (F_255.keep Kq252 (ninS ne_nb195_it nin0))
    have C_262 : Exa Z T252.heap nb195 "java/util/ArrayList" := (C_253.keep Kq252)
    refine own_callV X259 hx hZ (W := 0) hown e259 (rmSize l Z a0 hw [] nb195 (3 : Int32) T252.heap n0 (Nat.le_trans (Nat.le_trans (Nat.le_trans (Nat.le_trans (Nat.le_trans (Nat.le_trans (Nat.le_trans (Nat.le_trans (Nat.le_trans (Nat.le_trans (Nat.le_trans (Nat.le_trans (Nat.le_trans (Nat.le_trans Z0 Kq186.1) Kq190.1) Kq194.1) Ex195.1) Kq201.1) Kq208.1) Kq211.1) Kq214.1) Kq220.1) Kq221.1) Kq229.1) Kq238.1) Kq247.1) Kq252.1) F_260) C_262 (hw _ (List.mem_of_getElem? (i := 87) rfl)) (hw _ (List.mem_of_getElem? (i := 88) rfl)) (notFace_of_selects (args := #[]) (mvT hZ (hw _ (List.mem_of_getElem? (i := 90) rfl)))) (hw _ (List.mem_of_getElem? (i := 90) rfl)) (hw _ (List.mem_of_getElem? (i := 89) rfl)) (hw _ (List.mem_of_getElem? (i := 91) rfl)) (hw _ (List.mem_of_getElem? (i := 9) rfl)) (by decide) (by decide) (by decide) (g := (mkF m 216 #[.val (.int p1), .val (.int p2), .val (.int p3), .val (.int p4), .val (.int (p1 &&& (3 : Int32))), .val (.ref r1), .val (.ref r2), .val (.ref r3), .val (.ref nb195), .val (.ref lf), .val (.ref r1), .val (.ref r2), .val (.ref r3), .val .null, .val .null, .val (.int (1 : Int32))] [(.ref nb195)])) rfl (by rw [hml]; rfl) (argsL := []) (rest := []) rfl (lenOf pd_13 rfl) rfl (by show 2 * 0 + _ ≤ _; exact Nat.le_of_eq rfl) (hb hby at_216) (by decide) (by decide) ?_
    intro v261 T261 L261 X261 hQ261
    obtain ⟨rfl, rfl, e261⟩ := hQ261
    replace X261 := own_pureX X261
    show OGo p e below _ T261 (mkF m 219 #[.val (.int p1), .val (.int p2), .val (.int p3), .val (.int p4), .val (.int (p1 &&& (3 : Int32))), .val (.ref r1), .val (.ref r2), .val (.ref r3), .val (.ref nb195), .val (.ref lf), .val (.ref r1), .val (.ref r2), .val (.ref r3), .val .null, .val .null, .val (.int (1 : Int32))] [(.int (3 : Int32))])
    refine own_step (g' := (mkF m 221 #[.val (.int p1), .val (.int p2), .val (.int p3), .val (.int p4), .val (.int (p1 &&& (3 : Int32))), .val (.ref r1), .val (.ref r2), .val (.ref r3), .val (.ref nb195), .val (.ref lf), .val (.ref r1), .val (.ref r2), .val (.ref r3), .val .null, .val .null, .val (.int (1 : Int32))] [(.int (p1 &&& (3 : Int32))), (.int (3 : Int32))])) (fun _ k => XS.iload X261.here hx rfl (hb hby at_219) rfl k) ?_
    refine own_step (g' := (mkF m 224 #[.val (.int p1), .val (.int p2), .val (.int p3), .val (.int p4), .val (.int (p1 &&& (3 : Int32))), .val (.ref r1), .val (.ref r2), .val (.ref r3), .val (.ref nb195), .val (.ref lf), .val (.ref r1), .val (.ref r2), .val (.ref r3), .val .null, .val .null, .val (.int (1 : Int32))] [])) (fun _ k => XS.icmpNo X261.here hx rfl (hb hby at_221) rfl (teq (by rw [hq] <;> decide : (3 : Int32) = (p1 &&& (3 : Int32)))).2 k) ?_
    refine own_step (g' := (mkF m 225 #[.val (.int p1), .val (.int p2), .val (.int p3), .val (.int p4), .val (.int (p1 &&& (3 : Int32))), .val (.ref r1), .val (.ref r2), .val (.ref r3), .val (.ref nb195), .val (.ref lf), .val (.ref r1), .val (.ref r2), .val (.ref r3), .val .null, .val .null, .val (.int (1 : Int32))] [(.int (1 : Int32))])) (fun _ k => XS.iconst X261.here hx rfl (hb hby at_224) k) ?_
    refine own_step (g' := (mkF m 229 #[.val (.int p1), .val (.int p2), .val (.int p3), .val (.int p4), .val (.int (p1 &&& (3 : Int32))), .val (.ref r1), .val (.ref r2), .val (.ref r3), .val (.ref nb195), .val (.ref lf), .val (.ref r1), .val (.ref r2), .val (.ref r3), .val .null, .val .null, .val (.int (1 : Int32))] [(.int (1 : Int32))])) (fun _ k => XS.goto X261.here hx rfl (pc0 := 225) (pc' := 229) rfl (hb hby at_225) (by decide) (by decide) k) ?_
    exact own_retN X261 hx (t := .boolean) hret (by simp) hlk (hb hby at_229) e261 (by exact ⟨rfl, N252⟩) (by decide) (by decide)
theorem own_lenK {args : Array Value} {s : State} {t : Term} {x : Addr} {cl : Cell} {ty : FieldType} {z : Int32} (ht : t.eval args s none [] s = some (.ref x)) (A : Arr s s.heap x cl ty) (hq : (Jvm.Cond.eq (.length t) (.int z)).value args s none s [] = some true) : cl.slots.size < 2 ^ 31 ∧ cl.slots.size.toInt32 = z := by
  have e1 := A.fin (U := s) (Vm.Alike.refl _)
  simp only [Cond.value, Term.eval, ht, e1] at hq
  by_cases q : cl.slots.size < 2 ^ 31
  · simp [e1, q] at hq
    exact ⟨q, hq⟩
  · simp [e1, q] at hq
theorem own_bxs {args : Array Value} {s : State} {a : Addr} {c : Cell} (ev : (Term.static "java/lang/Integer$IntegerCache" "cache" "[Ljava/lang/Integer;").eval args s none [] s = some (.ref a)) (A : Arr s s.heap a c (.object "java/lang/Integer")) (q : c.slots.size < 2 ^ 31) (e : c.slots.size.toInt32 = (256 : Int32))
    (h : ((Jvm.Cond.all (Jvm.Term.static "java/lang/Integer$IntegerCache" "cache" "[Ljava/lang/Integer;") (Jvm.Cond.and (Jvm.Cond.exactly (Jvm.Term.elem (Jvm.Term.static "java/lang/Integer$IntegerCache" "cache" "[Ljava/lang/Integer;") (Jvm.Term.index (0 : Nat))) "java/lang/Integer") (Jvm.Cond.eq (Jvm.Term.field (Jvm.Term.elem (Jvm.Term.static "java/lang/Integer$IntegerCache" "cache" "[Ljava/lang/Integer;") (Jvm.Term.index (0 : Nat))) "java/lang/Integer" "value" "I") (Jvm.Term.sub (Jvm.Term.index (0 : Nat)) (Jvm.Term.int (128 : Int32))))))).value args s none s [] = some true) : ∃ vf, Bxs s a c "java/lang/Integer" "I" (256 : Int32) vf := by
  refine ⟨fun j => .int (j - (128 : Int32)), Bxs.start (t := (Term.static "java/lang/Integer$IntegerCache" "cache" "[Ljava/lang/Integer;")) (fun _ => ev) A q e (by decide) h (fun X j hj hX => ?_)⟩
  have e1 : (Term.index 0).eval args s none [j.toNatClampNeg] s = some (.int j) := idx_at hj
  have e2 : (Term.int 128).eval args s none [j.toNatClampNeg] s = some (.int 128) := rfl
  exact eqv_i (by simp only [Term.eval] at e1 ⊢; simp; simpa using e1) hX
set_option maxRecDepth 65536 in
set_option maxHeartbeats 40000000 in
theorem comes_1 {Post : Tables → Env → Array Value → State → Outcome → State → Prop} (hpost : ∀ tb e args s v u, (limb_1_1.after args s (.returned v) u = true ∧ limb_1_2.after args s (.returned v) u = true ∧ True) → FramedW s (.returned v) u (Jvm.fieldLocs frame_1_writes args s ++ Jvm.arrayLocs frame_1_arrays args s ++ Jvm.staticLocs frame_1_statics s) 24 128 → Post tb e args s (.returned v) u) :
    ArmFor flags0 classFile x code maxLocals ret World_1 tables_1 room_1 Calls_1 rest_1 Pre_1 Post := by
  intro l hfl _ _ p e ha hc hk s m args below hf hA hF happ hP
  obtain ⟨hcalls, hrest, hpre⟩ := hP
  obtain ⟨-, -, -, hnamed, -, -, -, hat⟩ := (Spec.applies_iff hf).mp happ
  obtain ⟨hg, hn⟩ := and_e (Cond.before_iff.mp (show (Jvm.Cond.and given_1 narrow_1).before args s = true from hpre))
  obtain ⟨g1, g2⟩ := and_e hg
  obtain ⟨g3, g4⟩ := and_e g2
  obtain ⟨g5, g6⟩ := and_e g4
  obtain ⟨g7, g8⟩ := and_e g6
  obtain ⟨w0, w1, w2, w3, rfl⟩ : ∃ w0 w1 w2 w3 : Value, args = #[w0, w1, w2, w3] := by
    have hs : args.size = 4 := by simpa [Cond.value, given_1] using g1
    obtain ⟨L⟩ := args
    match L, hs with
    | [w0, w1, w2, w3], _ => exact ⟨w0, w1, w2, w3, rfl⟩
  have hw := fun d (hd : d ∈ tables_1) => atoms_spec (ws := Jvm.Cond.code x code maxLocals ret :: tables_1) hat d (List.mem_cons_of_mem _ hd)
  have hfit : Fit s := fun {y c} hc i hi => by
    obtain ⟨ha, rfl⟩ := Array.getElem?_eq_some_iff.mp hc
    have q := List.all_eq_true.mp ((Array.all_eq_true_iff_forall_mem.mp hF) _ (Array.getElem_mem ha)) i (List.mem_range.mpr hi)
    simpa [Array.getElem?_eq_getElem hi] using q
  obtain ⟨hsets, hown0⟩ := atoms_of _ (rest_1_c_eq ▸ (show rest_1_c.before _ s = true from hrest))
  obtain ⟨i0, ei0⟩ := is_v g3
  obtain rfl : w0 = (.int i0) := Option.some.inj ei0
  obtain ⟨i1, ei1⟩ := is_v g5
  obtain rfl : w1 = (.int i1) := Option.some.inj ei1
  obtain ⟨i2, ei2⟩ := is_v g7
  obtain rfl : w2 = (.int i2) := Option.some.inj ei2
  obtain ⟨i3, ei3⟩ := is_v g8
  obtain rfl : w3 = (.int i3) := Option.some.inj ei3
  have ev_hi := eqv_i (Term.int_eval (127)) (Cond.before_iff.mp (hsets _ (List.mem_of_getElem? (i := 3) rfl)))
  have S_hi := Sta.start ev_hi (Or.inr ⟨(hw _ (List.mem_of_getElem? (i := 5) rfl)), hsets _ (List.mem_of_getElem? (i := 0) rfl)⟩)
  obtain ⟨ca, ev_ca⟩ := arr_v (Cond.before_iff.mp (hsets _ (List.mem_of_getElem? (i := 4) rfl)))
  have S_ca := Sta.start ev_ca (Or.inr ⟨(hw _ (List.mem_of_getElem? (i := 5) rfl)), hsets _ (List.mem_of_getElem? (i := 2) rfl)⟩)
  obtain ⟨cc, Ac⟩ := Arr.start ev_ca (Cond.before_iff.mp (hsets _ (List.mem_of_getElem? (i := 4) rfl)))
  obtain ⟨qz, ez⟩ := own_lenK ev_ca Ac (Cond.before_iff.mp (hsets _ (List.mem_of_getElem? (i := 6) rfl)))
  obtain ⟨vf, Bx⟩ := own_bxs ev_ca Ac qz ez (Cond.before_iff.mp (hsets _ (List.mem_of_getElem? (i := 7) rfl)))
  obtain ⟨cK, HL, HS⟩ := own_lamOf (hw _ (List.mem_of_getElem? (i := 62) rfl)) (hw _ (List.mem_of_getElem? (i := 64) rfl)) (hw _ (List.mem_of_getElem? (i := 67) rfl)) (hw _ (List.mem_of_getElem? (i := 69) rfl))
  obtain ⟨ed, ev_DC⟩ := arr_v (Cond.before_iff.mp (hsets _ (List.mem_of_getElem? (i := 14) rfl)))
  have S_DC := Sta.start ev_DC (Or.inr ⟨(hw _ (List.mem_of_getElem? (i := 9) rfl)), hsets _ (List.mem_of_getElem? (i := 10) rfl)⟩)
  obtain ⟨cd, Ad⟩ := Arr.start ev_DC (Cond.before_iff.mp (hsets _ (List.mem_of_getElem? (i := 14) rfl)))
  have hld := own_len0 ev_DC Ad (Cond.before_iff.mp (hsets _ (List.mem_of_getElem? (i := 16) rfl)))
  obtain ⟨kd, Vd⟩ : ∃ kd, Arv s s.heap ed kd (.object "java/lang/Object") (0 : Int32) [] .null := ⟨_, own_arv0 Ad hld⟩
  obtain ⟨n, o, h1, h2, h3, _, L, rfl, ⟨rfl, N⟩, hq⟩ := rm0 l s _ hw tables_1 i0 i1 i2 i3 ca cc vf ed kd cK s.heap s.heap.size (Nat.le_refl _) S_hi S_ca Bx (Old.start s) HL HS S_DC Vd p e ha hc hk s m _ below hf ((Spec.applies_iff_loose hf).mp happ).1 ⟨rfl, State.Warmed39.refl s, rfl⟩ trivial
  have hq := RoadKit.wide hq
  refine ⟨n, _, h1, h2, h3, hpost _ _ _ _ _ _ ⟨Cond.after_iff.mpr rfl, Cond.after_iff.mpr (eq_i res_at (Term.int_eval (1)) rfl), trivial⟩ ⟨hq.1, hq.2.1, hq.2.2.1, (hq.2.2.2.sift fun y hy => Or.inr (N y hy)).mono (by decide) (by decide)⟩⟩
theorem main_1_1 : Claimed_1_1 := comes_1 fun _ _ _ _ _ _ h hF => ⟨h.1, hF⟩
theorem main_1_2 : Claimed_1_2 := comes_1 fun _ _ _ _ _ _ h hF => ⟨h.2.1, hF⟩
end Jvm.Pilot.@@N@@
namespace Jvm.Pilot.@@N@@
open Jvm Jvm.ClassFile Sem Op Lib Jvm.Free Jvm.Stand Jvm.Pilot.@@N@@.Jvm.D
/-! MADE BY PROGRAM (witnessworld.py) out of the Statement's table words and the real class files: 29 classes; the members and pool entries that the words name. The judged class is class 1, her method 2. -/
namespace start1
open Jvm.ClassFile
def u (s : String) : CpInfo := .utf8 (stringToUtf16 s)
/-- a pool by its gaps: so many unusable entries, then the entry; so many at the end -/
def gap : Nat → List CpInfo → List CpInfo
  | 0, r => r
  | n + 1, r => .unusable :: gap n r
def poolList (es : List (Nat × CpInfo)) (last : Nat) : List CpInfo := es.foldr (fun e r => gap e.1 (e.2 :: r)) (gap last [])
def pool (es : List (Nat × CpInfo)) (last : Nat) : Array CpInfo := ⟨poolList es last⟩
def fileOf (pool : Array CpInfo) (this : Nat) (attrs : Array Attribute := #[]) (ms : Array MethodInfo := #[]) (fl : Nat := 33) (sup : Nat := 0) (ifs : Array Nat := #[]) (fds : Array FieldInfo := #[]) : ClassFile where
  minorVersion := 0
  majorVersion := 65
  constantPool := pool
  accessFlags := fl
  thisClass := this
  superClass := sup
  interfaces := ifs
  fields := fds
  methods := ms
  attributes := attrs
def plain (name : String) (sup : Option ClassId) : Class where
  name := name
  kind := .ordinary
  loader := none
  accessFlags := 33
  super := sup
  interfaces := #[]
  cf := none
  fields := #[]
  methods := #[]
  instanceTypes := #[]
  staticTypes := #[]
  resolved := #[]
  callSites := []
  init := .initialized
  statics := none
  mirror := none

def pool0 : Array CpInfo := pool [(5, u "<init>"), (0, u "()V"), (1, .class_ 10), (1, u "java/lang/Object")] 113

def k0c0 : Code := { maxStack := 0, maxLocals := 1, code := object_method_1_code, exceptionTable := #[], attributes := #[] }
def k0m0 : Method := { name := "<init>", desc := "()V", sig := { parameters := [], returnType := none }, accessFlags := 1, code := some k0c0 }
/-- java/lang/Object -/
def k0 : Class := { plain "java/lang/Object" none with
  accessFlags := 33
  interfaces := #[]
  cf := some (fileOf pool0 8 #[] #[{ accessFlags := 1, nameIndex := 5, descriptorIndex := 6, attributes := #[] }] 33 0 #[] #[])
  fields := #[]
  methods := #[k0m0]
  instanceTypes := #[]
  staticTypes := #[]
  resolved := Array.replicate 124 none
  statics := none }

def pool1 : Array CpInfo := pool [(2, .class_ 4), (0, .nameAndType 5 6), (0, u "java/lang/Object"), (0, u "<init>"), (0, u "()V"), (0, .methodref 8 9), (0, .class_ 10), (0, .nameAndType 11 12), (0, u "java/lang/Integer"), (0, u "valueOf"), (0, u "(I)Ljava/lang/Integer;"), (0, .class_ 14), (0, u "java/util/ArrayList"), (0, .methodref 13 3), (0, .methodref 13 17), (0, .nameAndType 18 19), (0, u "add"), (0, u "(Ljava/lang/Object;)Z"), (0, .interfaceMethodref 21 22), (0, .class_ 23), (0, .nameAndType 24 25), (0, u "com/example/cuttlefish/cuttlefish/store/RecordCursor"), (0, u "over"), (0, u "(Ljava/util/List;)Lcom/example/cuttlefish/cuttlefish/store/RecordCursor;"), (0, .interfaceMethodref 21 27), (0, .nameAndType 28 29), (0, u "next"), (0, u "()Ljava/lang/Object;"), (0, .methodref 31 32), (0, .class_ 33), (0, .nameAndType 34 35), (0, u "com/example/cuttlefish/cuttlefish/store/RecordCursorOverPinLaw"), (0, u "slot"), (0, u "(IILjava/lang/Integer;Ljava/lang/Integer;)Z"), (0, .methodref 13 37), (0, .nameAndType 38 39), (0, u "size"), (0, u "()I"), (3, u "law"), (0, u "(IIII)Z")] 2

def k1m0 : Method := { name := "<init>", desc := "()V", sig := { parameters := [], returnType := none }, accessFlags := 1, code := none }
def k1c1 : Code := { maxStack := 2, maxLocals := 4, code := method_2_code, exceptionTable := #[], attributes := #[] }
def k1m1 : Method := { name := "slot", desc := "(IILjava/lang/Integer;Ljava/lang/Integer;)Z", sig := { parameters := [.int, .int, (.object "java/lang/Integer"), (.object "java/lang/Integer")], returnType := some .boolean }, accessFlags := 10, code := some k1c1 }
def k1c2 : Code := { maxStack := 4, maxLocals := 16, code := code, exceptionTable := #[], attributes := #[] }
def k1m2 : Method := { name := "law", desc := "(IIII)Z", sig := { parameters := [.int, .int, .int, .int], returnType := some .boolean }, accessFlags := 9, code := some k1c2 }
/-- com/example/cuttlefish/cuttlefish/store/RecordCursorOverPinLaw -/
def k1 : Class := { plain "com/example/cuttlefish/cuttlefish/store/RecordCursorOverPinLaw" (some 0) with
  accessFlags := 49
  interfaces := #[]
  cf := some (fileOf pool1 31 #[] #[{ accessFlags := 1, nameIndex := 5, descriptorIndex := 6, attributes := #[] }, { accessFlags := 10, nameIndex := 34, descriptorIndex := 35, attributes := #[] }, { accessFlags := 9, nameIndex := 43, descriptorIndex := 44, attributes := #[] }] 49 2 #[] #[])
  fields := #[]
  methods := #[k1m0, k1m1, k1m2]
  instanceTypes := #[]
  staticTypes := #[]
  resolved := Array.replicate 47 none
  statics := none }

def pool2 : Array CpInfo := pool [(1, .class_ 2), (0, u "java/io/Serializable"), (0, .class_ 4), (0, u "java/lang/Object")] 2

/-- java/io/Serializable -/
def k2 : Class := { plain "java/io/Serializable" (some 0) with
  accessFlags := 1537
  interfaces := #[]
  cf := some (fileOf pool2 1 #[] #[] 1537 3 #[] #[])
  fields := #[]
  methods := #[]
  instanceTypes := #[]
  staticTypes := #[]
  resolved := Array.replicate 7 none
  statics := none }

def pool3 : Array CpInfo := pool [(1, .methodref 2 3), (0, .class_ 4), (0, .nameAndType 5 6), (0, u "java/lang/Object"), (0, u "<init>"), (0, u "()V"), (1, .class_ 10), (1, u "java/lang/Number"), (2, .class_ 14), (0, u "java/io/Serializable"), (0, u "serialVersionUID"), (0, u "J")] 20

def k3c0 : Code := { maxStack := 1, maxLocals := 1, code := jdk_18_method_1_code, exceptionTable := #[], attributes := #[] }
def k3m0 : Method := { name := "<init>", desc := "()V", sig := { parameters := [], returnType := none }, accessFlags := 1, code := some k3c0 }
/-- java/lang/Number -/
def k3 : Class := { plain "java/lang/Number" (some 0) with
  accessFlags := 1057
  interfaces := #[2]
  cf := some (fileOf pool3 8 #[] #[{ accessFlags := 1, nameIndex := 5, descriptorIndex := 6, attributes := #[] }] 1057 2 #[13] #[{ accessFlags := 26, nameIndex := 15, descriptorIndex := 16, attributes := #[] }])
  fields := #[{ name := "serialVersionUID", type := .long, accessFlags := 26, slot := 0, constantValue := 0 }]
  methods := #[k3m0]
  instanceTypes := #[]
  staticTypes := #[.long]
  resolved := Array.replicate 37 none
  statics := none }

def pool4 : Array CpInfo := pool [(1, .class_ 2), (0, u "java/lang/Comparable"), (0, .class_ 4), (0, u "java/lang/Object")] 7

/-- java/lang/Comparable -/
def k4 : Class := { plain "java/lang/Comparable" (some 0) with
  accessFlags := 1537
  interfaces := #[]
  cf := some (fileOf pool4 1 #[] #[] 1537 3 #[] #[])
  fields := #[]
  methods := #[]
  instanceTypes := #[]
  staticTypes := #[]
  resolved := Array.replicate 12 none
  statics := none }

def pool5 : Array CpInfo := pool [(1, .class_ 2), (0, u "java/lang/constant/Constable"), (0, .class_ 4), (0, u "java/lang/Object")] 6

/-- java/lang/constant/Constable -/
def k5 : Class := { plain "java/lang/constant/Constable" (some 0) with
  accessFlags := 1537
  interfaces := #[]
  cf := some (fileOf pool5 1 #[] #[] 1537 3 #[] #[])
  fields := #[]
  methods := #[]
  instanceTypes := #[]
  staticTypes := #[]
  resolved := Array.replicate 11 none
  statics := none }

def pool6 : Array CpInfo := pool [(1, .class_ 2), (0, u "java/lang/constant/ConstantDesc"), (0, .class_ 4), (0, u "java/lang/Object")] 32

/-- java/lang/constant/ConstantDesc -/
def k6 : Class := { plain "java/lang/constant/ConstantDesc" (some 0) with
  accessFlags := 1537
  interfaces := #[]
  cf := some (fileOf pool6 1 #[] #[] 1537 3 #[] #[])
  fields := #[]
  methods := #[]
  instanceTypes := #[]
  staticTypes := #[]
  resolved := Array.replicate 37 none
  statics := none }

def pool7 : Array CpInfo := pool [(1, .class_ 2), (0, u "java/lang/Integer"), (16, u "digits"), (0, u "[C"), (46, u "<init>"), (17, u "DigitOnes"), (0, u "[B"), (2, u "DigitTens"), (10, .nameAndType 67 101), (0, u "()V"), (85, u "valueOf"), (0, u "(I)Ljava/lang/Integer;"), (0, .class_ 190), (0, u "java/lang/Integer$IntegerCache"), (0, .fieldref 189 192), (0, .nameAndType 193 194), (0, u "high"), (0, u "I"), (0, .fieldref 189 196), (0, .nameAndType 197 198), (0, u "cache"), (0, u "[Ljava/lang/Integer;"), (0, .methodref 1 200), (0, .nameAndType 67 201), (0, u "(I)V"), (0, .methodref 203 100), (0, .class_ 204), (0, u "java/lang/Number"), (0, .fieldref 1 206), (0, .nameAndType 207 194), (0, u "value"), (94, u "TYPE"), (0, u "Ljava/lang/Class;"), (0, .class_ 305), (0, u "java/lang/Comparable"), (0, .class_ 307), (0, u "java/lang/constant/Constable"), (0, .class_ 309), (0, u "java/lang/constant/ConstantDesc"), (0, u "MIN_VALUE"), (1, u "MAX_VALUE"), (3, u "SIZE"), (1, u "BYTES"), (1, u "serialVersionUID"), (0, u "J")] 131

def k7c0 : Code := { maxStack := 3, maxLocals := 1, code := jdk_33_method_22_code, exceptionTable := #[], attributes := #[] }
def k7m0 : Method := { name := "valueOf", desc := "(I)Ljava/lang/Integer;", sig := { parameters := [.int], returnType := some (.object "java/lang/Integer") }, accessFlags := 9, code := some k7c0 }
def k7c1 : Code := { maxStack := 2, maxLocals := 2, code := jdk_33_method_23_code, exceptionTable := #[], attributes := #[] }
def k7m1 : Method := { name := "<init>", desc := "(I)V", sig := { parameters := [.int], returnType := none }, accessFlags := 1, code := some k7c1 }
/-- java/lang/Integer -/
def k7 : Class := { plain "java/lang/Integer" (some 3) with
  accessFlags := 49
  interfaces := #[4, 5, 6]
  cf := some (fileOf pool7 1 #[.nestMembers #[189]] #[{ accessFlags := 9, nameIndex := 187, descriptorIndex := 188, attributes := #[] }, { accessFlags := 1, nameIndex := 67, descriptorIndex := 201, attributes := #[] }] 49 203 #[304, 306, 308] #[{ accessFlags := 25, nameIndex := 310, descriptorIndex := 194, attributes := #[] }, { accessFlags := 25, nameIndex := 312, descriptorIndex := 194, attributes := #[] }, { accessFlags := 25, nameIndex := 302, descriptorIndex := 303, attributes := #[] }, { accessFlags := 24, nameIndex := 19, descriptorIndex := 20, attributes := #[] }, { accessFlags := 24, nameIndex := 89, descriptorIndex := 86, attributes := #[] }, { accessFlags := 24, nameIndex := 85, descriptorIndex := 86, attributes := #[] }, { accessFlags := 18, nameIndex := 207, descriptorIndex := 194, attributes := #[] }, { accessFlags := 25, nameIndex := 316, descriptorIndex := 194, attributes := #[] }, { accessFlags := 25, nameIndex := 318, descriptorIndex := 194, attributes := #[] }, { accessFlags := 26, nameIndex := 320, descriptorIndex := 321, attributes := #[] }])
  fields := #[{ name := "MIN_VALUE", type := .int, accessFlags := 25, slot := 0, constantValue := 0 }, { name := "MAX_VALUE", type := .int, accessFlags := 25, slot := 1, constantValue := 0 }, { name := "TYPE", type := (.object "java/lang/Class"), accessFlags := 25, slot := 2, constantValue := 0 }, { name := "digits", type := (.array .char), accessFlags := 24, slot := 3, constantValue := 0 }, { name := "DigitTens", type := (.array .byte), accessFlags := 24, slot := 4, constantValue := 0 }, { name := "DigitOnes", type := (.array .byte), accessFlags := 24, slot := 5, constantValue := 0 }, { name := "value", type := .int, accessFlags := 18, slot := 0, constantValue := 0 }, { name := "SIZE", type := .int, accessFlags := 25, slot := 6, constantValue := 0 }, { name := "BYTES", type := .int, accessFlags := 25, slot := 7, constantValue := 0 }, { name := "serialVersionUID", type := .long, accessFlags := 26, slot := 8, constantValue := 0 }]
  methods := #[k7m0, k7m1]
  instanceTypes := #[.int]
  staticTypes := #[.int, .int, (.object "java/lang/Class"), (.array .char), (.array .byte), (.array .byte), .int, .int, .long]
  resolved := Array.replicate 453 none
  statics := none }

def pool8 : Array CpInfo := pool [(2, .class_ 4), (1, u "java/lang/Object"), (0, u "<init>"), (0, u "()V"), (0, .class_ 8), (0, u "java/lang/Integer"), (7, .class_ 18), (1, u "java/lang/Integer$IntegerCache"), (0, u "$assertionsDisabled"), (0, u "Z"), (26, u "high"), (0, u "I"), (8, u "archivedCache"), (0, u "[Ljava/lang/Integer;"), (12, u "cache"), (0, u "low")] 27

def k8m0 : Method := { name := "<init>", desc := "()V", sig := { parameters := [], returnType := none }, accessFlags := 2, code := none }
/-- java/lang/Integer$IntegerCache -/
def k8 : Class := { plain "java/lang/Integer$IntegerCache" (some 0) with
  accessFlags := 48
  interfaces := #[]
  cf := some (fileOf pool8 16 #[.nestHost 7] #[{ accessFlags := 2, nameIndex := 5, descriptorIndex := 6, attributes := #[] }] 48 2 #[] #[{ accessFlags := 24, nameIndex := 72, descriptorIndex := 48, attributes := #[] }, { accessFlags := 24, nameIndex := 47, descriptorIndex := 48, attributes := #[] }, { accessFlags := 24, nameIndex := 71, descriptorIndex := 58, attributes := #[] }, { accessFlags := 8, nameIndex := 57, descriptorIndex := 58, attributes := #[] }, { accessFlags := 4120, nameIndex := 19, descriptorIndex := 20, attributes := #[] }])
  fields := #[{ name := "low", type := .int, accessFlags := 24, slot := 0, constantValue := 0 }, { name := "high", type := .int, accessFlags := 24, slot := 1, constantValue := 0 }, { name := "cache", type := (.array (.object "java/lang/Integer")), accessFlags := 24, slot := 2, constantValue := 0 }, { name := "archivedCache", type := (.array (.object "java/lang/Integer")), accessFlags := 8, slot := 3, constantValue := 0 }, { name := "$assertionsDisabled", type := .boolean, accessFlags := 4120, slot := 4, constantValue := 0 }]
  methods := #[k8m0]
  instanceTypes := #[]
  staticTypes := #[.int, .int, (.array (.object "java/lang/Integer")), (.array (.object "java/lang/Integer")), .boolean]
  resolved := Array.replicate 100 none
  statics := some 0 }

def pool9 : Array CpInfo := pool [(8, .class_ 10), (1, u "java/lang/Iterable"), (24, .class_ 36), (0, u "java/lang/Object")] 25

/-- java/lang/Iterable -/
def k9 : Class := { plain "java/lang/Iterable" (some 0) with
  accessFlags := 1537
  interfaces := #[]
  cf := some (fileOf pool9 8 #[] #[] 1537 35 #[] #[])
  fields := #[]
  methods := #[]
  instanceTypes := #[]
  staticTypes := #[]
  resolved := Array.replicate 62 none
  statics := none }

def pool10 : Array CpInfo := pool [(10, .class_ 12), (1, u "java/util/Collection"), (47, .class_ 61), (0, u "java/lang/Object"), (0, .class_ 63), (0, u "java/lang/Iterable")] 51

/-- java/util/Collection -/
def k10 : Class := { plain "java/util/Collection" (some 0) with
  accessFlags := 1537
  interfaces := #[9]
  cf := some (fileOf pool10 10 #[] #[] 1537 60 #[62] #[])
  fields := #[]
  methods := #[]
  instanceTypes := #[]
  staticTypes := #[]
  resolved := Array.replicate 115 none
  statics := none }

def pool11 : Array CpInfo := pool [(1, .methodref 2 3), (0, .class_ 4), (0, .nameAndType 5 6), (0, u "java/lang/Object"), (0, u "<init>"), (0, u "()V"), (1, .class_ 10), (1, u "java/util/AbstractCollection"), (66, .class_ 78), (0, u "java/util/Collection")] 81

def k11c0 : Code := { maxStack := 1, maxLocals := 1, code := jdk_22_method_1_code, exceptionTable := #[], attributes := #[] }
def k11m0 : Method := { name := "<init>", desc := "()V", sig := { parameters := [], returnType := none }, accessFlags := 4, code := some k11c0 }
/-- java/util/AbstractCollection -/
def k11 : Class := { plain "java/util/AbstractCollection" (some 0) with
  accessFlags := 1057
  interfaces := #[10]
  cf := some (fileOf pool11 8 #[] #[{ accessFlags := 4, nameIndex := 5, descriptorIndex := 6, attributes := #[] }] 1057 2 #[77] #[])
  fields := #[]
  methods := #[k11m0]
  instanceTypes := #[]
  staticTypes := #[]
  resolved := Array.replicate 160 none
  statics := none }

def pool12 : Array CpInfo := pool [(8, .class_ 10), (1, u "java/util/SequencedCollection"), (15, .class_ 27), (0, u "java/lang/Object"), (0, .class_ 29), (0, u "java/util/Collection")] 27

/-- java/util/SequencedCollection -/
def k12 : Class := { plain "java/util/SequencedCollection" (some 0) with
  accessFlags := 1537
  interfaces := #[10]
  cf := some (fileOf pool12 8 #[] #[] 1537 26 #[28] #[])
  fields := #[]
  methods := #[]
  instanceTypes := #[]
  staticTypes := #[]
  resolved := Array.replicate 57 none
  statics := none }

def pool13 : Array CpInfo := pool [(8, .class_ 10), (1, u "java/util/List"), (92, .class_ 104), (0, u "java/lang/Object"), (15, .class_ 121), (0, u "java/util/SequencedCollection"), (1, u "iterator"), (0, u "()Ljava/util/Iterator;")] 126

def k13m0 : Method := { name := "iterator", desc := "()Ljava/util/Iterator;", sig := { parameters := [], returnType := some (.object "java/util/Iterator") }, accessFlags := 1025, code := none }
/-- java/util/List -/
def k13 : Class := { plain "java/util/List" (some 0) with
  accessFlags := 1537
  interfaces := #[12]
  cf := some (fileOf pool13 8 #[] #[{ accessFlags := 1025, nameIndex := 123, descriptorIndex := 124, attributes := #[] }] 1537 103 #[120] #[])
  fields := #[]
  methods := #[k13m0]
  instanceTypes := #[]
  staticTypes := #[]
  resolved := Array.replicate 251 none
  statics := none }

def pool14 : Array CpInfo := pool [(1, .methodref 2 3), (0, .class_ 4), (0, .nameAndType 5 6), (0, u "java/util/AbstractCollection"), (0, u "<init>"), (0, u "()V"), (0, .fieldref 8 9), (0, .class_ 10), (0, .nameAndType 11 12), (0, u "java/util/AbstractList"), (0, u "modCount"), (0, u "I"), (64, .class_ 78), (0, u "java/util/AbstractList$Itr"), (3, .class_ 83), (0, u "java/util/AbstractList$ListItr"), (9, .class_ 94), (0, u "java/util/AbstractList$RandomAccessSubList"), (3, .class_ 99), (0, u "java/util/AbstractList$SubList"), (33, .class_ 134), (0, u "java/util/List"), (73, .class_ 209), (0, u "java/util/AbstractList$SubList$1"), (0, .class_ 211), (0, u "java/util/AbstractList$RandomAccessSpliterator")] 6

def k14c0 : Code := { maxStack := 2, maxLocals := 1, code := jdk_39_method_1_code, exceptionTable := #[], attributes := #[] }
def k14m0 : Method := { name := "<init>", desc := "()V", sig := { parameters := [], returnType := none }, accessFlags := 4, code := some k14c0 }
/-- java/util/AbstractList -/
def k14 : Class := { plain "java/util/AbstractList" (some 11) with
  accessFlags := 1057
  interfaces := #[13]
  cf := some (fileOf pool14 8 #[.nestMembers #[93, 98, 208, 210, 82, 77]] #[{ accessFlags := 4, nameIndex := 5, descriptorIndex := 6, attributes := #[] }] 1057 2 #[133] #[{ accessFlags := 132, nameIndex := 11, descriptorIndex := 12, attributes := #[] }])
  fields := #[{ name := "modCount", type := .int, accessFlags := 132, slot := 0, constantValue := 0 }]
  methods := #[k14m0]
  instanceTypes := #[.int]
  staticTypes := #[]
  resolved := Array.replicate 218 none
  statics := none }

def pool15 : Array CpInfo := pool [(1, .class_ 2), (0, u "java/util/RandomAccess"), (0, .class_ 4), (0, u "java/lang/Object")] 2

/-- java/util/RandomAccess -/
def k15 : Class := { plain "java/util/RandomAccess" (some 0) with
  accessFlags := 1537
  interfaces := #[]
  cf := some (fileOf pool15 1 #[] #[] 1537 3 #[] #[])
  fields := #[]
  methods := #[]
  instanceTypes := #[]
  staticTypes := #[]
  resolved := Array.replicate 7 none
  statics := none }

def pool16 : Array CpInfo := pool [(1, .class_ 2), (0, u "java/lang/Cloneable"), (0, .class_ 4), (0, u "java/lang/Object")] 2

/-- java/lang/Cloneable -/
def k16 : Class := { plain "java/lang/Cloneable" (some 0) with
  accessFlags := 1537
  interfaces := #[]
  cf := some (fileOf pool16 1 #[] #[] 1537 3 #[] #[])
  fields := #[]
  methods := #[]
  instanceTypes := #[]
  staticTypes := #[]
  resolved := Array.replicate 7 none
  statics := none }

def pool17 : Array CpInfo := pool [(1, .methodref 2 3), (0, .class_ 4), (0, .nameAndType 5 6), (0, u "java/util/AbstractList"), (0, u "<init>"), (0, u "()V"), (0, .class_ 8), (0, u "java/lang/Object"), (0, .fieldref 10 11), (0, .class_ 12), (0, .nameAndType 13 14), (0, u "java/util/ArrayList"), (0, u "elementData"), (0, u "[Ljava/lang/Object;"), (2, u "EMPTY_ELEMENTDATA"), (21, .fieldref 10 40), (0, .nameAndType 41 14), (0, u "DEFAULTCAPACITY_EMPTY_ELEMENTDATA"), (5, u "()[Ljava/lang/Object;"), (0, .fieldref 10 49), (0, .nameAndType 50 51), (0, u "size"), (0, u "I"), (11, .fieldref 10 64), (0, .nameAndType 65 51), (0, u "modCount"), (3, .methodref 10 70), (0, .nameAndType 71 72), (0, u "grow"), (0, u "(I)[Ljava/lang/Object;"), (6, .methodref 80 81), (0, .class_ 82), (0, .nameAndType 83 84), (0, u "java/lang/Math"), (0, u "max"), (0, u "(II)I"), (11, u "(Ljava/lang/Object;)Z"), (32, .methodref 10 130), (0, .nameAndType 71 47), (0, .methodref 10 132), (0, .nameAndType 133 134), (0, u "add"), (0, u "(Ljava/lang/Object;[Ljava/lang/Object;I)V"), (13, .class_ 149), (0, u "java/util/List"), (16, u "iterator"), (0, u "()Ljava/util/Iterator;"), (18, u "()I"), (75, .class_ 263), (0, u "java/util/ArrayList$ListItr"), (3, .class_ 268), (0, u "java/util/ArrayList$Itr"), (0, .methodref 267 270), (0, .nameAndType 5 271), (0, u "(Ljava/util/ArrayList;)V"), (4, .class_ 277), (0, u "java/util/ArrayList$SubList"), (12, .class_ 291), (0, u "java/util/ArrayList$ArrayListSpliterator"), (37, .class_ 330), (0, u "java/util/RandomAccess"), (0, .class_ 332), (0, u "java/lang/Cloneable"), (0, .class_ 334), (0, u "java/io/Serializable"), (0, u "serialVersionUID"), (0, u "J"), (3, u "DEFAULT_CAPACITY"), (159, .class_ 501), (0, u "java/util/ArrayList$SubList$2"), (0, .class_ 503), (0, u "java/util/ArrayList$SubList$1")] 5

def k17c0 : Code := { maxStack := 2, maxLocals := 1, code := jdk_38_method_2_code, exceptionTable := #[], attributes := #[] }
def k17m0 : Method := { name := "<init>", desc := "()V", sig := { parameters := [], returnType := none }, accessFlags := 1, code := some k17c0 }
def k17c1 : Code := { maxStack := 4, maxLocals := 4, code := jdk_38_method_6_code, exceptionTable := #[], attributes := #[] }
def k17m1 : Method := { name := "grow", desc := "(I)[Ljava/lang/Object;", sig := { parameters := [.int], returnType := some (.array (.object "java/lang/Object")) }, accessFlags := 2, code := some k17c1 }
def k17c2 : Code := { maxStack := 3, maxLocals := 1, code := jdk_38_method_7_code, exceptionTable := #[], attributes := #[] }
def k17m2 : Method := { name := "grow", desc := "()[Ljava/lang/Object;", sig := { parameters := [], returnType := some (.array (.object "java/lang/Object")) }, accessFlags := 2, code := some k17c2 }
def k17c3 : Code := { maxStack := 1, maxLocals := 1, code := jdk_38_method_8_code, exceptionTable := #[], attributes := #[] }
def k17m3 : Method := { name := "size", desc := "()I", sig := { parameters := [], returnType := some .int }, accessFlags := 1, code := some k17c3 }
def k17c4 : Code := { maxStack := 3, maxLocals := 4, code := jdk_38_method_24_code, exceptionTable := #[], attributes := #[] }
def k17m4 : Method := { name := "add", desc := "(Ljava/lang/Object;[Ljava/lang/Object;I)V", sig := { parameters := [(.object "java/lang/Object"), (.array (.object "java/lang/Object")), .int], returnType := none }, accessFlags := 2, code := some k17c4 }
def k17c5 : Code := { maxStack := 4, maxLocals := 2, code := jdk_38_method_25_code, exceptionTable := #[], attributes := #[] }
def k17m5 : Method := { name := "add", desc := "(Ljava/lang/Object;)Z", sig := { parameters := [(.object "java/lang/Object")], returnType := some .boolean }, accessFlags := 1, code := some k17c5 }
def k17c6 : Code := { maxStack := 3, maxLocals := 1, code := jdk_38_method_55_code, exceptionTable := #[], attributes := #[] }
def k17m6 : Method := { name := "iterator", desc := "()Ljava/util/Iterator;", sig := { parameters := [], returnType := some (.object "java/util/Iterator") }, accessFlags := 1, code := some k17c6 }
/-- java/util/ArrayList -/
def k17 : Class := { plain "java/util/ArrayList" (some 14) with
  accessFlags := 33
  interfaces := #[13, 15, 16, 2]
  cf := some (fileOf pool17 10 #[.nestMembers #[290, 276, 500, 502, 262, 267]] #[{ accessFlags := 1, nameIndex := 5, descriptorIndex := 6, attributes := #[] }, { accessFlags := 2, nameIndex := 71, descriptorIndex := 72, attributes := #[] }, { accessFlags := 2, nameIndex := 71, descriptorIndex := 47, attributes := #[] }, { accessFlags := 1, nameIndex := 50, descriptorIndex := 186, attributes := #[] }, { accessFlags := 2, nameIndex := 133, descriptorIndex := 134, attributes := #[] }, { accessFlags := 1, nameIndex := 133, descriptorIndex := 96, attributes := #[] }, { accessFlags := 1, nameIndex := 166, descriptorIndex := 167, attributes := #[] }] 33 2 #[148, 329, 331, 333] #[{ accessFlags := 26, nameIndex := 335, descriptorIndex := 336, attributes := #[] }, { accessFlags := 26, nameIndex := 340, descriptorIndex := 51, attributes := #[] }, { accessFlags := 26, nameIndex := 17, descriptorIndex := 14, attributes := #[] }, { accessFlags := 26, nameIndex := 41, descriptorIndex := 14, attributes := #[] }, { accessFlags := 128, nameIndex := 13, descriptorIndex := 14, attributes := #[] }, { accessFlags := 2, nameIndex := 50, descriptorIndex := 51, attributes := #[] }])
  fields := #[{ name := "serialVersionUID", type := .long, accessFlags := 26, slot := 0, constantValue := 0 }, { name := "DEFAULT_CAPACITY", type := .int, accessFlags := 26, slot := 1, constantValue := 0 }, { name := "EMPTY_ELEMENTDATA", type := (.array (.object "java/lang/Object")), accessFlags := 26, slot := 2, constantValue := 0 }, { name := "DEFAULTCAPACITY_EMPTY_ELEMENTDATA", type := (.array (.object "java/lang/Object")), accessFlags := 26, slot := 3, constantValue := 0 }, { name := "elementData", type := (.array (.object "java/lang/Object")), accessFlags := 128, slot := 1, constantValue := 0 }, { name := "size", type := .int, accessFlags := 2, slot := 2, constantValue := 0 }]
  methods := #[k17m0, k17m1, k17m2, k17m3, k17m4, k17m5, k17m6]
  instanceTypes := #[.int, (.array (.object "java/lang/Object")), .int]
  staticTypes := #[.long, .int, (.array (.object "java/lang/Object")), (.array (.object "java/lang/Object"))]
  resolved := Array.replicate 509 none
  statics := some 1 }

def pool18 : Array CpInfo := pool [(1, .interfaceMethodref 2 3), (0, .class_ 4), (0, .nameAndType 5 6), (0, u "java/util/List"), (0, u "iterator"), (0, u "()Ljava/util/Iterator;"), (0, .invokeDynamic 0 8), (0, .nameAndType 9 10), (0, u "next"), (0, u "(Ljava/util/Iterator;)Lcom/example/cuttlefish/cuttlefish/store/RecordCursor;"), (0, .interfaceMethodref 12 13), (0, .class_ 14), (0, .nameAndType 15 16), (0, u "java/util/Iterator"), (0, u "hasNext"), (0, u "()Z"), (0, .interfaceMethodref 12 18), (0, .nameAndType 9 19), (0, u "()Ljava/lang/Object;"), (0, .class_ 21), (0, u "com/example/cuttlefish/cuttlefish/store/RecordCursor"), (0, .class_ 23), (0, u "java/lang/Object"), (2, u "over"), (0, u "(Ljava/util/List;)Lcom/example/cuttlefish/cuttlefish/store/RecordCursor;"), (3, u "lambda$over$0"), (0, u "(Ljava/util/Iterator;)Ljava/lang/Object;"), (5, .methodType 19), (0, .methodHandle 6 40), (0, .interfaceMethodref 20 41), (0, .nameAndType 31 32), (0, .methodHandle 6 43), (0, .methodref 44 45), (0, .class_ 46), (0, .nameAndType 47 48), (0, u "java/lang/invoke/LambdaMetafactory"), (0, u "metafactory"), (0, u "(Ljava/lang/invoke/MethodHandles$Lookup;Ljava/lang/String;Ljava/lang/invoke/MethodType;Ljava/lang/invoke/MethodType;Ljava/lang/invoke/MethodHandle;Ljava/lang/invoke/MethodType;)Ljava/lang/invoke/CallSite;")] 6

def k18m0 : Method := { name := "next", desc := "()Ljava/lang/Object;", sig := { parameters := [], returnType := some (.object "java/lang/Object") }, accessFlags := 1025, code := none }
def k18c1 : Code := { maxStack := 1, maxLocals := 2, code := prog_23_method_2_code, exceptionTable := #[], attributes := #[] }
def k18m1 : Method := { name := "over", desc := "(Ljava/util/List;)Lcom/example/cuttlefish/cuttlefish/store/RecordCursor;", sig := { parameters := [(.object "java/util/List")], returnType := some (.object "com/example/cuttlefish/cuttlefish/store/RecordCursor") }, accessFlags := 9, code := some k18c1 }
def k18c2 : Code := { maxStack := 1, maxLocals := 1, code := prog_23_method_3_code, exceptionTable := #[], attributes := #[] }
def k18m2 : Method := { name := "lambda$over$0", desc := "(Ljava/util/Iterator;)Ljava/lang/Object;", sig := { parameters := [(.object "java/util/Iterator")], returnType := some (.object "java/lang/Object") }, accessFlags := 4106, code := some k18c2 }
/-- com/example/cuttlefish/cuttlefish/store/RecordCursor -/
def k18 : Class := { plain "com/example/cuttlefish/cuttlefish/store/RecordCursor" (some 0) with
  accessFlags := 1537
  interfaces := #[]
  cf := some (fileOf pool18 20 #[.bootstrapMethods #[⟨42, #[38, 39, 38]⟩]] #[{ accessFlags := 1025, nameIndex := 9, descriptorIndex := 19, attributes := #[] }, { accessFlags := 9, nameIndex := 26, descriptorIndex := 27, attributes := #[] }, { accessFlags := 4106, nameIndex := 31, descriptorIndex := 32, attributes := #[] }] 1537 22 #[] #[])
  fields := #[]
  methods := #[k18m0, k18m1, k18m2]
  instanceTypes := #[]
  staticTypes := #[]
  resolved := Array.replicate 55 none
  callSites := [(1, 8, .makes 28)]
  statics := none }

def pool19 : Array CpInfo := pool [(16, .class_ 18), (1, u "java/util/Iterator"), (0, u "hasNext"), (0, u "()Z"), (2, u "next"), (0, u "()Ljava/lang/Object;"), (6, .class_ 32), (0, u "java/lang/Object")] 20

def k19m0 : Method := { name := "hasNext", desc := "()Z", sig := { parameters := [], returnType := some .boolean }, accessFlags := 1025, code := none }
def k19m1 : Method := { name := "next", desc := "()Ljava/lang/Object;", sig := { parameters := [], returnType := some (.object "java/lang/Object") }, accessFlags := 1025, code := none }
/-- java/util/Iterator -/
def k19 : Class := { plain "java/util/Iterator" (some 0) with
  accessFlags := 1537
  interfaces := #[]
  cf := some (fileOf pool19 16 #[] #[{ accessFlags := 1025, nameIndex := 19, descriptorIndex := 20, attributes := #[] }, { accessFlags := 1025, nameIndex := 23, descriptorIndex := 24, attributes := #[] }] 1537 31 #[] #[])
  fields := #[]
  methods := #[k19m0, k19m1]
  instanceTypes := #[]
  staticTypes := #[]
  resolved := Array.replicate 53 none
  statics := none }

def pool20 : Array CpInfo := pool [(1, .fieldref 2 3), (0, .class_ 4), (0, .nameAndType 5 6), (0, u "java/util/ArrayList$Itr"), (0, u "this$0"), (0, u "Ljava/util/ArrayList;"), (0, .methodref 8 9), (0, .class_ 10), (0, .nameAndType 11 12), (0, u "java/lang/Object"), (0, u "<init>"), (0, u "()V"), (0, .fieldref 2 14), (0, .nameAndType 15 16), (0, u "lastRet"), (0, u "I"), (0, .fieldref 18 19), (0, .class_ 20), (0, .nameAndType 21 16), (0, u "java/util/ArrayList"), (0, u "modCount"), (0, .fieldref 2 23), (0, .nameAndType 24 16), (0, u "expectedModCount"), (0, .fieldref 2 26), (0, .nameAndType 27 16), (0, u "cursor"), (0, .fieldref 18 29), (0, .nameAndType 30 16), (0, u "size"), (0, .methodref 2 32), (0, .nameAndType 33 12), (0, u "checkForComodification"), (3, .fieldref 18 38), (0, .nameAndType 39 40), (0, u "elementData"), (0, u "[Ljava/lang/Object;"), (28, .class_ 70), (0, u "java/util/Iterator"), (0, u "(Ljava/util/ArrayList;)V"), (8, u "hasNext"), (0, u "()Z"), (1, u "next"), (0, u "()Ljava/lang/Object;")] 19

def k20c0 : Code := { maxStack := 2, maxLocals := 2, code := jdk_49_method_1_code, exceptionTable := #[], attributes := #[] }
def k20m0 : Method := { name := "<init>", desc := "(Ljava/util/ArrayList;)V", sig := { parameters := [(.object "java/util/ArrayList")], returnType := none }, accessFlags := 0, code := some k20c0 }
def k20c1 : Code := { maxStack := 2, maxLocals := 1, code := jdk_49_method_2_code, exceptionTable := #[], attributes := #[] }
def k20m1 : Method := { name := "hasNext", desc := "()Z", sig := { parameters := [], returnType := some .boolean }, accessFlags := 1, code := some k20c1 }
def k20c2 : Code := { maxStack := 4, maxLocals := 3, code := jdk_49_method_3_code, exceptionTable := #[], attributes := #[] }
def k20m2 : Method := { name := "next", desc := "()Ljava/lang/Object;", sig := { parameters := [], returnType := some (.object "java/lang/Object") }, accessFlags := 1, code := some k20c2 }
def k20c3 : Code := { maxStack := 2, maxLocals := 1, code := jdk_49_method_6_code, exceptionTable := #[], attributes := #[] }
def k20m3 : Method := { name := "checkForComodification", desc := "()V", sig := { parameters := [], returnType := none }, accessFlags := 16, code := some k20c3 }
/-- java/util/ArrayList$Itr -/
def k20 : Class := { plain "java/util/ArrayList$Itr" (some 0) with
  accessFlags := 32
  interfaces := #[19]
  cf := some (fileOf pool20 2 #[.nestHost 18] #[{ accessFlags := 0, nameIndex := 11, descriptorIndex := 71, attributes := #[] }, { accessFlags := 1, nameIndex := 80, descriptorIndex := 81, attributes := #[] }, { accessFlags := 1, nameIndex := 83, descriptorIndex := 84, attributes := #[] }, { accessFlags := 16, nameIndex := 33, descriptorIndex := 12, attributes := #[] }] 32 8 #[69] #[{ accessFlags := 0, nameIndex := 27, descriptorIndex := 16, attributes := #[] }, { accessFlags := 0, nameIndex := 15, descriptorIndex := 16, attributes := #[] }, { accessFlags := 0, nameIndex := 24, descriptorIndex := 16, attributes := #[] }, { accessFlags := 4112, nameIndex := 5, descriptorIndex := 6, attributes := #[] }])
  fields := #[{ name := "cursor", type := .int, accessFlags := 0, slot := 0, constantValue := 0 }, { name := "lastRet", type := .int, accessFlags := 0, slot := 1, constantValue := 0 }, { name := "expectedModCount", type := .int, accessFlags := 0, slot := 2, constantValue := 0 }, { name := "this$0", type := (.object "java/util/ArrayList"), accessFlags := 4112, slot := 3, constantValue := 0 }]
  methods := #[k20m0, k20m1, k20m2, k20m3]
  instanceTypes := #[.int, .int, .int, (.object "java/util/ArrayList")]
  staticTypes := #[]
  resolved := Array.replicate 104 none
  statics := none }

def pool21 : Array CpInfo := pool [(1, .class_ 2), (0, u "java/lang/Math"), (1, .class_ 6), (1, u "java/lang/Object"), (0, u "<init>"), (0, u "()V"), (89, .class_ 100), (1, u "java/lang/Math$RandomNumberGeneratorHolder"), (71, u "negativeZeroFloatBits"), (0, u "J"), (2, u "negativeZeroDoubleBits"), (21, u "max"), (46, u "$assertionsDisabled"), (0, u "Z"), (88, u "(II)I"), (2, u "twoToTheDoubleScaleDown"), (0, u "D"), (4, u "twoToTheDoubleScaleUp"), (9, u "E"), (3, u "PI"), (2, u "TAU"), (2, u "DEGREES_TO_RADIANS"), (0, u "RADIANS_TO_DEGREES")] 94

def k21m0 : Method := { name := "<init>", desc := "()V", sig := { parameters := [], returnType := none }, accessFlags := 2, code := none }
def k21c1 : Code := { maxStack := 2, maxLocals := 2, code := jdk_29_method_65_code, exceptionTable := #[], attributes := #[] }
def k21m1 : Method := { name := "max", desc := "(II)I", sig := { parameters := [.int, .int], returnType := some .int }, accessFlags := 9, code := some k21c1 }
/-- java/lang/Math -/
def k21 : Class := { plain "java/lang/Math" (some 0) with
  accessFlags := 49
  interfaces := #[]
  cf := some (fileOf pool21 1 #[.nestMembers #[98]] #[{ accessFlags := 2, nameIndex := 7, descriptorIndex := 8, attributes := #[] }, { accessFlags := 9, nameIndex := 198, descriptorIndex := 335, attributes := #[] }] 49 4 #[] #[{ accessFlags := 25, nameIndex := 354, descriptorIndex := 339, attributes := #[] }, { accessFlags := 25, nameIndex := 358, descriptorIndex := 339, attributes := #[] }, { accessFlags := 25, nameIndex := 361, descriptorIndex := 339, attributes := #[] }, { accessFlags := 26, nameIndex := 364, descriptorIndex := 339, attributes := #[] }, { accessFlags := 26, nameIndex := 365, descriptorIndex := 339, attributes := #[] }, { accessFlags := 26, nameIndex := 172, descriptorIndex := 173, attributes := #[] }, { accessFlags := 26, nameIndex := 176, descriptorIndex := 173, attributes := #[] }, { accessFlags := 8, nameIndex := 344, descriptorIndex := 339, attributes := #[] }, { accessFlags := 8, nameIndex := 338, descriptorIndex := 339, attributes := #[] }, { accessFlags := 4120, nameIndex := 245, descriptorIndex := 246, attributes := #[] }])
  fields := #[{ name := "E", type := .double, accessFlags := 25, slot := 0, constantValue := 0 }, { name := "PI", type := .double, accessFlags := 25, slot := 1, constantValue := 0 }, { name := "TAU", type := .double, accessFlags := 25, slot := 2, constantValue := 0 }, { name := "DEGREES_TO_RADIANS", type := .double, accessFlags := 26, slot := 3, constantValue := 0 }, { name := "RADIANS_TO_DEGREES", type := .double, accessFlags := 26, slot := 4, constantValue := 0 }, { name := "negativeZeroFloatBits", type := .long, accessFlags := 26, slot := 5, constantValue := 0 }, { name := "negativeZeroDoubleBits", type := .long, accessFlags := 26, slot := 6, constantValue := 0 }, { name := "twoToTheDoubleScaleUp", type := .double, accessFlags := 8, slot := 7, constantValue := 0 }, { name := "twoToTheDoubleScaleDown", type := .double, accessFlags := 8, slot := 8, constantValue := 0 }, { name := "$assertionsDisabled", type := .boolean, accessFlags := 4120, slot := 9, constantValue := 0 }]
  methods := #[k21m0, k21m1]
  instanceTypes := #[]
  staticTypes := #[.double, .double, .double, .double, .double, .long, .long, .double, .double, .boolean]
  resolved := Array.replicate 460 none
  statics := none }

/-- the primitive byte -/
def k22 : Class := { plain "byte" none with kind := .primitive 'B', accessFlags := 0x411 }
/-- [B -/
def k23 : Class := { plain "[B" (some 0) with kind := .array 22 .byte, interfaces := #[16, 2], accessFlags := 1041 }

/-- the primitive int -/
def k24 : Class := { plain "int" none with kind := .primitive 'I', accessFlags := 0x411 }
/-- [I -/
def k25 : Class := { plain "[I" (some 0) with kind := .array 24 .int, interfaces := #[16, 2], accessFlags := 1041 }

/-- [Ljava/lang/Integer; -/
def k26 : Class := { plain "[Ljava/lang/Integer;" (some 0) with kind := .array 7 (.object "java/lang/Integer"), interfaces := #[16, 2], accessFlags := 1041 }

/-- [Ljava/lang/Object; -/
def k27 : Class := { plain "[Ljava/lang/Object;" (some 0) with kind := .array 0 (.object "java/lang/Object"), interfaces := #[16, 2], accessFlags := 1041 }

def classes0 : Array Class := #[k0, k1, k2, k3, k4, k5, k6, k7, k8, k9, k10, k11, k12, k13, k14, k15, k16, k17, k18, k19, k20, k21, k22, k23, k24, k25, k26, k27]
/-- the class that the rule has made for the site at 8 of com/example/cuttlefish/cuttlefish/store/RecordCursor.over -/
def k28 : Class := Jvm.LamKit.madeRec { classes := classes0 } "com/example/cuttlefish/cuttlefish/store/RecordCursor" (Jvm.Lambda.Shape.mk "com/example/cuttlefish/cuttlefish/store/RecordCursor" "next" (Jvm.ClassFile.MethodDescriptor.mk ([] : List Jvm.ClassFile.FieldType) (Option.some (Jvm.ClassFile.FieldType.object "java/lang/Object"))) ([(Jvm.ClassFile.FieldType.object "java/util/Iterator")] : List Jvm.ClassFile.FieldType) (6 : Nat) "com/example/cuttlefish/cuttlefish/store/RecordCursor" "lambda$over$0" (Jvm.ClassFile.MethodDescriptor.mk ([(Jvm.ClassFile.FieldType.object "java/util/Iterator")] : List Jvm.ClassFile.FieldType) (Option.some (Jvm.ClassFile.FieldType.object "java/lang/Object"))) true (Jvm.ClassFile.MethodDescriptor.mk ([] : List Jvm.ClassFile.FieldType) (Option.some (Jvm.ClassFile.FieldType.object "java/lang/Object")))) 28

def heap : Heap := #[{ cls := 8, slots := #[.int 0, .int 127, .ref 2, .null, .int 0], vm := .statics 8 },
  { cls := 17, slots := #[.long 0, .int 0, .ref 259, .ref 260], vm := .statics 17 },
  { cls := 26, slots := #[.ref 3, .ref 4, .ref 5, .ref 6, .ref 7, .ref 8, .ref 9, .ref 10, .ref 11, .ref 12, .ref 13, .ref 14, .ref 15, .ref 16, .ref 17, .ref 18, .ref 19, .ref 20, .ref 21, .ref 22, .ref 23, .ref 24, .ref 25, .ref 26, .ref 27, .ref 28, .ref 29, .ref 30, .ref 31, .ref 32, .ref 33, .ref 34, .ref 35, .ref 36, .ref 37, .ref 38, .ref 39, .ref 40, .ref 41, .ref 42, .ref 43, .ref 44, .ref 45, .ref 46, .ref 47, .ref 48, .ref 49, .ref 50, .ref 51, .ref 52, .ref 53, .ref 54, .ref 55, .ref 56, .ref 57, .ref 58, .ref 59, .ref 60, .ref 61, .ref 62, .ref 63, .ref 64, .ref 65, .ref 66, .ref 67, .ref 68, .ref 69, .ref 70, .ref 71, .ref 72, .ref 73, .ref 74, .ref 75, .ref 76, .ref 77, .ref 78, .ref 79, .ref 80, .ref 81, .ref 82, .ref 83, .ref 84, .ref 85, .ref 86, .ref 87, .ref 88, .ref 89, .ref 90, .ref 91, .ref 92, .ref 93, .ref 94, .ref 95, .ref 96, .ref 97, .ref 98, .ref 99, .ref 100, .ref 101, .ref 102, .ref 103, .ref 104, .ref 105, .ref 106, .ref 107, .ref 108, .ref 109, .ref 110, .ref 111, .ref 112, .ref 113, .ref 114, .ref 115, .ref 116, .ref 117, .ref 118, .ref 119, .ref 120, .ref 121, .ref 122, .ref 123, .ref 124, .ref 125, .ref 126, .ref 127, .ref 128, .ref 129, .ref 130, .ref 131, .ref 132, .ref 133, .ref 134, .ref 135, .ref 136, .ref 137, .ref 138, .ref 139, .ref 140, .ref 141, .ref 142, .ref 143, .ref 144, .ref 145, .ref 146, .ref 147, .ref 148, .ref 149, .ref 150, .ref 151, .ref 152, .ref 153, .ref 154, .ref 155, .ref 156, .ref 157, .ref 158, .ref 159, .ref 160, .ref 161, .ref 162, .ref 163, .ref 164, .ref 165, .ref 166, .ref 167, .ref 168, .ref 169, .ref 170, .ref 171, .ref 172, .ref 173, .ref 174, .ref 175, .ref 176, .ref 177, .ref 178, .ref 179, .ref 180, .ref 181, .ref 182, .ref 183, .ref 184, .ref 185, .ref 186, .ref 187, .ref 188, .ref 189, .ref 190, .ref 191, .ref 192, .ref 193, .ref 194, .ref 195, .ref 196, .ref 197, .ref 198, .ref 199, .ref 200, .ref 201, .ref 202, .ref 203, .ref 204, .ref 205, .ref 206, .ref 207, .ref 208, .ref 209, .ref 210, .ref 211, .ref 212, .ref 213, .ref 214, .ref 215, .ref 216, .ref 217, .ref 218, .ref 219, .ref 220, .ref 221, .ref 222, .ref 223, .ref 224, .ref 225, .ref 226, .ref 227, .ref 228, .ref 229, .ref 230, .ref 231, .ref 232, .ref 233, .ref 234, .ref 235, .ref 236, .ref 237, .ref 238, .ref 239, .ref 240, .ref 241, .ref 242, .ref 243, .ref 244, .ref 245, .ref 246, .ref 247, .ref 248, .ref 249, .ref 250, .ref 251, .ref 252, .ref 253, .ref 254, .ref 255, .ref 256, .ref 257, .ref 258], vm := .none },
  { cls := 7, slots := #[.int (-128)], vm := .none },
  { cls := 7, slots := #[.int (-127)], vm := .none },
  { cls := 7, slots := #[.int (-126)], vm := .none },
  { cls := 7, slots := #[.int (-125)], vm := .none },
  { cls := 7, slots := #[.int (-124)], vm := .none },
  { cls := 7, slots := #[.int (-123)], vm := .none },
  { cls := 7, slots := #[.int (-122)], vm := .none },
  { cls := 7, slots := #[.int (-121)], vm := .none },
  { cls := 7, slots := #[.int (-120)], vm := .none },
  { cls := 7, slots := #[.int (-119)], vm := .none },
  { cls := 7, slots := #[.int (-118)], vm := .none },
  { cls := 7, slots := #[.int (-117)], vm := .none },
  { cls := 7, slots := #[.int (-116)], vm := .none },
  { cls := 7, slots := #[.int (-115)], vm := .none },
  { cls := 7, slots := #[.int (-114)], vm := .none },
  { cls := 7, slots := #[.int (-113)], vm := .none },
  { cls := 7, slots := #[.int (-112)], vm := .none },
  { cls := 7, slots := #[.int (-111)], vm := .none },
  { cls := 7, slots := #[.int (-110)], vm := .none },
  { cls := 7, slots := #[.int (-109)], vm := .none },
  { cls := 7, slots := #[.int (-108)], vm := .none },
  { cls := 7, slots := #[.int (-107)], vm := .none },
  { cls := 7, slots := #[.int (-106)], vm := .none },
  { cls := 7, slots := #[.int (-105)], vm := .none },
  { cls := 7, slots := #[.int (-104)], vm := .none },
  { cls := 7, slots := #[.int (-103)], vm := .none },
  { cls := 7, slots := #[.int (-102)], vm := .none },
  { cls := 7, slots := #[.int (-101)], vm := .none },
  { cls := 7, slots := #[.int (-100)], vm := .none },
  { cls := 7, slots := #[.int (-99)], vm := .none },
  { cls := 7, slots := #[.int (-98)], vm := .none },
  { cls := 7, slots := #[.int (-97)], vm := .none },
  { cls := 7, slots := #[.int (-96)], vm := .none },
  { cls := 7, slots := #[.int (-95)], vm := .none },
  { cls := 7, slots := #[.int (-94)], vm := .none },
  { cls := 7, slots := #[.int (-93)], vm := .none },
  { cls := 7, slots := #[.int (-92)], vm := .none },
  { cls := 7, slots := #[.int (-91)], vm := .none },
  { cls := 7, slots := #[.int (-90)], vm := .none },
  { cls := 7, slots := #[.int (-89)], vm := .none },
  { cls := 7, slots := #[.int (-88)], vm := .none },
  { cls := 7, slots := #[.int (-87)], vm := .none },
  { cls := 7, slots := #[.int (-86)], vm := .none },
  { cls := 7, slots := #[.int (-85)], vm := .none },
  { cls := 7, slots := #[.int (-84)], vm := .none },
  { cls := 7, slots := #[.int (-83)], vm := .none },
  { cls := 7, slots := #[.int (-82)], vm := .none },
  { cls := 7, slots := #[.int (-81)], vm := .none },
  { cls := 7, slots := #[.int (-80)], vm := .none },
  { cls := 7, slots := #[.int (-79)], vm := .none },
  { cls := 7, slots := #[.int (-78)], vm := .none },
  { cls := 7, slots := #[.int (-77)], vm := .none },
  { cls := 7, slots := #[.int (-76)], vm := .none },
  { cls := 7, slots := #[.int (-75)], vm := .none },
  { cls := 7, slots := #[.int (-74)], vm := .none },
  { cls := 7, slots := #[.int (-73)], vm := .none },
  { cls := 7, slots := #[.int (-72)], vm := .none },
  { cls := 7, slots := #[.int (-71)], vm := .none },
  { cls := 7, slots := #[.int (-70)], vm := .none },
  { cls := 7, slots := #[.int (-69)], vm := .none },
  { cls := 7, slots := #[.int (-68)], vm := .none },
  { cls := 7, slots := #[.int (-67)], vm := .none },
  { cls := 7, slots := #[.int (-66)], vm := .none },
  { cls := 7, slots := #[.int (-65)], vm := .none },
  { cls := 7, slots := #[.int (-64)], vm := .none },
  { cls := 7, slots := #[.int (-63)], vm := .none },
  { cls := 7, slots := #[.int (-62)], vm := .none },
  { cls := 7, slots := #[.int (-61)], vm := .none },
  { cls := 7, slots := #[.int (-60)], vm := .none },
  { cls := 7, slots := #[.int (-59)], vm := .none },
  { cls := 7, slots := #[.int (-58)], vm := .none },
  { cls := 7, slots := #[.int (-57)], vm := .none },
  { cls := 7, slots := #[.int (-56)], vm := .none },
  { cls := 7, slots := #[.int (-55)], vm := .none },
  { cls := 7, slots := #[.int (-54)], vm := .none },
  { cls := 7, slots := #[.int (-53)], vm := .none },
  { cls := 7, slots := #[.int (-52)], vm := .none },
  { cls := 7, slots := #[.int (-51)], vm := .none },
  { cls := 7, slots := #[.int (-50)], vm := .none },
  { cls := 7, slots := #[.int (-49)], vm := .none },
  { cls := 7, slots := #[.int (-48)], vm := .none },
  { cls := 7, slots := #[.int (-47)], vm := .none },
  { cls := 7, slots := #[.int (-46)], vm := .none },
  { cls := 7, slots := #[.int (-45)], vm := .none },
  { cls := 7, slots := #[.int (-44)], vm := .none },
  { cls := 7, slots := #[.int (-43)], vm := .none },
  { cls := 7, slots := #[.int (-42)], vm := .none },
  { cls := 7, slots := #[.int (-41)], vm := .none },
  { cls := 7, slots := #[.int (-40)], vm := .none },
  { cls := 7, slots := #[.int (-39)], vm := .none },
  { cls := 7, slots := #[.int (-38)], vm := .none },
  { cls := 7, slots := #[.int (-37)], vm := .none },
  { cls := 7, slots := #[.int (-36)], vm := .none },
  { cls := 7, slots := #[.int (-35)], vm := .none },
  { cls := 7, slots := #[.int (-34)], vm := .none },
  { cls := 7, slots := #[.int (-33)], vm := .none },
  { cls := 7, slots := #[.int (-32)], vm := .none },
  { cls := 7, slots := #[.int (-31)], vm := .none },
  { cls := 7, slots := #[.int (-30)], vm := .none },
  { cls := 7, slots := #[.int (-29)], vm := .none },
  { cls := 7, slots := #[.int (-28)], vm := .none },
  { cls := 7, slots := #[.int (-27)], vm := .none },
  { cls := 7, slots := #[.int (-26)], vm := .none },
  { cls := 7, slots := #[.int (-25)], vm := .none },
  { cls := 7, slots := #[.int (-24)], vm := .none },
  { cls := 7, slots := #[.int (-23)], vm := .none },
  { cls := 7, slots := #[.int (-22)], vm := .none },
  { cls := 7, slots := #[.int (-21)], vm := .none },
  { cls := 7, slots := #[.int (-20)], vm := .none },
  { cls := 7, slots := #[.int (-19)], vm := .none },
  { cls := 7, slots := #[.int (-18)], vm := .none },
  { cls := 7, slots := #[.int (-17)], vm := .none },
  { cls := 7, slots := #[.int (-16)], vm := .none },
  { cls := 7, slots := #[.int (-15)], vm := .none },
  { cls := 7, slots := #[.int (-14)], vm := .none },
  { cls := 7, slots := #[.int (-13)], vm := .none },
  { cls := 7, slots := #[.int (-12)], vm := .none },
  { cls := 7, slots := #[.int (-11)], vm := .none },
  { cls := 7, slots := #[.int (-10)], vm := .none },
  { cls := 7, slots := #[.int (-9)], vm := .none },
  { cls := 7, slots := #[.int (-8)], vm := .none },
  { cls := 7, slots := #[.int (-7)], vm := .none },
  { cls := 7, slots := #[.int (-6)], vm := .none },
  { cls := 7, slots := #[.int (-5)], vm := .none },
  { cls := 7, slots := #[.int (-4)], vm := .none },
  { cls := 7, slots := #[.int (-3)], vm := .none },
  { cls := 7, slots := #[.int (-2)], vm := .none },
  { cls := 7, slots := #[.int (-1)], vm := .none },
  { cls := 7, slots := #[.int 0], vm := .none },
  { cls := 7, slots := #[.int 1], vm := .none },
  { cls := 7, slots := #[.int 2], vm := .none },
  { cls := 7, slots := #[.int 3], vm := .none },
  { cls := 7, slots := #[.int 4], vm := .none },
  { cls := 7, slots := #[.int 5], vm := .none },
  { cls := 7, slots := #[.int 6], vm := .none },
  { cls := 7, slots := #[.int 7], vm := .none },
  { cls := 7, slots := #[.int 8], vm := .none },
  { cls := 7, slots := #[.int 9], vm := .none },
  { cls := 7, slots := #[.int 10], vm := .none },
  { cls := 7, slots := #[.int 11], vm := .none },
  { cls := 7, slots := #[.int 12], vm := .none },
  { cls := 7, slots := #[.int 13], vm := .none },
  { cls := 7, slots := #[.int 14], vm := .none },
  { cls := 7, slots := #[.int 15], vm := .none },
  { cls := 7, slots := #[.int 16], vm := .none },
  { cls := 7, slots := #[.int 17], vm := .none },
  { cls := 7, slots := #[.int 18], vm := .none },
  { cls := 7, slots := #[.int 19], vm := .none },
  { cls := 7, slots := #[.int 20], vm := .none },
  { cls := 7, slots := #[.int 21], vm := .none },
  { cls := 7, slots := #[.int 22], vm := .none },
  { cls := 7, slots := #[.int 23], vm := .none },
  { cls := 7, slots := #[.int 24], vm := .none },
  { cls := 7, slots := #[.int 25], vm := .none },
  { cls := 7, slots := #[.int 26], vm := .none },
  { cls := 7, slots := #[.int 27], vm := .none },
  { cls := 7, slots := #[.int 28], vm := .none },
  { cls := 7, slots := #[.int 29], vm := .none },
  { cls := 7, slots := #[.int 30], vm := .none },
  { cls := 7, slots := #[.int 31], vm := .none },
  { cls := 7, slots := #[.int 32], vm := .none },
  { cls := 7, slots := #[.int 33], vm := .none },
  { cls := 7, slots := #[.int 34], vm := .none },
  { cls := 7, slots := #[.int 35], vm := .none },
  { cls := 7, slots := #[.int 36], vm := .none },
  { cls := 7, slots := #[.int 37], vm := .none },
  { cls := 7, slots := #[.int 38], vm := .none },
  { cls := 7, slots := #[.int 39], vm := .none },
  { cls := 7, slots := #[.int 40], vm := .none },
  { cls := 7, slots := #[.int 41], vm := .none },
  { cls := 7, slots := #[.int 42], vm := .none },
  { cls := 7, slots := #[.int 43], vm := .none },
  { cls := 7, slots := #[.int 44], vm := .none },
  { cls := 7, slots := #[.int 45], vm := .none },
  { cls := 7, slots := #[.int 46], vm := .none },
  { cls := 7, slots := #[.int 47], vm := .none },
  { cls := 7, slots := #[.int 48], vm := .none },
  { cls := 7, slots := #[.int 49], vm := .none },
  { cls := 7, slots := #[.int 50], vm := .none },
  { cls := 7, slots := #[.int 51], vm := .none },
  { cls := 7, slots := #[.int 52], vm := .none },
  { cls := 7, slots := #[.int 53], vm := .none },
  { cls := 7, slots := #[.int 54], vm := .none },
  { cls := 7, slots := #[.int 55], vm := .none },
  { cls := 7, slots := #[.int 56], vm := .none },
  { cls := 7, slots := #[.int 57], vm := .none },
  { cls := 7, slots := #[.int 58], vm := .none },
  { cls := 7, slots := #[.int 59], vm := .none },
  { cls := 7, slots := #[.int 60], vm := .none },
  { cls := 7, slots := #[.int 61], vm := .none },
  { cls := 7, slots := #[.int 62], vm := .none },
  { cls := 7, slots := #[.int 63], vm := .none },
  { cls := 7, slots := #[.int 64], vm := .none },
  { cls := 7, slots := #[.int 65], vm := .none },
  { cls := 7, slots := #[.int 66], vm := .none },
  { cls := 7, slots := #[.int 67], vm := .none },
  { cls := 7, slots := #[.int 68], vm := .none },
  { cls := 7, slots := #[.int 69], vm := .none },
  { cls := 7, slots := #[.int 70], vm := .none },
  { cls := 7, slots := #[.int 71], vm := .none },
  { cls := 7, slots := #[.int 72], vm := .none },
  { cls := 7, slots := #[.int 73], vm := .none },
  { cls := 7, slots := #[.int 74], vm := .none },
  { cls := 7, slots := #[.int 75], vm := .none },
  { cls := 7, slots := #[.int 76], vm := .none },
  { cls := 7, slots := #[.int 77], vm := .none },
  { cls := 7, slots := #[.int 78], vm := .none },
  { cls := 7, slots := #[.int 79], vm := .none },
  { cls := 7, slots := #[.int 80], vm := .none },
  { cls := 7, slots := #[.int 81], vm := .none },
  { cls := 7, slots := #[.int 82], vm := .none },
  { cls := 7, slots := #[.int 83], vm := .none },
  { cls := 7, slots := #[.int 84], vm := .none },
  { cls := 7, slots := #[.int 85], vm := .none },
  { cls := 7, slots := #[.int 86], vm := .none },
  { cls := 7, slots := #[.int 87], vm := .none },
  { cls := 7, slots := #[.int 88], vm := .none },
  { cls := 7, slots := #[.int 89], vm := .none },
  { cls := 7, slots := #[.int 90], vm := .none },
  { cls := 7, slots := #[.int 91], vm := .none },
  { cls := 7, slots := #[.int 92], vm := .none },
  { cls := 7, slots := #[.int 93], vm := .none },
  { cls := 7, slots := #[.int 94], vm := .none },
  { cls := 7, slots := #[.int 95], vm := .none },
  { cls := 7, slots := #[.int 96], vm := .none },
  { cls := 7, slots := #[.int 97], vm := .none },
  { cls := 7, slots := #[.int 98], vm := .none },
  { cls := 7, slots := #[.int 99], vm := .none },
  { cls := 7, slots := #[.int 100], vm := .none },
  { cls := 7, slots := #[.int 101], vm := .none },
  { cls := 7, slots := #[.int 102], vm := .none },
  { cls := 7, slots := #[.int 103], vm := .none },
  { cls := 7, slots := #[.int 104], vm := .none },
  { cls := 7, slots := #[.int 105], vm := .none },
  { cls := 7, slots := #[.int 106], vm := .none },
  { cls := 7, slots := #[.int 107], vm := .none },
  { cls := 7, slots := #[.int 108], vm := .none },
  { cls := 7, slots := #[.int 109], vm := .none },
  { cls := 7, slots := #[.int 110], vm := .none },
  { cls := 7, slots := #[.int 111], vm := .none },
  { cls := 7, slots := #[.int 112], vm := .none },
  { cls := 7, slots := #[.int 113], vm := .none },
  { cls := 7, slots := #[.int 114], vm := .none },
  { cls := 7, slots := #[.int 115], vm := .none },
  { cls := 7, slots := #[.int 116], vm := .none },
  { cls := 7, slots := #[.int 117], vm := .none },
  { cls := 7, slots := #[.int 118], vm := .none },
  { cls := 7, slots := #[.int 119], vm := .none },
  { cls := 7, slots := #[.int 120], vm := .none },
  { cls := 7, slots := #[.int 121], vm := .none },
  { cls := 7, slots := #[.int 122], vm := .none },
  { cls := 7, slots := #[.int 123], vm := .none },
  { cls := 7, slots := #[.int 124], vm := .none },
  { cls := 7, slots := #[.int 125], vm := .none },
  { cls := 7, slots := #[.int 126], vm := .none },
  { cls := 7, slots := #[.int 127], vm := .none },
  { cls := 27, slots := #[], vm := .none },
  { cls := 27, slots := #[], vm := .none }]
def classes : Array Class := #[k0, k1, k2, k3, k4, k5, k6, k7, k8, k9, k10, k11, k12, k13, k14, k15, k16, k17, k18, k19, k20, k21, k22, k23, k24, k25, k26, k27, k28]
def interned : List (Array UInt16 × Addr) := []
def slotsUsed : Nat := 521
def theMethod : MethodId := ⟨1, 2⟩
def args0 : Array Value := #[.int 5, .int 5, .int 5, .int 5]
def aboutOver (below : List Frame) : State where
  vm := { classes := classes, interned := interned.toArray }
  heap := heap
  slotsUsed := slotsUsed
  threads := #[{ frames := .invoking theMethod args0 :: below }]
def below0 : List Frame := [.native { method := ⟨0, 0⟩, args := #[] }]
def about1 : State := aboutOver below0
def p0 : Program := .bare "" "" ""
def e0 : Env := launch0.env 0 0 0
theorem w_frames : about1.frames = Frame.invoking theMethod args0 :: below0 := rfl
set_option maxRecDepth 65536 in
theorem w_args : argsFit about1.vm theMethod args0 = true := by decide +kernel
set_option maxRecDepth 65536 in
theorem w_heap : heapFits about1 = true := by decide +kernel
set_option maxRecDepth 65536 in
theorem w_runnable : about1.curStatus? = some .runnable := by decide +kernel
set_option maxRecDepth 65536 in
theorem w_alone : about1.alone = true := by decide +kernel
set_option maxRecDepth 65536 in
theorem w_named : about1.methodNamed? x = some theMethod := by decide +kernel
set_option maxRecDepth 65536 in
theorem w_hears : about1.hears theMethod below0 = true := by decide +kernel
set_option maxRecDepth 65536 in
theorem w_ripe : about1.ripe theMethod args0 below0 = true := by decide +kernel
theorem w_running : about1.status = .running := rfl
set_option maxRecDepth 65536 in
theorem w_room : about1.hasRoom e0.platform room_1 = true :=
  launch0.hasRoom_least _ room_1 (by decide +kernel) (by decide +kernel) (by decide +kernel) (by decide +kernel) (by decide +kernel) (by decide +kernel)
theorem allAtoms_all (ts : List Jvm.Cond) (a : Array Jvm.Value) (st : Jvm.State) : (allAtoms ts).before a st = ts.all (fun c => c.before a st) := by
  induction ts with
  | nil => rfl
  | cons c t ih =>
    show (Jvm.Cond.and c (allAtoms t)).before a st = _
    rw [Jvm.Cond.before_and, ih, List.all_cons]
def words1 : List Jvm.Cond := Jvm.Cond.code x code maxLocals ret :: tables_1
/-- a 'code' word, met by the world's own term for the bytes: nothing is compared byte by byte -/
theorem code_word {y : MethodName} {bytes : ByteArray} {mx : Nat} {rt : Option FieldType} {a : Array Value} {s : State} {m : MethodId} {meth : Method} {c : Code} (h1 : s.methodNamed? y = some m) (h2 : s.vm.method? m = some meth) (h3 : meth.code = some c) (h4 : c.code = bytes)
    (h5 : (c.maxLocals == mx && c.exceptionTable.isEmpty && decide (c.maxStack ≤ mostOperands) && decide (meth.sig.returnType = rt) && !meth.locks && decide (parseMethodDescriptor y.desc = some meth.sig)) = true) : (Jvm.Cond.code y bytes mx rt).before a s = true := by
  simp only [Bool.and_eq_true, beq_iff_eq, Bool.not_eq_true', decide_eq_true_eq] at h5
  obtain ⟨⟨⟨⟨⟨g1, g2⟩, g3⟩, g4⟩, g5⟩, g6⟩ := h5
  simp [Cond.before, Cond.holds, Cond.value, h1, h2, h3, h4, g1, g2, g3, g4, g5, g6]
def isCode : Jvm.Cond → Bool
  | .code _ _ _ _ => true
  | _ => false
theorem all_split {L : List Jvm.Cond} {P : Jvm.Cond → Bool} (h1 : L.all (fun c => isCode c || P c) = true) (h2 : ∀ c ∈ L.filter isCode, P c = true) : L.all P = true := by
  refine List.all_eq_true.mpr fun c hc => ?_
  have h := List.all_eq_true.mp h1 c hc
  rcases Bool.eq_false_or_eq_true (isCode c) with hi | hi
  · exact h2 c (List.mem_filter.mpr ⟨hc, hi⟩)
  · simpa [hi] using h
set_option maxRecDepth 65536 in
theorem w_c0 : (Jvm.Cond.code x code maxLocals ret).before args0 about1 = true := code_word (m := ⟨1, 2⟩) (meth := k1m2) (c := k1c2) (by decide +kernel) rfl rfl rfl (by decide +kernel)
set_option maxRecDepth 65536 in
theorem w_c1 : (Jvm.Cond.code ({ cls := "java/lang/Integer", name := "valueOf", desc := "(I)Ljava/lang/Integer;" } : Jvm.MethodName) jdk_33_method_22_code (1 : Nat) (Option.some (Jvm.ClassFile.FieldType.object "java/lang/Integer"))).before args0 about1 = true := code_word (m := ⟨7, 0⟩) (meth := k7m0) (c := k7c0) (by decide +kernel) rfl rfl rfl (by decide +kernel)
set_option maxRecDepth 65536 in
theorem w_c2 : (Jvm.Cond.code ({ cls := "java/util/ArrayList", name := "<init>", desc := "()V" } : Jvm.MethodName) jdk_38_method_2_code (1 : Nat) (Option.none : Option Jvm.ClassFile.FieldType)).before args0 about1 = true := code_word (m := ⟨17, 0⟩) (meth := k17m0) (c := k17c0) (by decide +kernel) rfl rfl rfl (by decide +kernel)
set_option maxRecDepth 65536 in
theorem w_c3 : (Jvm.Cond.code ({ cls := "java/util/AbstractList", name := "<init>", desc := "()V" } : Jvm.MethodName) jdk_39_method_1_code (1 : Nat) (Option.none : Option Jvm.ClassFile.FieldType)).before args0 about1 = true := code_word (m := ⟨14, 0⟩) (meth := k14m0) (c := k14c0) (by decide +kernel) rfl rfl rfl (by decide +kernel)
set_option maxRecDepth 65536 in
theorem w_c4 : (Jvm.Cond.code ({ cls := "java/util/AbstractCollection", name := "<init>", desc := "()V" } : Jvm.MethodName) jdk_22_method_1_code (1 : Nat) (Option.none : Option Jvm.ClassFile.FieldType)).before args0 about1 = true := code_word (m := ⟨11, 0⟩) (meth := k11m0) (c := k11c0) (by decide +kernel) rfl rfl rfl (by decide +kernel)
set_option maxRecDepth 65536 in
theorem w_c5 : (Jvm.Cond.code ({ cls := "java/lang/Object", name := "<init>", desc := "()V" } : Jvm.MethodName) object_method_1_code (1 : Nat) (Option.none : Option Jvm.ClassFile.FieldType)).before args0 about1 = true := code_word (m := ⟨0, 0⟩) (meth := k0m0) (c := k0c0) (by decide +kernel) rfl rfl rfl (by decide +kernel)
set_option maxRecDepth 65536 in
theorem w_c6 : (Jvm.Cond.code ({ cls := "com/example/cuttlefish/cuttlefish/store/RecordCursor", name := "over", desc := "(Ljava/util/List;)Lcom/example/cuttlefish/cuttlefish/store/RecordCursor;" } : Jvm.MethodName) prog_23_method_2_code (2 : Nat) (Option.some (Jvm.ClassFile.FieldType.object "com/example/cuttlefish/cuttlefish/store/RecordCursor"))).before args0 about1 = true := code_word (m := ⟨18, 1⟩) (meth := k18m1) (c := k18c1) (by decide +kernel) rfl rfl rfl (by decide +kernel)
set_option maxRecDepth 65536 in
theorem w_c7 : (Jvm.Cond.code ({ cls := "java/util/ArrayList", name := "iterator", desc := "()Ljava/util/Iterator;" } : Jvm.MethodName) jdk_38_method_55_code (1 : Nat) (Option.some (Jvm.ClassFile.FieldType.object "java/util/Iterator"))).before args0 about1 = true := code_word (m := ⟨17, 6⟩) (meth := k17m6) (c := k17c6) (by decide +kernel) rfl rfl rfl (by decide +kernel)
set_option maxRecDepth 65536 in
theorem w_c8 : (Jvm.Cond.code ({ cls := "java/util/ArrayList$Itr", name := "<init>", desc := "(Ljava/util/ArrayList;)V" } : Jvm.MethodName) jdk_49_method_1_code (2 : Nat) (Option.none : Option Jvm.ClassFile.FieldType)).before args0 about1 = true := code_word (m := ⟨20, 0⟩) (meth := k20m0) (c := k20c0) (by decide +kernel) rfl rfl rfl (by decide +kernel)
set_option maxRecDepth 65536 in
theorem w_c9 : (Jvm.Cond.code ({ cls := "com/example/cuttlefish/cuttlefish/store/RecordCursor", name := "lambda$over$0", desc := "(Ljava/util/Iterator;)Ljava/lang/Object;" } : Jvm.MethodName) prog_23_method_3_code (1 : Nat) (Option.some (Jvm.ClassFile.FieldType.object "java/lang/Object"))).before args0 about1 = true := code_word (m := ⟨18, 2⟩) (meth := k18m2) (c := k18c2) (by decide +kernel) rfl rfl rfl (by decide +kernel)
set_option maxRecDepth 65536 in
theorem w_c10 : (Jvm.Cond.code ({ cls := "java/util/ArrayList$Itr", name := "hasNext", desc := "()Z" } : Jvm.MethodName) jdk_49_method_2_code (1 : Nat) (Option.some Jvm.ClassFile.FieldType.boolean)).before args0 about1 = true := code_word (m := ⟨20, 1⟩) (meth := k20m1) (c := k20c1) (by decide +kernel) rfl rfl rfl (by decide +kernel)
set_option maxRecDepth 65536 in
theorem w_c11 : (Jvm.Cond.code ({ cls := "com/example/cuttlefish/cuttlefish/store/RecordCursorOverPinLaw", name := "slot", desc := "(IILjava/lang/Integer;Ljava/lang/Integer;)Z" } : Jvm.MethodName) method_2_code (4 : Nat) (Option.some Jvm.ClassFile.FieldType.boolean)).before args0 about1 = true := code_word (m := ⟨1, 1⟩) (meth := k1m1) (c := k1c1) (by decide +kernel) rfl rfl rfl (by decide +kernel)
set_option maxRecDepth 65536 in
theorem w_c12 : (Jvm.Cond.code ({ cls := "java/util/ArrayList", name := "size", desc := "()I" } : Jvm.MethodName) jdk_38_method_8_code (1 : Nat) (Option.some Jvm.ClassFile.FieldType.int)).before args0 about1 = true := code_word (m := ⟨17, 3⟩) (meth := k17m3) (c := k17c3) (by decide +kernel) rfl rfl rfl (by decide +kernel)
set_option maxRecDepth 65536 in
theorem w_c13 : (Jvm.Cond.code ({ cls := "java/lang/Integer", name := "<init>", desc := "(I)V" } : Jvm.MethodName) jdk_33_method_23_code (2 : Nat) (Option.none : Option Jvm.ClassFile.FieldType)).before args0 about1 = true := code_word (m := ⟨7, 1⟩) (meth := k7m1) (c := k7c1) (by decide +kernel) rfl rfl rfl (by decide +kernel)
set_option maxRecDepth 65536 in
theorem w_c14 : (Jvm.Cond.code ({ cls := "java/lang/Number", name := "<init>", desc := "()V" } : Jvm.MethodName) jdk_18_method_1_code (1 : Nat) (Option.none : Option Jvm.ClassFile.FieldType)).before args0 about1 = true := code_word (m := ⟨3, 0⟩) (meth := k3m0) (c := k3c0) (by decide +kernel) rfl rfl rfl (by decide +kernel)
set_option maxRecDepth 65536 in
theorem w_c15 : (Jvm.Cond.code ({ cls := "java/util/ArrayList", name := "add", desc := "(Ljava/lang/Object;)Z" } : Jvm.MethodName) jdk_38_method_25_code (2 : Nat) (Option.some Jvm.ClassFile.FieldType.boolean)).before args0 about1 = true := code_word (m := ⟨17, 5⟩) (meth := k17m5) (c := k17c5) (by decide +kernel) rfl rfl rfl (by decide +kernel)
set_option maxRecDepth 65536 in
theorem w_c16 : (Jvm.Cond.code ({ cls := "java/util/ArrayList", name := "add", desc := "(Ljava/lang/Object;[Ljava/lang/Object;I)V" } : Jvm.MethodName) jdk_38_method_24_code (4 : Nat) (Option.none : Option Jvm.ClassFile.FieldType)).before args0 about1 = true := code_word (m := ⟨17, 4⟩) (meth := k17m4) (c := k17c4) (by decide +kernel) rfl rfl rfl (by decide +kernel)
set_option maxRecDepth 65536 in
theorem w_c17 : (Jvm.Cond.code ({ cls := "java/util/ArrayList", name := "grow", desc := "()[Ljava/lang/Object;" } : Jvm.MethodName) jdk_38_method_7_code (1 : Nat) (Option.some (Jvm.ClassFile.FieldType.array (Jvm.ClassFile.FieldType.object "java/lang/Object")))).before args0 about1 = true := code_word (m := ⟨17, 2⟩) (meth := k17m2) (c := k17c2) (by decide +kernel) rfl rfl rfl (by decide +kernel)
set_option maxRecDepth 65536 in
theorem w_c18 : (Jvm.Cond.code ({ cls := "java/util/ArrayList", name := "grow", desc := "(I)[Ljava/lang/Object;" } : Jvm.MethodName) jdk_38_method_6_code (4 : Nat) (Option.some (Jvm.ClassFile.FieldType.array (Jvm.ClassFile.FieldType.object "java/lang/Object")))).before args0 about1 = true := code_word (m := ⟨17, 1⟩) (meth := k17m1) (c := k17c1) (by decide +kernel) rfl rfl rfl (by decide +kernel)
set_option maxRecDepth 65536 in
theorem w_c19 : (Jvm.Cond.code ({ cls := "java/lang/Math", name := "max", desc := "(II)I" } : Jvm.MethodName) jdk_29_method_65_code (2 : Nat) (Option.some Jvm.ClassFile.FieldType.int)).before args0 about1 = true := code_word (m := ⟨21, 1⟩) (meth := k21m1) (c := k21c1) (by decide +kernel) rfl rfl rfl (by decide +kernel)
set_option maxRecDepth 65536 in
theorem w_c20 : (Jvm.Cond.code ({ cls := "java/util/ArrayList$Itr", name := "next", desc := "()Ljava/lang/Object;" } : Jvm.MethodName) jdk_49_method_3_code (3 : Nat) (Option.some (Jvm.ClassFile.FieldType.object "java/lang/Object"))).before args0 about1 = true := code_word (m := ⟨20, 2⟩) (meth := k20m2) (c := k20c2) (by decide +kernel) rfl rfl rfl (by decide +kernel)
set_option maxRecDepth 65536 in
theorem w_c21 : (Jvm.Cond.code ({ cls := "java/util/ArrayList$Itr", name := "checkForComodification", desc := "()V" } : Jvm.MethodName) jdk_49_method_6_code (1 : Nat) (Option.none : Option Jvm.ClassFile.FieldType)).before args0 about1 = true := code_word (m := ⟨20, 3⟩) (meth := k20m3) (c := k20c3) (by decide +kernel) rfl rfl rfl (by decide +kernel)
def codes1 : List Jvm.Cond := [Jvm.Cond.code x code maxLocals ret, Jvm.Cond.code ({ cls := "java/lang/Integer", name := "valueOf", desc := "(I)Ljava/lang/Integer;" } : Jvm.MethodName) jdk_33_method_22_code (1 : Nat) (Option.some (Jvm.ClassFile.FieldType.object "java/lang/Integer")), Jvm.Cond.code ({ cls := "java/util/ArrayList", name := "<init>", desc := "()V" } : Jvm.MethodName) jdk_38_method_2_code (1 : Nat) (Option.none : Option Jvm.ClassFile.FieldType), Jvm.Cond.code ({ cls := "java/util/AbstractList", name := "<init>", desc := "()V" } : Jvm.MethodName) jdk_39_method_1_code (1 : Nat) (Option.none : Option Jvm.ClassFile.FieldType), Jvm.Cond.code ({ cls := "java/util/AbstractCollection", name := "<init>", desc := "()V" } : Jvm.MethodName) jdk_22_method_1_code (1 : Nat) (Option.none : Option Jvm.ClassFile.FieldType), Jvm.Cond.code ({ cls := "java/lang/Object", name := "<init>", desc := "()V" } : Jvm.MethodName) object_method_1_code (1 : Nat) (Option.none : Option Jvm.ClassFile.FieldType), Jvm.Cond.code ({ cls := "com/example/cuttlefish/cuttlefish/store/RecordCursor", name := "over", desc := "(Ljava/util/List;)Lcom/example/cuttlefish/cuttlefish/store/RecordCursor;" } : Jvm.MethodName) prog_23_method_2_code (2 : Nat) (Option.some (Jvm.ClassFile.FieldType.object "com/example/cuttlefish/cuttlefish/store/RecordCursor")), Jvm.Cond.code ({ cls := "java/util/ArrayList", name := "iterator", desc := "()Ljava/util/Iterator;" } : Jvm.MethodName) jdk_38_method_55_code (1 : Nat) (Option.some (Jvm.ClassFile.FieldType.object "java/util/Iterator")), Jvm.Cond.code ({ cls := "java/util/ArrayList$Itr", name := "<init>", desc := "(Ljava/util/ArrayList;)V" } : Jvm.MethodName) jdk_49_method_1_code (2 : Nat) (Option.none : Option Jvm.ClassFile.FieldType), Jvm.Cond.code ({ cls := "com/example/cuttlefish/cuttlefish/store/RecordCursor", name := "lambda$over$0", desc := "(Ljava/util/Iterator;)Ljava/lang/Object;" } : Jvm.MethodName) prog_23_method_3_code (1 : Nat) (Option.some (Jvm.ClassFile.FieldType.object "java/lang/Object")), Jvm.Cond.code ({ cls := "java/util/ArrayList$Itr", name := "hasNext", desc := "()Z" } : Jvm.MethodName) jdk_49_method_2_code (1 : Nat) (Option.some Jvm.ClassFile.FieldType.boolean), Jvm.Cond.code ({ cls := "com/example/cuttlefish/cuttlefish/store/RecordCursorOverPinLaw", name := "slot", desc := "(IILjava/lang/Integer;Ljava/lang/Integer;)Z" } : Jvm.MethodName) method_2_code (4 : Nat) (Option.some Jvm.ClassFile.FieldType.boolean), Jvm.Cond.code ({ cls := "java/util/ArrayList", name := "size", desc := "()I" } : Jvm.MethodName) jdk_38_method_8_code (1 : Nat) (Option.some Jvm.ClassFile.FieldType.int), Jvm.Cond.code ({ cls := "java/lang/Integer", name := "<init>", desc := "(I)V" } : Jvm.MethodName) jdk_33_method_23_code (2 : Nat) (Option.none : Option Jvm.ClassFile.FieldType), Jvm.Cond.code ({ cls := "java/lang/Number", name := "<init>", desc := "()V" } : Jvm.MethodName) jdk_18_method_1_code (1 : Nat) (Option.none : Option Jvm.ClassFile.FieldType), Jvm.Cond.code ({ cls := "java/util/ArrayList", name := "add", desc := "(Ljava/lang/Object;)Z" } : Jvm.MethodName) jdk_38_method_25_code (2 : Nat) (Option.some Jvm.ClassFile.FieldType.boolean), Jvm.Cond.code ({ cls := "java/util/ArrayList", name := "add", desc := "(Ljava/lang/Object;[Ljava/lang/Object;I)V" } : Jvm.MethodName) jdk_38_method_24_code (4 : Nat) (Option.none : Option Jvm.ClassFile.FieldType), Jvm.Cond.code ({ cls := "java/util/ArrayList", name := "grow", desc := "()[Ljava/lang/Object;" } : Jvm.MethodName) jdk_38_method_7_code (1 : Nat) (Option.some (Jvm.ClassFile.FieldType.array (Jvm.ClassFile.FieldType.object "java/lang/Object"))), Jvm.Cond.code ({ cls := "java/util/ArrayList", name := "grow", desc := "(I)[Ljava/lang/Object;" } : Jvm.MethodName) jdk_38_method_6_code (4 : Nat) (Option.some (Jvm.ClassFile.FieldType.array (Jvm.ClassFile.FieldType.object "java/lang/Object"))), Jvm.Cond.code ({ cls := "java/lang/Math", name := "max", desc := "(II)I" } : Jvm.MethodName) jdk_29_method_65_code (2 : Nat) (Option.some Jvm.ClassFile.FieldType.int), Jvm.Cond.code ({ cls := "java/util/ArrayList$Itr", name := "next", desc := "()Ljava/lang/Object;" } : Jvm.MethodName) jdk_49_method_3_code (3 : Nat) (Option.some (Jvm.ClassFile.FieldType.object "java/lang/Object")), Jvm.Cond.code ({ cls := "java/util/ArrayList$Itr", name := "checkForComodification", desc := "()V" } : Jvm.MethodName) jdk_49_method_6_code (1 : Nat) (Option.none : Option Jvm.ClassFile.FieldType)]
set_option maxRecDepth 65536 in
theorem codes_eq : words1.filter isCode = codes1 := rfl
theorem w_codes : ∀ c ∈ words1.filter isCode, c.before args0 about1 = true := by
  rw [codes_eq]
  intro c hc
  simp only [codes1, List.mem_cons, List.not_mem_nil, or_false] at hc
  rcases hc with rfl | rfl | rfl | rfl | rfl | rfl | rfl | rfl | rfl | rfl | rfl | rfl | rfl | rfl | rfl | rfl | rfl | rfl | rfl | rfl | rfl | rfl
  · exact w_c0
  · exact w_c1
  · exact w_c2
  · exact w_c3
  · exact w_c4
  · exact w_c5
  · exact w_c6
  · exact w_c7
  · exact w_c8
  · exact w_c9
  · exact w_c10
  · exact w_c11
  · exact w_c12
  · exact w_c13
  · exact w_c14
  · exact w_c15
  · exact w_c16
  · exact w_c17
  · exact w_c18
  · exact w_c19
  · exact w_c20
  · exact w_c21
set_option maxRecDepth 65536 in
theorem w_t1 : (words1.take 24).all (fun c => isCode c || c.before args0 about1) = true := by decide +kernel
set_option maxRecDepth 65536 in
theorem w_t2 : ((words1.drop 24).take 24).all (fun c => isCode c || c.before args0 about1) = true := by decide +kernel
set_option maxRecDepth 65536 in
theorem w_t3 : (((words1.drop 24).drop 24).take 24).all (fun c => isCode c || c.before args0 about1) = true := by decide +kernel
set_option maxRecDepth 65536 in
theorem w_t4 : ((((words1.drop 24).drop 24).drop 24).take 24).all (fun c => isCode c || c.before args0 about1) = true := by decide +kernel
set_option maxRecDepth 65536 in
theorem w_t5 : (((((words1.drop 24).drop 24).drop 24).drop 24).take 24).all (fun c => isCode c || c.before args0 about1) = true := by decide +kernel
set_option maxRecDepth 65536 in
theorem w_t6 : ((((((words1.drop 24).drop 24).drop 24).drop 24).drop 24).take 24).all (fun c => isCode c || c.before args0 about1) = true := by decide +kernel
set_option maxRecDepth 65536 in
theorem w_t7 : ((((((words1.drop 24).drop 24).drop 24).drop 24).drop 24).drop 24).all (fun c => isCode c || c.before args0 about1) = true := by decide +kernel
theorem w_tables : (allAtoms (Jvm.Cond.code x code maxLocals ret :: tables_1)).before args0 about1 = true := by
  rw [allAtoms_all]
  show words1.all (fun c => c.before args0 about1) = true
  refine all_split ?_ w_codes
  rw [← List.take_append_drop 24 words1, List.all_append, w_t1, ← List.take_append_drop 24 (words1.drop 24), List.all_append, w_t2, ← List.take_append_drop 24 ((words1.drop 24).drop 24), List.all_append, w_t3, ← List.take_append_drop 24 (((words1.drop 24).drop 24).drop 24), List.all_append, w_t4, ← List.take_append_drop 24 ((((words1.drop 24).drop 24).drop 24).drop 24), List.all_append, w_t5, ← List.take_append_drop 24 (((((words1.drop 24).drop 24).drop 24).drop 24).drop 24), List.all_append, w_t6, w_t7]
  rfl
set_option maxRecDepth 65536 in
theorem w_rest : rest_1_c.before args0 about1 = true := by decide +kernel
set_option maxRecDepth 65536 in
theorem w_case : (Jvm.Cond.and given_1 narrow_1).before args0 about1 = true := by decide +kernel
theorem w_applies : (headSpec (Jvm.Cond.code x code maxLocals ret :: tables_1) room_1).applies x e0.platform about1 = true :=
  (Spec.applies_iff w_frames).mpr ⟨w_running, w_runnable, w_alone, w_named, w_hears, w_ripe, w_room, w_tables⟩
theorem atStart : AtStart classFile x code maxLocals ret World_1 tables_1 room_1 Calls_1 rest_1 Pre_1 launch0 p0 e0 about1 theMethod args0 below0 :=
  ⟨lists_1, trivial, launch0.admits_env _ _ _, launch0.least_env, fairChoices_fair.cas, fairChoices_fair.clock, w_frames, w_args, w_heap, w_applies, trivial, w_rest, w_case⟩
end start1
theorem witness_1 : WitnessClaimed_1 := ⟨start1.p0, start1.e0, start1.about1, start1.theMethod, start1.args0, start1.below0, start1.atStart⟩
end Jvm.Pilot.@@N@@
