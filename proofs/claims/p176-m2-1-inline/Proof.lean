import JvmDerived
import JvmDerived.Pilot.@@N@@Statement
import JvmDerived.Pilot.@@N@@Code
set_option linter.unusedVariables false
set_option linter.unusedSimpArgs false
@@BLOCK:SetKit.lean.txt@@
@@BLOCK:TracedD.lean.txt@@
namespace Jvm.Pilot.@@N@@
open Jvm Jvm.ClassFile Sem Op Lib Jvm.Free Jvm.Stand Jvm.LawKit Jvm.RoadKit Bundle Jvm.Pilot.@@N@@.Jvm.D
/-! my own layer: a walk in continuation form. OGo P T g: from the frame g at T the run comes to an end that meets P. -/
section Own
variable {p : Program} {l : Launch} {e : Env} {R : Room} {s : State} {m : MethodId} {args : Array Value} {below : List Frame} {meth : Method} {c : Code} {T : State} {locs : List Loc} {cells slots : Nat} {Z : State} {a0 : Array Value} {h : Heap}
def OGo (p : Program) (e : Env) (below : List Frame) (P : State → Outcome → Prop) (T : State) (g : JFrame) : Prop :=
  ∃ t o, Steps p.tables e below (T.setTop g) t ∧ t.status = .running ∧ Ended t below o ∧ P t o
def OEnd (s : State) (Q : Option Value → Heap → List Loc → Prop) (ck sk : Nat) (t : State) (o : Outcome) : Prop :=
  ∃ v L, o = .returned v ∧ Q v t.heap L ∧ FrameEnd s o t L ck sk
def OMet (l : Launch) (y : MethodName) (bytes : ByteArray) (maxL : Nat) (ret : Option FieldType) (ws : List Jvm.Cond) (rm : Room) (Z : State) (as' : Array Value) (h : Heap) (Q : Option Value → Heap → List Loc → Prop) : Prop :=
  MetFree l y (head1 (Jvm.Cond.code y bytes maxL ret :: ws) rm) (fun a U => a = as' ∧ Z.Warmed39 U.vm ∧ U.heap = h) (fun _ _ _ _ _ => True)
    (fun _ U o U' => ∃ v L, o = .returned v ∧ Q v U'.heap L ∧ FrameEnd U o U' L rm.cells rm.slots)
variable {P : State → Outcome → Prop}
theorem own_step {g g' : JFrame} (k : ∀ target, Steps p.tables e below (T.setTop g') target → Steps p.tables e below (T.setTop g) target) (d : OGo p e below P T g') : OGo p e below P T g := by
  obtain ⟨t, o, h1, h2⟩ := d
  exact ⟨t, o, k t h1, h2⟩
theorem own_via {T' : State} {g g' : JFrame} (k : ∀ target, Steps p.tables e below (T'.setTop g') target → Steps p.tables e below (T.setTop g) target) (d : OGo p e below P T' g') : OGo p e below P T g := by
  obtain ⟨t, o, h1, h2⟩ := d
  exact ⟨t, o, k t h1, h2⟩
theorem own_entry {g g' : JFrame} (q : g = g') (d : OGo p e below P T g') : OGo p e below P T g := q ▸ d
/-- a body by its walk -/
theorem own_body {y : MethodName} {bytes : ByteArray} {maxL : Nat} {ret : Option FieldType} {ws : List Jvm.Cond} {rm : Room} {as' : Array Value} {Q : Option Value → Heap → List Loc → Prop} (hpl : plainFor y = true)
    (body : ∀ (p : Program) (e : Env) (s : State) (m : MethodId) (below : List Frame) (meth : Method) (c : Code) (T : State), Stand p l e rm s m as' below meth c T [] 0 0 → p.tables.exec = Jvm.exec → Z.Warmed39 s.vm → c.code = bytes → c.maxLocals = maxL →
      s.vm.findClass y.cls = some m.cls → meth.name = y.name → meth.sig.returnType = ret → meth.locks = false → T.heap = h → OGo p e below (OEnd s Q rm.cells rm.slots) T (entryFrame m as' maxL)) :
    OMet l y bytes maxL ret ws rm Z as' h Q := by
  refine MetFree.of_bodySF hpl hisR ?_
  intro p e s m args below meth c s₁ Bd hml0 hP hK
  obtain ⟨rfl, hZ, hh⟩ := hP
  exact body p e s m below meth c s₁ (Stand.of_body Bd) Bd.exec hZ Bd.bytes hml0 (findClass_of_methodNamed Bd.named) (name_of_methodNamed Bd.named Bd.method).1 Bd.returns Bd.notSynchronized (by rw [← hh, Bd.state]; rfl)
variable {Q : Option Value → Heap → List Loc → Prop} {ck sk : Nat}
theorem own_retN (X : Stand p l e R s m args below meth c T locs cells slots) (hx : p.tables.exec = Jvm.exec) {pc : Nat} {Ls : Array Slot} {z : Int32} {t : FieldType} {rest : List Value} (hret : meth.sig.returnType = some t) (ht : t = .boolean ∨ t = .byte ∨ t = .char ∨ t = .short)
    (hlk : meth.locks = false) (hd : decode c.code pc = .ok (.ireturn, 1)) (eT : T.heap = h) (hQ : Q (some (.int (nar t z))) h locs) (hc : cells ≤ ck) (hs : slots ≤ sk) :
    OGo p e below (OEnd s Q ck sk) T (mkF m pc Ls (.int z :: rest)) := by
  obtain ⟨fs, hr, hrun, hended, hW, hsame⟩ := X.leave (v := some (.int (nar t z))) (fun h => by rw [hret] at h; cases h) hlk
  exact ⟨_, _, retN X hx hret ht hd hr, hrun, hended, _, locs, rfl, (show Q _ T.heap locs by rw [eT]; exact hQ), ⟨_, rfl⟩, hW, hsame.mono hc hs⟩
theorem own_retO (X : Stand p l e R s m args below meth c T locs cells slots) (hx : p.tables.exec = Jvm.exec) {pc : Nat} {Ls : Array Slot} {w : Value} {t : FieldType} {i : Instr} {rest : List Value} (hret : meth.sig.returnType = some t) (hn : narrow t w = w)
    (hi : (i = .ireturn ∧ (t = .int ∨ t = .boolean ∨ t = .byte ∨ t = .char ∨ t = .short) ∧ ∃ z, w = .int z) ∨ (i = .lreturn ∧ t = .long ∧ ∃ z, w = .long z) ∨ (i = .dreturn ∧ t = .double ∧ ∃ z, w = .double z) ∨ (i = .freturn ∧ t = .float ∧ ∃ z, w = .float z) ∨ (i = .areturn ∧ t.isReference = true ∧ w.isRef = true))
    (hlk : meth.locks = false) (hd : decode c.code pc = .ok (i, 1)) (eT : T.heap = h) (hQ : Q (some w) h locs) (hc : cells ≤ ck) (hs : slots ≤ sk) :
    OGo p e below (OEnd s Q ck sk) T (mkF m pc Ls (w :: rest)) := by
  obtain ⟨fs, hr, hrun, hended, hW, hsame⟩ := X.leave (v := some w) (fun h => by rw [hret] at h; cases h) hlk
  exact ⟨_, _, retOut X hx hret hn hi hd hr, hrun, hended, _, locs, rfl, (show Q _ T.heap locs by rw [eT]; exact hQ), ⟨_, rfl⟩, hW, hsame.mono hc hs⟩
theorem own_retI (X : Stand p l e R s m args below meth c T locs cells slots) (hx : p.tables.exec = Jvm.exec) {pc : Nat} {Ls : Array Slot} {z : Int32} {rest : List Value} (hret : meth.sig.returnType = some .int)
    (hlk : meth.locks = false) (hd : decode c.code pc = .ok (.ireturn, 1)) (eT : T.heap = h) (hQ : Q (some (.int z)) h locs) (hc : cells ≤ ck) (hs : slots ≤ sk) :
    OGo p e below (OEnd s Q ck sk) T (mkF m pc Ls (.int z :: rest)) := own_retO X hx hret rfl (Or.inl ⟨rfl, Or.inl rfl, z, rfl⟩) hlk hd eT hQ hc hs
theorem own_retA (X : Stand p l e R s m args below meth c T locs cells slots) (hx : p.tables.exec = Jvm.exec) {pc : Nat} {Ls : Array Slot} {w : Value} {t : FieldType} {rest : List Value} (hret : meth.sig.returnType = some t) (ht : t.isReference = true) (hw : w.isRef = true)
    (hlk : meth.locks = false) (hd : decode c.code pc = .ok (.areturn, 1)) (eT : T.heap = h) (hQ : Q (some w) h locs) (hc : cells ≤ ck) (hs : slots ≤ sk) :
    OGo p e below (OEnd s Q ck sk) T (mkF m pc Ls (w :: rest)) :=
  own_retO X hx hret (by cases t <;> cases w <;> first | rfl | (cases ht; done) | (cases hw; done)) (Or.inr (Or.inr (Or.inr (Or.inr ⟨rfl, ht, hw⟩)))) hlk hd eT hQ hc hs
theorem own_retV (X : Stand p l e R s m args below meth c T locs cells slots) (hx : p.tables.exec = Jvm.exec) {pc : Nat} {Ls : Array Slot} (hret : meth.sig.returnType = none)
    (hlk : meth.locks = false) (hd : decode c.code pc = .ok (.return_, 1)) (eT : T.heap = h) (hQ : Q none h locs) (hc : cells ≤ ck) (hs : slots ≤ sk) :
    OGo p e below (OEnd s Q ck sk) T (mkF m pc Ls []) := by
  obtain ⟨fs, hr, hrun, hended, hW, hsame⟩ := X.leave (v := none) (fun _ => rfl) hlk
  exact ⟨_, _, X.returnOut hx hret hd hr, hrun, hended, _, locs, rfl, (show Q _ T.heap locs by rw [eT]; exact hQ), ⟨_, rfl⟩, hW, hsame.mono hc hs⟩
variable {y : MethodName} {bytes : ByteArray} {maxL : Nat} {ret : Option FieldType} {rm : Room} {as' : Array Value}
theorem own_callS (X : Stand p l e R s m args below meth c T locs cells slots) (hx : p.tables.exec = Jvm.exec) (hZ : Z.Warmed39 s.vm) {own : String} {index W : Nat} (hown : s.vm.findClass own = some m.cls) (eT : T.heap = h)
    (hM : OMet l y bytes maxL ret [] rm Z as' h Q)
    (w1 : (Cond.methodLink own index y).before a0 Z = true) (w2 : (Cond.static y).before a0 Z = true) (w3 : (Cond.initialized y.cls).before a0 Z = true) (w4 : (Cond.code y bytes maxL ret).before a0 Z = true)
    (hy : y.cls ≠ "java/lang/invoke/MethodHandle" ∧ y.cls ≠ "java/lang/invoke/VarHandle") (hf : rm.frames + 1 ≤ R.frames) (hl : W + (maxL + 11) + rm.locals ≤ R.locals)
    {g : JFrame} (hg : g.method = m) (hsize : g.locals.size = c.maxLocals) {argsL rest : List Value} (has : argsL.toArray = as') (hlen : ∀ sig, parseMethodDescriptor y.desc = some sig → argsL.length = sig.parameters.length)
    (hstack : g.stack = argsL.reverse ++ rest) (hW : 2 * g.monitorRoom + (rest.map fun v => v.category).sum ≤ W) (hdg : decode c.code g.pc = .ok (.invokestatic index, 3))
    (hc : cells + rm.cells ≤ R.cells) (hs : slots + rm.slots ≤ R.slots)
    (k : ∀ (v : Option Value) (T' : State) (L : List Loc), Stand p l e R s m args below meth c T' (locs ++ L) (cells + rm.cells) (slots + rm.slots) → Q v T'.heap L → OGo p e below P T' { g with pc := g.pc + 3, stack := v.toList ++ rest }) :
    OGo p e below P T g := by
  obtain ⟨v, _, ⟨T', L', k', n'⟩, -, X', ⟨Lc, hQ, e1, e2, e3⟩, st⟩ := Jvm.LawKit.callS X hx (y := y) hown (mvT hZ w1) (mvT hZ w2) (mvT hZ w3) (mvT hZ w4) hy (backOf (W := W) hM hZ w4 w3 hf hl) hg hsize hlen hstack hW hdg (fun _ _ => ⟨has, eT, hc, hs⟩)
  dsimp only [Pt.U, Pt.locs, Pt.cells, Pt.slots] at X' e1 e2 e3 st hQ
  subst e1 e2 e3
  exact own_via st (k v T' Lc X' hQ)
theorem own_callV (X : Stand p l e R s m args below meth c T locs cells slots) (hx : p.tables.exec = Jvm.exec) (hZ : Z.Warmed39 s.vm) {own C : String} {index W : Nat} {z : MethodName} (hown : s.vm.findClass own = some m.cls) (eT : T.heap = h)
    (hM : OMet l z bytes maxL ret [] rm Z as' h Q) {b : Addr} (E : Exa Z h b C)
    (w1 : (Cond.methodLink own index y).before a0 Z = true) (w2 : (Cond.declares y).before a0 Z = true) (nf : NotFace s y) (w3 : (Cond.selects C y z).before a0 Z = true) (w4 : (Cond.instanceMethod z).before a0 Z = true) (w5 : (Cond.code z bytes maxL ret).before a0 Z = true) (w6 : (Cond.initialized z.cls).before a0 Z = true)
    (hy : y.cls ≠ "java/lang/invoke/MethodHandle" ∧ y.cls ≠ "java/lang/invoke/VarHandle") (hf : rm.frames + 1 ≤ R.frames) (hl : W + (maxL + 11) + rm.locals ≤ R.locals)
    {g : JFrame} (hg : g.method = m) (hsize : g.locals.size = c.maxLocals) {argsL rest : List Value} (has : (.ref b :: argsL).toArray = as') (hlen : ∀ sig, parseMethodDescriptor y.desc = some sig → argsL.length = sig.parameters.length)
    (hstack : g.stack = argsL.reverse ++ .ref b :: rest) (hW : 2 * g.monitorRoom + (rest.map fun v => v.category).sum ≤ W) (hdg : decode c.code g.pc = .ok (.invokevirtual index, 3))
    (hc : cells + rm.cells ≤ R.cells) (hs : slots + rm.slots ≤ R.slots)
    (k : ∀ (v : Option Value) (T' : State) (L : List Loc), Stand p l e R s m args below meth c T' (locs ++ L) (cells + rm.cells) (slots + rm.slots) → Q v T'.heap L → OGo p e below P T' { g with pc := g.pc + 3, stack := v.toList ++ rest }) :
    OGo p e below P T g := by
  obtain ⟨cq, kq, qa, qb, qc⟩ := isOf hZ eT E
  obtain ⟨v, _, ⟨T', L', k', n'⟩, -, X', ⟨Lc, hQ, e1, e2, e3⟩, st⟩ := X.virtualBack hx (y := y) (z := z) hown (mvT hZ w1) (mvT hZ w2) nf (mvT hZ w3) (mvT hZ w4) hy (backOf (W := W) hM hZ w5 w6 hf hl) qa qc hg hsize (Steps.refl _) hlen hstack hW hdg (fun _ _ => ⟨has, eT, hc, hs⟩)
  dsimp only [Pt.U, Pt.locs, Pt.cells, Pt.slots] at X' e1 e2 e3 st hQ
  subst e1 e2 e3
  exact own_via (fun _ kk => st.trans kk) (k v T' Lc X' hQ)
theorem own_callI (X : Stand p l e R s m args below meth c T locs cells slots) (hx : p.tables.exec = Jvm.exec) (hZ : Z.Warmed39 s.vm) {own C : String} {index count W : Nat} {z : MethodName} (hown : s.vm.findClass own = some m.cls) (eT : T.heap = h)
    (hM : OMet l z bytes maxL ret [] rm Z as' h Q) {b : Addr} (E : Exa Z h b C)
    (w1 : (Cond.methodLink own index y).before a0 Z = true) (w2 : (Cond.declares y).before a0 Z = true) (wf : (Cond.interfaceMethod y.cls y.cls y.name y.desc).before args s = true) (w3 : (Cond.selects C y z).before a0 Z = true) (w4 : (Cond.instanceMethod z).before a0 Z = true)
    (wp : (Cond.publicMethod z).before a0 Z = true) (wu : (Cond.unhidden C y.name y.desc).before a0 Z = true) (wc : (Cond.castable C y.cls).before a0 Z = true) (w5 : (Cond.code z bytes maxL ret).before a0 Z = true) (w6 : (Cond.initialized z.cls).before a0 Z = true)
    (hy : y.cls ≠ "java/lang/invoke/MethodHandle" ∧ y.cls ≠ "java/lang/invoke/VarHandle") (hf : rm.frames + 1 ≤ R.frames) (hl : W + (maxL + 11) + rm.locals ≤ R.locals)
    {g : JFrame} (hg : g.method = m) (hsize : g.locals.size = c.maxLocals) {argsL rest : List Value} (has : (.ref b :: argsL).toArray = as') (hlen : ∀ sig, parseMethodDescriptor y.desc = some sig → argsL.length = sig.parameters.length)
    (hstack : g.stack = argsL.reverse ++ .ref b :: rest) (hW : 2 * g.monitorRoom + (rest.map fun v => v.category).sum ≤ W) (hdg : decode c.code g.pc = .ok (.invokeinterface index count, 5))
    (hc : cells + rm.cells ≤ R.cells) (hs : slots + rm.slots ≤ R.slots)
    (k : ∀ (v : Option Value) (T' : State) (L : List Loc), Stand p l e R s m args below meth c T' (locs ++ L) (cells + rm.cells) (slots + rm.slots) → Q v T'.heap L → OGo p e below P T' { g with pc := g.pc + 5, stack := v.toList ++ rest }) :
    OGo p e below P T g := by
  obtain ⟨cq, kq, qa, qb, qc⟩ := isOf hZ eT E
  obtain ⟨v, _, ⟨T', L', k', n'⟩, -, X', ⟨Lc, hQ, e1, e2, e3⟩, st⟩ := X.interfaceBack hx (xi := y) (y := z) hown (mvT hZ w1) (mvT hZ w2) wf (mvT hZ w3) (mvT hZ w4) (mvT hZ wp) (mvT hZ wu) (mvT hZ wc) hy (backOf (W := W) hM hZ w5 w6 hf hl) qa qb qc hg hsize (Steps.refl _) hlen hstack hW hdg (fun _ _ => ⟨has, eT, hc, hs⟩)
  dsimp only [Pt.U, Pt.locs, Pt.cells, Pt.slots] at X' e1 e2 e3 st hQ
  subst e1 e2 e3
  exact own_via (fun _ kk => st.trans kk) (k v T' Lc X' hQ)
theorem own_init (X : Stand p l e R s m args below meth c T locs cells slots) (hx : p.tables.exec = Jvm.exec) (hZ : Z.Warmed39 s.vm) {own : String} {index W : Nat} (hown : s.vm.findClass own = some m.cls) (eT : T.heap = h)
    (hM : OMet l y bytes maxL none [] rm Z as' h Q) {b : Addr} (hy1 : y.name = "<init>")
    (w1 : (Cond.methodLink own index y).before a0 Z = true) (w2 : (Cond.instanceMethod y).before a0 Z = true) (w3 : (Cond.code y bytes maxL none).before a0 Z = true) (w4 : (Cond.initialized y.cls).before a0 Z = true)
    (hy : y.cls ≠ "java/lang/invoke/MethodHandle" ∧ y.cls ≠ "java/lang/invoke/VarHandle") (hf : rm.frames + 1 ≤ R.frames) (hl : W + (maxL + 11) + rm.locals ≤ R.locals)
    {g : JFrame} (hg : g.method = m) (hsize : g.locals.size = c.maxLocals) {argsL rest : List Value} (has : (.ref b :: argsL).toArray = as') (hlen : ∀ sig, parseMethodDescriptor y.desc = some sig → argsL.length = sig.parameters.length)
    (hstack : g.stack = argsL.reverse ++ .ref b :: rest) (hW : 2 * g.monitorRoom + (rest.map fun v => v.category).sum ≤ W) (hdg : decode c.code g.pc = .ok (.invokespecial index, 3))
    (hc : cells + rm.cells ≤ R.cells) (hs : slots + rm.slots ≤ R.slots)
    (k : ∀ (v : Option Value) (T' : State) (L : List Loc), Stand p l e R s m args below meth c T' (locs ++ L) (cells + rm.cells) (slots + rm.slots) → Q v T'.heap L → OGo p e below P T' { g with pc := g.pc + 3, stack := v.toList ++ rest }) :
    OGo p e below P T g := by
  obtain ⟨v, _, ⟨T', L', k', n'⟩, -, X', ⟨Lc, hQ, e1, e2, e3⟩, st⟩ := X.specialBack hx (y := y) hy1 hown (mvT hZ w1) (mvT hZ w2) (mvT hZ w3) hy (backOf (W := W) hM hZ w3 w4 hf hl) hg hsize (Steps.refl _) hlen hstack hW hdg (fun _ _ => ⟨has, eT, hc, hs⟩)
  dsimp only [Pt.U, Pt.locs, Pt.cells, Pt.slots] at X' e1 e2 e3 st hQ
  subst e1 e2 e3
  exact own_via (fun _ kk => st.trans kk) (k v T' Lc X' hQ)
theorem own_initB (X : Stand p l e R s m args below meth c T locs cells slots) (hx : p.tables.exec = Jvm.exec) (hZ : Z.Warmed39 s.vm) {own : String} {index W ck' sk' : Nat} (hown : s.vm.findClass own = some m.cls) (eT : T.heap = h)
    (hK : Back l R p e below s args y 3 W (fun A a => a = as' ∧ A.U.heap = h ∧ A.cells + ck' ≤ R.cells ∧ A.slots + sk' ≤ R.slots) (fun A _ v B => ∃ L, Q v B.U.heap L ∧ B.locs = A.locs ++ L ∧ B.cells = A.cells + ck' ∧ B.slots = A.slots + sk')) {b : Addr} (hy1 : y.name = "<init>")
    (w1 : (Cond.methodLink own index y).before a0 Z = true) (w2 : (Cond.instanceMethod y).before a0 Z = true) (w3 : (Cond.code y bytes maxL none).before a0 Z = true)
    (hy : y.cls ≠ "java/lang/invoke/MethodHandle" ∧ y.cls ≠ "java/lang/invoke/VarHandle")
    {g : JFrame} (hg : g.method = m) (hsize : g.locals.size = c.maxLocals) {argsL rest : List Value} (has : (.ref b :: argsL).toArray = as') (hlen : ∀ sig, parseMethodDescriptor y.desc = some sig → argsL.length = sig.parameters.length)
    (hstack : g.stack = argsL.reverse ++ .ref b :: rest) (hW : 2 * g.monitorRoom + (rest.map fun v => v.category).sum ≤ W) (hdg : decode c.code g.pc = .ok (.invokespecial index, 3))
    (hc : cells + ck' ≤ R.cells) (hs : slots + sk' ≤ R.slots)
    (k : ∀ (v : Option Value) (T' : State) (L : List Loc), Stand p l e R s m args below meth c T' (locs ++ L) (cells + ck') (slots + sk') → Q v T'.heap L → OGo p e below P T' { g with pc := g.pc + 3, stack := v.toList ++ rest }) :
    OGo p e below P T g := by
  obtain ⟨v, _, ⟨T', L', k', n'⟩, -, X', ⟨Lc, hQ, e1, e2, e3⟩, st⟩ := X.specialBack hx (y := y) hy1 hown (mvT hZ w1) (mvT hZ w2) (mvT hZ w3) hy hK hg hsize (Steps.refl _) hlen hstack hW hdg (fun _ _ => ⟨has, eT, hc, hs⟩)
  dsimp only [Pt.U, Pt.locs, Pt.cells, Pt.slots] at X' e1 e2 e3 st hQ
  subst e1 e2 e3
  exact own_via (fun _ kk => st.trans kk) (k v T' Lc X' hQ)
theorem own_irem {tb : Tables} [Ours tb] {e : Env} {below : List Frame} {T target : State} {m : MethodId} {c : Code} {g : JFrame} (h : At T m c below) (hx : tb.exec = Jvm.exec) (hg : g.method = m) {x y : Int32} {rest : List Value} (hd : decode c.code g.pc = .ok (.irem, 1)) (hs : g.stack = .int y :: .int x :: rest) (hy : y ≠ 0)
    (hr : Steps tb e below (T.setTop { g with pc := g.pc + 1, stack := .int (x % y) :: rest }) target) : Steps tb e below (T.setTop g) target := XS.irem h hx hg hd hs hy (by rw [irem_eq_mod]; exact hr)
theorem own_storeV {Ls : Array Slot} {n : Nat} {w : Value} (hw : w.isRef = true) (f : Value → Array Slot) (h0 : storeLocals Ls n .null = some (f .null)) (h1 : ∀ a, storeLocals Ls n (.ref a) = some (f (.ref a))) : storeLocals Ls n w = some (f w) := by
  cases w <;> first | exact h0 | exact h1 _ | (cases hw; done)
theorem own_len {z w : Int32} (q : z = w) {g : JFrame} {rest : List Value} {pc : Nat} (k : ∀ target, Steps p.tables e below (T.setTop { g with pc := pc, stack := .int z :: rest }) target → Steps p.tables e below (T.setTop g) target) :
    ∀ target, Steps p.tables e below (T.setTop { g with pc := pc, stack := .int w :: rest }) target → Steps p.tables e below (T.setTop g) target := q ▸ k
theorem own_narZ {x : Int32} (hx : x = 0 ∨ x = 1) : narrow .boolean (.int x) = .int x := by rcases hx with rfl | rfl <;> rfl
theorem own_fitZ {x : Int32} (hx : x = 0 ∨ x = 1) : fits .boolean (.int x) = true := by rcases hx with rfl | rfl <;> rfl
theorem own_fits_byte (x : Int32) : fits .byte (.int (nar .byte x)) = true := fits_nar_byte x
theorem own_lat (x : Int32) : ¬ (x &&& (255 : Int32)).toUInt32.toUInt16.toUInt32.toInt32 < (0 : Int32) ∧ ¬ (255 : Int32) < (x &&& (255 : Int32)).toUInt32.toUInt16.toUInt32.toInt32 := by
  rw [i2c_mask]
  have q := c_and x 255 (by decide)
  rw [Int32.lt_iff_toInt_lt, Int32.lt_iff_toInt_lt]
  have e1 : (0 : Int32).toInt = 0 := by decide
  have e2 : (255 : Int32).toInt = 255 := by decide
  omega
theorem own_latN (x : Int32) : ¬ nar .char ((x &&& (255 : Int32)).toUInt32.toUInt16.toUInt32.toInt32) < (0 : Int32) ∧ ¬ (255 : Int32) < nar .char ((x &&& (255 : Int32)).toUInt32.toUInt16.toUInt32.toInt32) := by
  have e : nar .char ((x &&& (255 : Int32)).toUInt32.toUInt16.toUInt32.toInt32) = (x &&& (255 : Int32)).toUInt32.toUInt16.toUInt32.toInt32 := by simp only [nar, i2c_mask]
  rw [e]
  exact own_lat x
theorem own_callP (X : Stand p l e R s m args below meth c T locs cells slots) (hx : p.tables.exec = Jvm.exec) (hZ : Z.Warmed39 s.vm) {own C : String} {index W : Nat} (hown : s.vm.findClass own = some m.cls) (eT : T.heap = h)
    (hM : OMet l y bytes maxL ret [] rm Z as' h Q) {b : Addr} (E : Exa Z h b C)
    (w1 : (Cond.methodLink own index y).before a0 Z = true) (w2 : (Cond.instanceMethod y).before a0 Z = true) (w3 : (Cond.selects y.cls y y).before a0 Z = true) (w4 : (Cond.privateMethod y).before a0 Z = true) (w5 : (Cond.code y bytes maxL ret).before a0 Z = true) (w6 : (Cond.initialized y.cls).before a0 Z = true)
    (hy : y.cls ≠ "java/lang/invoke/MethodHandle" ∧ y.cls ≠ "java/lang/invoke/VarHandle") (hf : rm.frames + 1 ≤ R.frames) (hl : W + (maxL + 11) + rm.locals ≤ R.locals)
    {g : JFrame} (hg : g.method = m) (hsize : g.locals.size = c.maxLocals) {argsL rest : List Value} (has : (.ref b :: argsL).toArray = as') (hlen : ∀ sig, parseMethodDescriptor y.desc = some sig → argsL.length = sig.parameters.length)
    (hstack : g.stack = argsL.reverse ++ .ref b :: rest) (hW : 2 * g.monitorRoom + (rest.map fun v => v.category).sum ≤ W) (hdg : decode c.code g.pc = .ok (.invokevirtual index, 3))
    (hc : cells + rm.cells ≤ R.cells) (hs : slots + rm.slots ≤ R.slots)
    (k : ∀ (v : Option Value) (T' : State) (L : List Loc), Stand p l e R s m args below meth c T' (locs ++ L) (cells + rm.cells) (slots + rm.slots) → Q v T'.heap L → OGo p e below P T' { g with pc := g.pc + 3, stack := v.toList ++ rest }) :
    OGo p e below P T g := by
  obtain ⟨cq, qa, qb⟩ := E.cell
  obtain ⟨v, _, ⟨T', L', k', n'⟩, -, X', ⟨Lc, hQ, e1, e2, e3⟩, st⟩ := X.privateBack hx (y := y) hown (mvT hZ w1) (mvT hZ w2) (mvT hZ w3) (Cond.privateMethod_at (mvP hZ w4 (args := #[]))) (mvT hZ w5) hy (backOf (W := W) hM hZ w5 w6 hf hl) hg hsize (Steps.refl _) (by rw [eT]; exact qa) qb hlen hstack hW hdg (fun _ _ => ⟨has, eT, hc, hs⟩)
  dsimp only [Pt.U, Pt.locs, Pt.cells, Pt.slots] at X' e1 e2 e3 st hQ
  subst e1 e2 e3
  exact own_via (fun _ kk => st.trans kk) (k v T' Lc X' hQ)
theorem own_superB (X : Stand p l e R s m args below meth c T locs cells slots) (hx : p.tables.exec = Jvm.exec) (hZ : Z.Warmed39 s.vm) {own K : String} {index W : Nat} (hown : s.vm.findClass own = some m.cls) (eT : T.heap = h)
    (hM : OMet l y bytes maxL ret [] rm Z as' h Q) {b : Addr} (F : Ins Z h b K true) (hn : y.name ≠ "<init>")
    (w1 : (Cond.methodLink own index y).before a0 Z = true) (w2 : (Cond.sameMethod y.cls y.cls y.name y.desc).before a0 Z = true) (w3 : (Cond.instanceMethod y).before a0 Z = true) (w4 : (Cond.superclass own y.cls).before a0 Z = true) (w5 : (Cond.code y bytes maxL ret).before a0 Z = true) (w6 : (Cond.initialized y.cls).before a0 Z = true)
    (hf : rm.frames + 1 ≤ R.frames) (hl : W + (maxL + 11) + rm.locals ≤ R.locals)
    {g : JFrame} (hg : g.method = m) (hsize : g.locals.size = c.maxLocals) {argsL rest : List Value} (has : (.ref b :: argsL).toArray = as') (hlen : ∀ sig, parseMethodDescriptor y.desc = some sig → argsL.length = sig.parameters.length)
    (hstack : g.stack = argsL.reverse ++ .ref b :: rest) (hW : 2 * g.monitorRoom + (rest.map fun v => v.category).sum ≤ W) (hdg : decode c.code g.pc = .ok (.invokespecial index, 3))
    (hc : cells + rm.cells ≤ R.cells) (hs : slots + rm.slots ≤ R.slots)
    (k : ∀ (v : Option Value) (T' : State) (L : List Loc), Stand p l e R s m args below meth c T' (locs ++ L) (cells + rm.cells) (slots + rm.slots) → Q v T'.heap L → OGo p e below P T' { g with pc := g.pc + 3, stack := v.toList ++ rest }) :
    OGo p e below P T g := by
  obtain ⟨v, _, ⟨T', L', k', n'⟩, -, X', ⟨Lc, hQ, e1, e2, e3⟩, st⟩ := superBack X hx hZ (y := y) hown w1 w2 w3 w4 hn (backOf (W := W) hM hZ w5 w6 hf hl) eT F hg hsize w5 hlen hstack hW hdg (fun _ _ => ⟨has, eT, hc, hs⟩)
  dsimp only [Pt.U, Pt.locs, Pt.cells, Pt.slots] at X' e1 e2 e3 st hQ
  subst e1 e2 e3
  exact own_via (fun _ kk => st.trans kk) (k v T' Lc X' hQ)
theorem own_pureX (X : Stand p l e R s m args below meth c T (locs ++ []) (cells + 0) (slots + 0)) : Stand p l e R s m args below meth c T locs cells slots := by simpa using X
theorem own_sta_keep {h' : Heap} {ws : List Addr} {C n d : String} {v : Value} (F : Sta Z h C n d v) (K : Keep h h' ws) (q : ∀ x ∈ ws, ∀ c : Cell, h[x]? = some c → c.vm.isStatics = false) : Sta Z h' C n d v := by
  obtain ⟨cf, i, k, f, st, cell, h1, h2, h3, h4, h5, h6, h7⟩ := F
  exact ⟨cf, i, k, f, st, cell, h1, h2, h3, h4, K.2.1 st cell h5 (fun mm => by have := q st mm cell h5; rw [h6] at this; cases this), h6, h7⟩
theorem own_ins_keep {h' : Heap} {ws : List Addr} {a : Addr} {C : String} {b : Bool} (F : Ins Z h a C b) (K : Keep h h' ws) : Ins Z h' a C b := by
  obtain ⟨cell, cT, h1, h2, h3⟩ := F
  obtain ⟨c', q1, q2, q3, -⟩ := K.2.2 a cell h1
  exact ⟨c', cT, q1, h2, by rw [q2, q3]; exact h3⟩
theorem own_nsE {a : Addr} {C : String} (E : Exa Z h a C) : ∀ c : Cell, h[a]? = some c → c.vm.isStatics = false := fun c hc => by
  obtain ⟨cell, k, h1, h2, h3, h4, h5⟩ := E
  cases h1.symm.trans hc
  exact h4
theorem own_nsA {a : Addr} {k : ClassId} {ty : FieldType} {z : Int32} {vs : List Value} {dv : Value} (F : Arv Z h a k ty z vs dv) : ∀ c : Cell, h[a]? = some c → c.vm.isStatics = false := fun c hc => by
  obtain ⟨cell, A, -⟩ := F
  cases A.1.symm.trans hc
  exact A.plain
theorem own_nar_ref {t : FieldType} {w : Value} (hw : w.isRef = true) (ht : t.isReference = true) : narrow t w = w := by cases t <;> cases w <;> first | rfl | (cases ht; done) | (cases hw; done)
theorem own_fits_ref {t : FieldType} {w : Value} (hw : w.isRef = true) (ht : t.isReference = true) : fits t w = true := by cases t <;> cases w <;> first | rfl | (cases ht; done) | (cases hw; done)
theorem own_len0 {t : Term} {x : Addr} {cl : Cell} {ty : FieldType} (ht : t.eval args s none [] s = some (.ref x)) (A : Arr s s.heap x cl ty) (hq : (Jvm.Cond.eq (.length t) (.int 0)).value args s none s [] = some true) : cl.slots.size = 0 := by
  have e1 := A.fin (U := s) (Vm.Alike.refl _)
  simp only [Cond.value, Term.eval, ht, e1] at hq
  by_cases q : cl.slots.size < 2 ^ 31
  · simp [e1, q] at hq
    have e2 := len_toInt q
    rw [hq] at e2
    have e3 : (0 : Int32).toInt = 0 := by decide
    omega
  · simp [e1, q] at hq
theorem own_arv0 {x : Addr} {cl : Cell} {ty : FieldType} {dv : Value} (A : Arr s s.heap x cl ty) (hq : cl.slots.size = 0) : Arv s s.heap x cl.cls ty (0 : Int32) [] dv :=
  ⟨cl, A, rfl, by rw [hq]; decide, by decide, fun i hi => by omega, fun i hi => by omega⟩
/-- a static's object and its int field, out of the case's words -/
theorem own_fldI {t : Term} {C n d : String} {x : Addr} {k : Int32} (ht : t.eval args s none [] s = some (.ref x)) (h : (Jvm.Cond.eq (.field t C n d) (.int k)).value args s none s [] = some true) : Fld s s.heap x C n d (.int k) := by
  refine Fld.start ?_
  have e1 := fld_at (C := C) (n := n) (dd := d) ht
  have e2 : (Term.int k).eval args s none [] s = some (.int k) := rfl
  simp only [Cond.value, e1, e2] at h
  cases hv : s.fieldOf? x C n d with
  | none => simp [hv] at h
  | some w => cases w <;> simp_all
end Own
/-! the same layer for walks that may intern String constants: the Stand is over (s.setVm vm0); the booked constants of EL are kept (CHv, CHr) -/
section OwnW
variable {p : Program} {l : Launch} {e : Env} {R : Room} {s : State} {m : MethodId} {args : Array Value} {below : List Frame} {meth : Method} {c : Code} {T : State} {locs : List Loc} {cells slots : Nat} {Z : State} {a0 : Array Value} {h : Heap} {EL : List (String × Nat)} {vm0 : Vm} {k0 : Nat}
def OEndW (Z : State) (EL : List (String × Nat)) (s : State) (Q : Option Value → Heap → List Loc → Prop) (ck sk : Nat) (t : State) (o : Outcome) : Prop :=
  ∃ v L, o = .returned v ∧ Q v t.heap L ∧ CHr Z EL s.vm s.heap t.vm t.heap ∧ ReturnedEndW s o t L ck sk
def OMetW (l : Launch) (y : MethodName) (bytes : ByteArray) (maxL : Nat) (ret : Option FieldType) (ws : List Jvm.Cond) (rm : Room) (Z : State) (EL : List (String × Nat)) (as' : Array Value) (h : Heap) (Q : Option Value → Heap → List Loc → Prop) : Prop :=
  MetFree l y (head1 (Jvm.Cond.code y bytes maxL ret :: ws) rm) (fun a U => a = as' ∧ Z.Warmed39 U.vm ∧ U.heap = h ∧ CHv Z EL U.vm h) (fun _ _ _ _ _ => True)
    (fun _ U o U' => ∃ v L, o = .returned v ∧ Q v U'.heap L ∧ CHr Z EL U.vm U.heap U'.vm U'.heap ∧ ReturnedEndW U o U' L rm.cells rm.slots)
theorem own_bodyW {y : MethodName} {bytes : ByteArray} {maxL : Nat} {ret : Option FieldType} {ws : List Jvm.Cond} {rm : Room} {as' : Array Value} {Q : Option Value → Heap → List Loc → Prop} (hpl : plainFor y = true)
    (body : ∀ (p : Program) (e : Env) (s : State) (m : MethodId) (below : List Frame) (meth : Method) (c : Code) (T : State), Stand p l e rm (s.setVm s.vm) m as' below meth c T [] 0 0 → p.tables.exec = Jvm.exec → Z.Warmed39 s.vm → c.code = bytes → c.maxLocals = maxL →
      s.vm.findClass y.cls = some m.cls → meth.name = y.name → meth.sig.returnType = ret → meth.locks = false → T.heap = h → s.Since s.vm h.size → CHr Z EL s.vm s.heap s.vm h → OGo p e below (OEndW Z EL s Q rm.cells rm.slots) T (entryFrame m as' maxL)) :
    OMetW l y bytes maxL ret ws rm Z EL as' h Q := by
  refine MetFree.of_bodySF hpl hisR ?_
  intro p e s m args below meth c s₁ Bd hml0 hP hK
  obtain ⟨rfl, hZ, hh, hC⟩ := hP
  have X : Stand p l e rm (s.setVm s.vm) m args below meth c s₁ [] 0 0 := Stand.of_body Bd
  refine body p e s m below meth c s₁ X Bd.exec hZ Bd.bytes hml0 (findClass_of_methodNamed Bd.named) (name_of_methodNamed Bd.named Bd.method).1 Bd.returns Bd.notSynchronized (by rw [← hh, Bd.state]; rfl) ((State.WarmedH.refl s).since _) ?_
  rw [hh]
  exact CHr.refl hC
variable {P : State → Outcome → Prop} {Q : Option Value → Heap → List Loc → Prop} {ck sk : Nat}
theorem own_endW (X : Stand p l e R (s.setVm vm0) m args below meth c T locs cells slots) (hZ : Z.Warmed39 vm0) (hEL : EW Z a0 EL) (hS : s.Since vm0 k0) (hk : k0 ≤ h.size) (hC : CHr Z EL s.vm s.heap vm0 h) (eT : T.heap = h) {v : Option Value} (hv : meth.sig.returnType = none → v = none) (hlk : meth.locks = false) (hQ : Q v h locs) (hc : cells ≤ ck) (hs : slots ≤ sk)
    {g : JFrame} (st : ∀ fs, (∀ (f : JFrame) (acts : List Action), f.method = m → f.locked = none → f.entered = [] → (doReturn e (T.setTop f) acts v).1 = T.setFrames fs) → Steps p.tables e below (T.setTop g) (T.setFrames fs)) :
    OGo p e below (OEndW Z EL s Q ck sk) T g := by
  obtain ⟨fs, hr, hrun, hended, h1, h2, h3, h4⟩ := X.leaveW hS (by rw [eT]; exact hk) hv hlk
  refine ⟨_, _, st fs hr, hrun, hended, _, locs, rfl, (show Q _ T.heap locs by rw [eT]; exact hQ), ?_, h1, h2, h3, h4.mono hc hs⟩
  show CHr Z EL s.vm s.heap T.vm T.heap
  rw [eT]
  exact hC.trans (CHv.at X hZ hEL hC.1)
theorem own_retNW (X : Stand p l e R (s.setVm vm0) m args below meth c T locs cells slots) (hx : p.tables.exec = Jvm.exec) (hZ : Z.Warmed39 vm0) (hEL : EW Z a0 EL) (hS : s.Since vm0 k0) (hk : k0 ≤ h.size) (hC : CHr Z EL s.vm s.heap vm0 h) {pc : Nat} {Ls : Array Slot} {z : Int32} {t : FieldType} {rest : List Value} (hret : meth.sig.returnType = some t) (ht : t = .boolean ∨ t = .byte ∨ t = .char ∨ t = .short)
    (hlk : meth.locks = false) (hd : decode c.code pc = .ok (.ireturn, 1)) (eT : T.heap = h) (hQ : Q (some (.int (nar t z))) h locs) (hc : cells ≤ ck) (hs : slots ≤ sk) :
    OGo p e below (OEndW Z EL s Q ck sk) T (mkF m pc Ls (.int z :: rest)) :=
  own_endW X hZ hEL hS hk hC eT (fun q => by rw [hret] at q; cases q) hlk hQ hc hs fun fs hr => retN X hx hret ht hd hr
theorem own_retAW (X : Stand p l e R (s.setVm vm0) m args below meth c T locs cells slots) (hx : p.tables.exec = Jvm.exec) (hZ : Z.Warmed39 vm0) (hEL : EW Z a0 EL) (hS : s.Since vm0 k0) (hk : k0 ≤ h.size) (hC : CHr Z EL s.vm s.heap vm0 h) {pc : Nat} {Ls : Array Slot} {w : Value} {t : FieldType} {rest : List Value} (hret : meth.sig.returnType = some t) (ht : t.isReference = true) (hw : w.isRef = true)
    (hlk : meth.locks = false) (hd : decode c.code pc = .ok (.areturn, 1)) (eT : T.heap = h) (hQ : Q (some w) h locs) (hc : cells ≤ ck) (hs : slots ≤ sk) :
    OGo p e below (OEndW Z EL s Q ck sk) T (mkF m pc Ls (w :: rest)) :=
  own_endW X hZ hEL hS hk hC eT (fun q => by rw [hret] at q; cases q) hlk hQ hc hs fun fs hr => retOut X hx hret (own_nar_ref hw ht) (Or.inr (Or.inr (Or.inr (Or.inr ⟨rfl, ht, hw⟩)))) hd hr
theorem own_retVW (X : Stand p l e R (s.setVm vm0) m args below meth c T locs cells slots) (hx : p.tables.exec = Jvm.exec) (hZ : Z.Warmed39 vm0) (hEL : EW Z a0 EL) (hS : s.Since vm0 k0) (hk : k0 ≤ h.size) (hC : CHr Z EL s.vm s.heap vm0 h) {pc : Nat} {Ls : Array Slot} (hret : meth.sig.returnType = none)
    (hlk : meth.locks = false) (hd : decode c.code pc = .ok (.return_, 1)) (eT : T.heap = h) (hQ : Q none h locs) (hc : cells ≤ ck) (hs : slots ≤ sk) :
    OGo p e below (OEndW Z EL s Q ck sk) T (mkF m pc Ls []) :=
  own_endW X hZ hEL hS hk hC eT (fun _ => rfl) hlk hQ hc hs fun fs hr => X.returnOut hx hret hd hr
variable {y : MethodName} {bytes : ByteArray} {maxL : Nat} {ret : Option FieldType} {rm : Room} {as' : Array Value}
/-- what a walk knows behind a callee that may have interned -/
def OBackW (p : Program) (l : Launch) (e : Env) (R : Room) (s : State) (m : MethodId) (args : Array Value) (below : List Frame) (meth : Method) (c : Code) (Z : State) (EL : List (String × Nat)) (own : String) (Q : Option Value → Heap → List Loc → Prop) (locs : List Loc) (cells slots : Nat) (v : Option Value) (T' : State) (L : List Loc) : Prop :=
  Stand p l e R (s.setVm T'.vm) m args below meth c T' (locs ++ L) cells slots ∧ Q v T'.heap L ∧ s.Since T'.vm T'.heap.size ∧ Z.Warmed39 T'.vm ∧ T'.vm.findClass own = some m.cls ∧ CHr Z EL s.vm s.heap T'.vm T'.heap
theorem own_callSW (X : Stand p l e R (s.setVm vm0) m args below meth c T locs cells slots) (hx : p.tables.exec = Jvm.exec) (hZ : Z.Warmed39 vm0) (hEL : EW Z a0 EL) (hS : s.Since vm0 k0) (hk : k0 ≤ h.size) (hC : CHr Z EL s.vm s.heap vm0 h) {own : String} {index W : Nat} (hown : vm0.findClass own = some m.cls) (eT : T.heap = h)
    (hM : OMetW l y bytes maxL ret [] rm Z EL as' h Q)
    (w1 : (Cond.methodLink own index y).before a0 Z = true) (w2 : (Cond.static y).before a0 Z = true) (w3 : (Cond.initialized y.cls).before a0 Z = true) (w4 : (Cond.code y bytes maxL ret).before a0 Z = true)
    (hy : y.cls ≠ "java/lang/invoke/MethodHandle" ∧ y.cls ≠ "java/lang/invoke/VarHandle") (hf : rm.frames + 1 ≤ R.frames) (hl : W + (maxL + 11) + rm.locals ≤ R.locals)
    {g : JFrame} (hg : g.method = m) (hsize : g.locals.size = c.maxLocals) {argsL rest : List Value} (has : argsL.toArray = as') (hlen : ∀ sig, parseMethodDescriptor y.desc = some sig → argsL.length = sig.parameters.length)
    (hstack : g.stack = argsL.reverse ++ rest) (hW : 2 * g.monitorRoom + (rest.map fun v => v.category).sum ≤ W) (hdg : decode c.code g.pc = .ok (.invokestatic index, 3))
    (hc : cells + rm.cells ≤ R.cells) (hs : slots + rm.slots ≤ R.slots)
    (k : ∀ (v : Option Value) (T' : State) (L : List Loc), OBackW p l e R s m args below meth c Z EL own Q locs (cells + rm.cells) (slots + rm.slots) v T' L → OGo p e below P T' { g with pc := g.pc + 3, stack := v.toList ++ rest }) :
    OGo p e below P T g := by
  have hZ' : Z.Warmed39 (s.setVm vm0).vm := hZ
  have hown' : (s.setVm vm0).vm.findClass own = some m.cls := hown
  obtain ⟨v, vm₁, ⟨T', L', k', n'⟩, -, X', h2, hgr, ⟨Lc, hQ, e1, e2, e3, hC'⟩, st⟩ := callSS X hx (y := y) hown' (mvT hZ' w1) (mvT hZ' w2) (mvT hZ' w3) (mvT hZ' w4) hy (backOfSH (W := W) hM hZ w4 w3 hf hl hEL hC.1) hg hsize hlen hstack hW hdg (fun _ _ => ⟨has, eT, hc, hs⟩)
  dsimp only [Pt.U, Pt.locs, Pt.cells, Pt.slots] at X' e1 e2 e3 st hQ h2 hgr hC'
  subst e1 e2 e3
  obtain ⟨Y, hS', hZ2, ho2⟩ := rebS hS (by rw [← eT] at hk; exact hk) X' h2 hgr hZ' hown'
  exact own_via (fun _ kk => st.trans kk) (k v T' Lc ⟨Y, hQ, hS', hZ2, ho2, hC.trans hC'⟩)
theorem own_initW (X : Stand p l e R (s.setVm vm0) m args below meth c T locs cells slots) (hx : p.tables.exec = Jvm.exec) (hZ : Z.Warmed39 vm0) (hEL : EW Z a0 EL) (hS : s.Since vm0 k0) (hk : k0 ≤ h.size) (hC : CHr Z EL s.vm s.heap vm0 h) {own : String} {index W : Nat} (hown : vm0.findClass own = some m.cls) (eT : T.heap = h)
    (hM : OMetW l y bytes maxL none [] rm Z EL as' h Q) {b : Addr} (hy1 : y.name = "<init>")
    (w1 : (Cond.methodLink own index y).before a0 Z = true) (w2 : (Cond.instanceMethod y).before a0 Z = true) (w3 : (Cond.code y bytes maxL none).before a0 Z = true) (w4 : (Cond.initialized y.cls).before a0 Z = true)
    (hy : y.cls ≠ "java/lang/invoke/MethodHandle" ∧ y.cls ≠ "java/lang/invoke/VarHandle") (hf : rm.frames + 1 ≤ R.frames) (hl : W + (maxL + 11) + rm.locals ≤ R.locals)
    {g : JFrame} (hg : g.method = m) (hsize : g.locals.size = c.maxLocals) {argsL rest : List Value} (has : (.ref b :: argsL).toArray = as') (hlen : ∀ sig, parseMethodDescriptor y.desc = some sig → argsL.length = sig.parameters.length)
    (hstack : g.stack = argsL.reverse ++ .ref b :: rest) (hW : 2 * g.monitorRoom + (rest.map fun v => v.category).sum ≤ W) (hdg : decode c.code g.pc = .ok (.invokespecial index, 3))
    (hc : cells + rm.cells ≤ R.cells) (hs : slots + rm.slots ≤ R.slots)
    (k : ∀ (v : Option Value) (T' : State) (L : List Loc), OBackW p l e R s m args below meth c Z EL own Q locs (cells + rm.cells) (slots + rm.slots) v T' L → OGo p e below P T' { g with pc := g.pc + 3, stack := v.toList ++ rest }) :
    OGo p e below P T g := by
  have hZ' : Z.Warmed39 (s.setVm vm0).vm := hZ
  have hown' : (s.setVm vm0).vm.findClass own = some m.cls := hown
  obtain ⟨v, vm₁, ⟨T', L', k', n'⟩, -, X', h2, hgr, ⟨Lc, hQ, e1, e2, e3, hC'⟩, st⟩ := X.specialBackS hx (y := y) hy1 hown' (mvT hZ' w1) (mvT hZ' w2) (mvT hZ' w3) hy (backOfSH (W := W) hM hZ w3 w4 hf hl hEL hC.1) hg hsize (Steps.refl _) hlen hstack hW hdg (fun _ _ => ⟨has, eT, hc, hs⟩)
  dsimp only [Pt.U, Pt.locs, Pt.cells, Pt.slots] at X' e1 e2 e3 st hQ h2 hgr hC'
  subst e1 e2 e3
  obtain ⟨Y, hS', hZ2, ho2⟩ := rebS hS (by rw [← eT] at hk; exact hk) X' h2 hgr hZ' hown'
  exact own_via (fun _ kk => st.trans kk) (k v T' Lc ⟨Y, hQ, hS', hZ2, ho2, hC.trans hC'⟩)
/-- a String whose value isn't laid yet is no constant of EL -/
theorem own_safe_null {a : Addr} (hal : Z.vm.Alike vm0) (E : Exa Z h a "java/lang/String") (F : Fld Z h a "java/lang/String" "value" "[B" .null) : Safe Z EL vm0 h a := fun B => by
  obtain ⟨pp, -, u, a', -, q, -, G, rfl | rfl⟩ := B
  · obtain ⟨cell, cf, k, i, f, h1, h2, h3, h4, h5, h6, h7⟩ := F
    have ha := G.ha
    cases (show h[q.sa]? = some q.sC from ha).symm.trans h1
    obtain ⟨cS, ⟨⟨s1, s2, s3, ⟨cv, kv, iv, s4, s4'⟩, s5, s6, s7, s8, -⟩, -, -⟩, -⟩ := G
    obtain ⟨kv', z4⟩ := ff_back (U := Wst Z vm0 h) hal s4
    cases z4.symm.trans h2
    rw [s8] at h7
    cases h7
  · obtain ⟨cell, k, e1, e2, e3, -, -⟩ := E
    cases (show h[q.sd]? = some q.SA from G.hd).symm.trans e1
    obtain ⟨cS, -, -, f, -⟩ := G
    have f' : vm0.findClass "[B" = some q.SA.cls := f
    rw [hal.findClass] at f'
    obtain ⟨k1, q1, q2⟩ := Vm.findClass_spec f'
    obtain ⟨k2, q3, q4⟩ := Vm.findClass_spec e2
    cases q1.symm.trans q3
    have := q2.symm.trans q4
    revert this
    decide
theorem own_safe_nil {x : Addr} : Safe Z [] vm0 h x := fun B => by
  obtain ⟨_, hp, -⟩ := B
  cases hp
theorem own_chv_nil : CHv Z [] vm0 h := fun _ hp => by cases hp
end OwnW
section OwnThr
open Jvm.Lib.Cold Jvm.Bundle Jvm.LibCode.Throwable
/-- the bundle of Throwable's parts, as the library's own, where `lays` of suppressedExceptions is known of a subclass alone -/
theorem own_thr {args : Array Value} {s : State} {pl : Platform} (howns : pl.frameOwnsMonitors = true) (hfin : pl.finalization = false) (hpl : pl.magicAccessors = ({} : Platform).magicAccessors)
    (h : ∀ c ∈ throwableAtoms, c ≠ .lays "java/lang/Throwable" "java/lang/Throwable" "suppressedExceptions" "Ljava/util/List;" → c.before args s = true)
    (hP : (Cond.lays "com/example/dequeue/dequeue/RefusedException" "java/lang/Throwable" "suppressedExceptions" "Ljava/util/List;").before args s = true) (hQ : (Cond.lays "com/example/dequeue/dequeue/RefusedException" "java/lang/Throwable" "stackTrace" "[Ljava/lang/StackTraceElement;").before args s = true) :
    ∃ (T : ThrowableC) (Z : Init0T), T.Links pl s ∧ Z.Laid T.toThrowableT ∧ Ties T Z s := by
  have a : ∀ c, c ∈ throwableAtoms → c ≠ .lays "java/lang/Throwable" "java/lang/Throwable" "suppressedExceptions" "Ljava/util/List;" → c.holds args s none s [] = true := fun c hc hn => h c hc hn
  obtain ⟨⟨c, i0⟩, meth0, hn0, hm0, hnat0, hcode0, hlocks0, hsig0⟩ := Cond.native_spec (a (.native tFill0) (by simp [throwableAtoms]) (by simp))
  have hc : s.vm.findClass tN = some c := findClass_of_methodNamed hn0
  obtain ⟨k, hk, hname⟩ := Vm.findClass_spec hc
  have hboot := Vm.findClass_boot hc hk
  have hinit := Cond.initialized_spec hc hk (a (.initialized tN) (by simp [throwableAtoms]) (by simp))
  obtain ⟨_, k1, _, _, hk1, _, _, hord, _, hni⟩ := Cond.superclass_spec hc (a (.superclass tN "java/lang/Object") (by simp [throwableAtoms]) (by simp))
  cases hk.symm.trans hk1
  obtain ⟨iF, methF, hnF, hmF, hatF, hstF, habF, -, -⟩ := Cond.ownMethod (x := tFill) hc hk (a (.instanceMethod tFill) (by simp [throwableAtoms]) (by simp))
  obtain ⟨methF', cF, hmF', hcF, hbF, hlF, hrF, hlkF, -, hsigF⟩ := Cond.codeSync_spec hnF (a (.codeSync tFill Fill.code 1 (some (.object tN))) (by simp [throwableAtoms]) (by simp))
  cases hmF.symm.trans hmF'
  obtain ⟨i0', meth0', hn0', hm0', hat0, hst0, hab0, hnm0, hds0⟩ := Cond.ownMethod (x := tFill0) hc hk (a (.instanceMethod tFill0) (by simp [throwableAtoms]) (by simp))
  have e3 : i0 = i0' := by have := Option.some.inj (hn0.symm.trans hn0'); simpa using this
  subst e3
  cases hm0.symm.trans hm0'
  obtain ⟨iZ, methZ, hnZ, hmZ, hatZ, -, -, -, -⟩ := Cond.ownMethod (x := tInit0) hc hk (a (.instanceMethod tInit0) (by simp [throwableAtoms]) (by simp))
  obtain ⟨methZ', cZ, hmZ', hcZ, hbZ, hlZ, -, hlkZ, -, -⟩ := Cond.code_spec hnZ (a (.code tInit0 Init0.code 1 none) (by simp [throwableAtoms]) (by simp))
  cases hmZ.symm.trans hmZ'
  obtain ⟨mO, methO, hnO, hmO, hstO, habO⟩ := Cond.instanceMethod_spec (a (.instanceMethod oInit) (by simp [throwableAtoms]) (by simp))
  obtain ⟨methO', cO, hmO', hcO, hbO, hlO, -, hlkO, -, hsigO⟩ := Cond.code_spec hnO (a (.code oInit ⟨#[0xb1]⟩ 1 none) (by simp [throwableAtoms]) (by simp))
  cases hmO.symm.trans hmO'
  obtain ⟨kO, hkO, hnameO⟩ := Vm.findClass_spec (findClass_of_methodNamed hnO)
  obtain ⟨hnmO, hdsO⟩ := name_of_methodNamed hnO hmO
  obtain ⟨ci1, n1, cf, hl1, hr1, hcf, hp1⟩ := Cond.linkedMethod hc hk hnO (a (.methodLink tN 1 oInit) (by simp [throwableAtoms]) (by simp)) pl hpl
  obtain ⟨ci27, n27, cf', hl27, hr27, hcf', hp27⟩ := Cond.linkedMethod hc hk hnF (a (.methodLink tN 27 tFill) (by simp [throwableAtoms]) (by simp)) pl hpl
  cases hcf.symm.trans hcf'
  obtain ⟨ci202, n202, cf', hl202, hr202, hcf', hp202⟩ := Cond.linkedMethod hc hk hn0 (a (.methodLink tN 202 tFill0) (by simp [throwableAtoms]) (by simp)) pl hpl
  cases hcf.symm.trans hcf'
  obtain ⟨ci7, i7, f7, hk7, hg7, ha7, hs7, hf7, hn7, ht7, hff7⟩ := Cond.ownField (t := .object tN) hc hk (by decide +kernel) (a (.fieldLink tN 7 tN "cause" "Ljava/lang/Throwable;") (by simp [throwableAtoms]) (by simp)) (a (.lays tN tN "cause" "Ljava/lang/Throwable;") (by simp [throwableAtoms]) (by simp)) pl hpl
  obtain ⟨ci17, i17, f17, hk17, hg17, ha17, hs17, hf17, hn17, ht17, hff17⟩ := Cond.ownField (t := .array (.object "java/lang/StackTraceElement")) hc hk (by decide +kernel) (a (.fieldLink tN 17 tN "stackTrace" steD) (by simp [throwableAtoms]) (by simp)) (a (.lays tN tN "stackTrace" steD) (by simp [throwableAtoms]) (by simp)) pl hpl
  obtain ⟨ci24, i24, f24, hk24, hg24, ha24, hs24, hf24, hn24, ht24, hff24⟩ := Cond.ownField (t := .object "java/util/List") hc hk (by decide +kernel) (a (.fieldLink tN 24 tN "suppressedExceptions" listD) (by simp [throwableAtoms]) (by simp)) hP pl hpl
  obtain ⟨ci13, i13, f13, aS, cellS, hk13, hg13, ha13, hs13, -, -, hsta, hcellS, hissS, -, -, hff13⟩ := Cond.ownStatic (t := .array (.object "java/lang/StackTraceElement")) hc hk (by decide +kernel) (a (.fieldLink tN 13 tN "UNASSIGNED_STACK" steD) (by simp [throwableAtoms]) (by simp)) (a (.laysStatic tN "UNASSIGNED_STACK" steD) (by simp [throwableAtoms]) (by simp)) pl hpl
  obtain ⟨ci20, i20, f20, _, _, hk20, hg20, ha20, hs20, -, -, -, -, -, -, -, hff20⟩ := Cond.ownStatic (t := .object "java/util/List") hc hk (by decide +kernel) (a (.fieldLink tN 20 tN "SUPPRESSED_SENTINEL" listD) (by simp [throwableAtoms]) (by simp)) (a (.laysStatic tN "SUPPRESSED_SENTINEL" listD) (by simp [throwableAtoms]) (by simp)) pl hpl
  obtain ⟨_, _, cM, kM, iM, fM, _, _, hffM, hsM, hfM, _⟩ := Cond.lays_spec (a (.lays tN tN "detailMessage" "Ljava/lang/String;") (by simp [throwableAtoms]) (by simp))
  cases hc.symm.trans (Cond.lays_declared (a (.lays tN tN "detailMessage" "Ljava/lang/String;") (by simp [throwableAtoms]) (by simp)) hffM)
  cases hk.symm.trans (State.fieldFound?_spec hffM).1
  have htM := (State.fieldFound?_type hffM (t := .object "java/lang/String") (by decide +kernel)).2
  have hapart : f17.slot ≠ f24.slot := by
    obtain ⟨cR, kR, _, _, _, _, hcR, hkR, -⟩ := Cond.lays_spec hP
    obtain ⟨-, dS, hdS, hdnS⟩ := Cond.laysAt hcR hkR hff17 hQ
    obtain ⟨-, dP, hdP, hdnP⟩ := Cond.laysAt hcR hkR hff24 hP
    exact Cond.laysApart hdS hdP hdnS hdnP (by rw [hn17, hn24]; decide)
  have pF : methF.sig.parameters = [] := by
    have : (parseMethodDescriptor tFill.desc).map (·.parameters) = some [] := by decide +kernel
    rw [hsigF] at this; simpa using this
  have p0 : meth0.sig.parameters = [.int] := by
    have : (parseMethodDescriptor tFill0.desc).map (·.parameters) = some [.int] := by decide +kernel
    rw [hsig0] at this; simpa using this
  have pO : methO.sig.parameters.length = 0 := by
    have : (parseMethodDescriptor oInit.desc).map (·.parameters) = some [] := by decide +kernel
    rw [hsigO] at this
    have : methO.sig.parameters = [] := by simpa using this
    rw [this]; rfl
  refine ⟨{ cT := c, kT := k, cO := c, aS := aS, fillIdx := iF, fill0Idx := i0, initSIdx := iZ, obj := mO, kObj := kO, methFill := methF, methFill0 := meth0, methInitS := methZ, methObj := methO, codeFill := cF, codeInitS := cZ, codeObj := cO,
              fBack := f7, fDepth := f7, fStack := f17, fCause := f7, fSupp := f24, fMsg := fM, fUnassigned := f13, fSentinel := f20, cfT := cf, ci1 := ci1, n1 := n1, ci27 := ci27, n27 := n27, ci202 := ci202, n202 := n202,
              ci7 := ci7, i7 := i7, ci13 := ci13, i13 := i13, ci17 := ci17, i17 := i17, ci20 := ci20, i20 := i20, ci24 := ci24, i24 := i24 }, { idx := iZ, meth := methZ, code := cZ }, ?_, ⟨hatZ, hcZ, hbZ, hlZ, hlkZ⟩,
    ⟨hc, hnF, hn0, hnZ, hlO, hord, hff7, hff17, hff24, hff13, hff20, ⟨iM, hffM⟩, htM, hn7, hn17, hn24, ht7, ht17, ht24, cellS, hcellS, hissS⟩⟩
  exact { owns := howns, noFinalization := hfin, cls := hk, name := hname, boot := hboot, notInterface := hni, initialized := hinit, statics := hsta,
          fillAt := hatF, fillCode := hcF, fillBytes := hbF, fillLocals := hlF, fillLocks := hlkF, fillStatic := hstF, fillAbstract := habF, fillReturns := hrF, fillParams := pF,
          fill0At := hat0, fill0Name := hnm0, fill0Desc := hds0, fill0Params := p0, fill0Static := hst0, fill0Native := hnat0, fill0Code := hcode0, fill0Locks := hlocks0, fill0Abstract := hab0,
          stackInstance := hs17, stackNotFinal := hf17, unassignedStatic := hs13,
          objClass := hkO, objClassName := hnameO, objMethod := hmO, objName := hnmO, objStatic := hstO, objAbstract := habO, objFound := by rw [hdsO]; exact lookupSpecial_of_named hnO hmO hstO, objParams := pO,
          objCode := hcO, objBytes := hbO, objLocks := hlkO, causeInstance := hs7, causeNotFinal := hf7, sentinelStatic := hs20, suppInstance := hs24, suppNotFinal := hf24, msgInstance := hsM, msgNotFinal := hfM, stackApartSupp := hapart,
          file := hcf, mlink1 := hl1, mright1 := hr1, pool1 := hp1, mlink27 := hl27, mright27 := hr27, pool27 := hp27, mlink202 := hl202, mright202 := hr202, pool202 := hp202,
          link7 := hk7, right7 := hg7, at7 := ha7, link13 := hk13, right13 := hg13, at13 := ha13, link17 := hk17, right17 := hg17, at17 := ha17, link20 := hk20, right20 := hg20, at20 := ha20, link24 := hk24, right24 := hg24, at24 := ha24 }
end OwnThr
/-! the same for walks that make an exception besides (a stack trace is filled in): the frames below are known -/
section OwnK
variable {p : Program} {l : Launch} {e : Env} {R : Room} {s : State} {m : MethodId} {args : Array Value} {below : List Frame} {meth : Method} {c : Code} {T : State} {locs : List Loc} {cells slots : Nat} {Z : State} {a0 : Array Value} {h h' : Heap} {EL : List (String × Nat)} {vm0 : Vm} {k0 : Nat}
def OMetK (l : Launch) (y : MethodName) (bytes : ByteArray) (maxL : Nat) (ret : Option FieldType) (ws : List Jvm.Cond) (rm : Room) (Z : State) (EL : List (String × Nat)) (as' : Array Value) (h : Heap) (Q : Option Value → Heap → List Loc → Prop) : Prop :=
  MetFree l y (head1 (Jvm.Cond.code y bytes maxL ret :: ws) rm) (fun a U => a = as' ∧ Z.Warmed39 U.vm ∧ U.heap = h ∧ CHv Z EL U.vm h) (fun _ _ bl s _ => s.vm.MethodsKnown ∧ s.vm.FramesKnown bl)
    (fun _ U o U' => ∃ v L, o = .returned v ∧ Q v U'.heap L ∧ CHr Z EL U.vm U.heap U'.vm U'.heap ∧ ReturnedEndW U o U' L rm.cells rm.slots)
theorem own_bodyK {y : MethodName} {bytes : ByteArray} {maxL : Nat} {ret : Option FieldType} {ws : List Jvm.Cond} {rm : Room} {as' : Array Value} {Q : Option Value → Heap → List Loc → Prop} (hpl : plainFor y = true)
    (body : ∀ (p : Program) (e : Env) (s : State) (m : MethodId) (below : List Frame) (meth : Method) (c : Code) (T : State), Stand p l e rm (s.setVm s.vm) m as' below meth c T [] 0 0 → p.tables.exec = Jvm.exec → Z.Warmed39 s.vm → c.code = bytes → c.maxLocals = maxL →
      s.vm.findClass y.cls = some m.cls → meth.name = y.name → meth.sig.returnType = ret → meth.locks = false → T.heap = h → s.Since s.vm h.size → CHr Z EL s.vm s.heap s.vm h → s.vm.MethodsKnown → s.vm.FramesKnown below → s.heap = h → OGo p e below (OEndW Z EL s Q rm.cells rm.slots) T (entryFrame m as' maxL)) :
    OMetK l y bytes maxL ret ws rm Z EL as' h Q := by
  refine MetFree.of_bodySF hpl hisR ?_
  intro p e s m args below meth c s₁ Bd hml0 hP hK
  obtain ⟨rfl, hZ, hh, hC⟩ := hP
  have X : Stand p l e rm (s.setVm s.vm) m args below meth c s₁ [] 0 0 := Stand.of_body Bd
  refine body p e s m below meth c s₁ X Bd.exec hZ Bd.bytes hml0 (findClass_of_methodNamed Bd.named) (name_of_methodNamed Bd.named Bd.method).1 Bd.returns Bd.notSynchronized (by rw [← hh, Bd.state]; rfl) ((State.WarmedH.refl s).since _) ?_ hK.1 hK.2 hh
  rw [hh]
  exact CHr.refl hC
variable {P : State → Outcome → Prop} {Q : Option Value → Heap → List Loc → Prop}
variable {y : MethodName} {bytes : ByteArray} {maxL : Nat} {ret : Option FieldType} {rm : Room} {as' : Array Value}
theorem own_callSK (X : Stand p l e R (s.setVm vm0) m args below meth c T locs cells slots) (hx : p.tables.exec = Jvm.exec) (hZ : Z.Warmed39 vm0) (hEL : EW Z a0 EL) (hS : s.Since vm0 k0) (hk : k0 ≤ h.size) (hC : CHr Z EL s.vm s.heap vm0 h) (hTK : s.vm.MethodsKnown) (hBL : s.vm.FramesKnown below) {own : String} {index W : Nat} (hown : vm0.findClass own = some m.cls) (eT : T.heap = h)
    (hM : OMetK l y bytes maxL ret [] rm Z EL as' h Q)
    (w1 : (Cond.methodLink own index y).before a0 Z = true) (w2 : (Cond.static y).before a0 Z = true) (w3 : (Cond.initialized y.cls).before a0 Z = true) (w4 : (Cond.code y bytes maxL ret).before a0 Z = true)
    (hy : y.cls ≠ "java/lang/invoke/MethodHandle" ∧ y.cls ≠ "java/lang/invoke/VarHandle") (hf : rm.frames + 1 ≤ R.frames) (hl : W + (maxL + 11) + rm.locals ≤ R.locals)
    {g : JFrame} (hg : g.method = m) (hsize : g.locals.size = c.maxLocals) {argsL rest : List Value} (has : argsL.toArray = as') (hlen : ∀ sig, parseMethodDescriptor y.desc = some sig → argsL.length = sig.parameters.length)
    (hstack : g.stack = argsL.reverse ++ rest) (hW : 2 * g.monitorRoom + (rest.map fun v => v.category).sum ≤ W) (hdg : decode c.code g.pc = .ok (.invokestatic index, 3))
    (hc : cells + rm.cells ≤ R.cells) (hs : slots + rm.slots ≤ R.slots)
    (k : ∀ (v : Option Value) (T' : State) (L : List Loc), OBackW p l e R s m args below meth c Z EL own Q locs (cells + rm.cells) (slots + rm.slots) v T' L → OGo p e below P T' { g with pc := g.pc + 3, stack := v.toList ++ rest }) :
    OGo p e below P T g := by
  have hZ' : Z.Warmed39 (s.setVm vm0).vm := hZ
  have hown' : (s.setVm vm0).vm.findClass own = some m.cls := hown
  obtain ⟨v, vm₁, ⟨T', L', k', n'⟩, -, X', h2, hgr, ⟨Lc, hQ, e1, e2, e3, hC'⟩, st⟩ := callSS X hx (y := y) hown' (mvT hZ' w1) (mvT hZ' w2) (mvT hZ' w3) (mvT hZ' w4) hy (backOfSKH (W := W) hM hZ w4 w3 hf hl hEL hC.1 (hTK.alikeC hS.1.alike) (hBL.alikeC hS.1.alike)) hg hsize hlen hstack hW hdg (fun _ _ => ⟨has, eT, hc, hs⟩)
  dsimp only [Pt.U, Pt.locs, Pt.cells, Pt.slots] at X' e1 e2 e3 st hQ h2 hgr hC'
  subst e1 e2 e3
  obtain ⟨Y, hS', hZ2, ho2⟩ := rebS hS (by rw [← eT] at hk; exact hk) X' h2 hgr hZ' hown'
  exact own_via (fun _ kk => st.trans kk) (k v T' Lc ⟨Y, hQ, hS', hZ2, ho2, hC.trans hC'⟩)
theorem own_initK (X : Stand p l e R (s.setVm vm0) m args below meth c T locs cells slots) (hx : p.tables.exec = Jvm.exec) (hZ : Z.Warmed39 vm0) (hEL : EW Z a0 EL) (hS : s.Since vm0 k0) (hk : k0 ≤ h.size) (hC : CHr Z EL s.vm s.heap vm0 h) (hTK : s.vm.MethodsKnown) (hBL : s.vm.FramesKnown below) {own : String} {index W : Nat} (hown : vm0.findClass own = some m.cls) (eT : T.heap = h)
    (hM : OMetK l y bytes maxL none [] rm Z EL as' h Q) {b : Addr} (hy1 : y.name = "<init>")
    (w1 : (Cond.methodLink own index y).before a0 Z = true) (w2 : (Cond.instanceMethod y).before a0 Z = true) (w3 : (Cond.code y bytes maxL none).before a0 Z = true) (w4 : (Cond.initialized y.cls).before a0 Z = true)
    (hy : y.cls ≠ "java/lang/invoke/MethodHandle" ∧ y.cls ≠ "java/lang/invoke/VarHandle") (hf : rm.frames + 1 ≤ R.frames) (hl : W + (maxL + 11) + rm.locals ≤ R.locals)
    {g : JFrame} (hg : g.method = m) (hsize : g.locals.size = c.maxLocals) {argsL rest : List Value} (has : (.ref b :: argsL).toArray = as') (hlen : ∀ sig, parseMethodDescriptor y.desc = some sig → argsL.length = sig.parameters.length)
    (hstack : g.stack = argsL.reverse ++ .ref b :: rest) (hW : 2 * g.monitorRoom + (rest.map fun v => v.category).sum ≤ W) (hdg : decode c.code g.pc = .ok (.invokespecial index, 3))
    (hc : cells + rm.cells ≤ R.cells) (hs : slots + rm.slots ≤ R.slots)
    (k : ∀ (v : Option Value) (T' : State) (L : List Loc), OBackW p l e R s m args below meth c Z EL own Q locs (cells + rm.cells) (slots + rm.slots) v T' L → OGo p e below P T' { g with pc := g.pc + 3, stack := v.toList ++ rest }) :
    OGo p e below P T g := by
  have hZ' : Z.Warmed39 (s.setVm vm0).vm := hZ
  have hown' : (s.setVm vm0).vm.findClass own = some m.cls := hown
  obtain ⟨v, vm₁, ⟨T', L', k', n'⟩, -, X', h2, hgr, ⟨Lc, hQ, e1, e2, e3, hC'⟩, st⟩ := X.specialBackS hx (y := y) hy1 hown' (mvT hZ' w1) (mvT hZ' w2) (mvT hZ' w3) hy (backOfSKH (W := W) hM hZ w3 w4 hf hl hEL hC.1 (hTK.alikeC hS.1.alike) (hBL.alikeC hS.1.alike)) hg hsize (Steps.refl _) hlen hstack hW hdg (fun _ _ => ⟨has, eT, hc, hs⟩)
  dsimp only [Pt.U, Pt.locs, Pt.cells, Pt.slots] at X' e1 e2 e3 st hQ h2 hgr hC'
  subst e1 e2 e3
  obtain ⟨Y, hS', hZ2, ho2⟩ := rebS hS (by rw [← eT] at hk; exact hk) X' h2 hgr hZ' hown'
  exact own_via (fun _ kk => st.trans kk) (k v T' Lc ⟨Y, hQ, hS', hZ2, ho2, hC.trans hC'⟩)
theorem own_fld_ex {b : Addr} {ws : List Addr} {O n d : String} {w : Value} (K : Keep h h' ws) (F : Fld Z h b O n d w) : ∃ w', Fld Z h' b O n d w' := by
  obtain ⟨cell, cf, k, i, f, h1, h2, h3, h4, h5, h6, h7⟩ := F
  obtain ⟨c', q1, q2, q3, q4⟩ := K.2.2 _ _ h1
  have hlt : f.slot < c'.slots.size := by rw [q4]; exact (Array.getElem?_eq_some_iff.mp h7).1
  exact ⟨_, c', cf, k, i, f, q1, h2, h3, by rw [q3]; exact h4, by rw [q3]; exact h5, by rw [q2]; exact h6, Array.getElem?_eq_getElem hlt⟩
section OwnFill
open Jvm.Lib.Cold Jvm.Bundle Jvm.LibCode.Throwable
theorem own_fill {n : Nat} (wi : (Cond.instantiable "com/example/dequeue/dequeue/RefusedException" n).before a0 Z = true) (X : Stand p l e R (s.setVm vm0) m args below meth c T locs cells slots) (hx : p.tables.exec = Jvm.exec) (hst : l.stackTraces = true) (hZ : Z.Warmed39 vm0) (hw : ∀ d ∈ tables_1, d.before a0 Z = true) (hS : s.Since vm0 k0) (hTK : s.vm.MethodsKnown) (hBL : s.vm.FramesKnown below) (HT0 : ThS Z s.heap) {W : Nat}
    (hown : vm0.findClass "java/lang/Throwable" = some m.cls) (eT : T.heap = h) {a : Addr} {u : Value} (E : Exa Z h a "com/example/dequeue/dequeue/RefusedException") (N : Unt h a) (Fs : Fld Z h a "java/lang/Throwable" "stackTrace" "[Ljava/lang/StackTraceElement;" u) (Fb : Fld Z h a "java/lang/Throwable" "backtrace" "Ljava/lang/Object;" .null)
    (SU : Sta Z h "java/lang/Throwable" "UNASSIGNED_STACK" "[Ljava/lang/StackTraceElement;" u) (hu : u.isRef = true) (hun : u ≠ .null)
    {g : JFrame} (hg : g.method = m) (hsize : g.locals.size = c.maxLocals) {rest : List Value} (hs : g.stack = .ref a :: rest) (hd : decode c.code g.pc = .ok (.invokevirtual 27, 3))
    (hf : 3 ≤ R.frames) (hW : 2 * g.monitorRoom + (rest.map fun v => v.category).sum ≤ W) (hlo : W + 42 ≤ R.locals) (hc : cells + 1 ≤ R.cells) (hsl : slots + 2752 ≤ R.slots) :
    ∃ (T' : State) (h' : Heap) (L : List Loc), Stand p l e R (s.setVm vm0) m args below meth c T' (locs ++ L) (cells + 1) (slots + 2752) ∧ T'.heap = h' ∧ (∀ y ∈ L, y.base = a) ∧ Keep h h' [a] ∧ Exa Z h' a "com/example/dequeue/dequeue/RefusedException" ∧
      ∀ target, Steps p.tables e below (T'.setTop { g with pc := g.pc + 3, stack := .ref a :: rest }) target → Steps p.tables e below (T.setTop g) target := by
  have hZ' : Z.Warmed39 (s.setVm vm0).vm := hZ
  have hown' : (s.setVm vm0).vm.findClass "java/lang/Throwable" = some m.cls := hown
  have HT0' : ThS Z (s.setVm vm0).heap := HT0
  have W1 : ∀ d ∈ Jvm.Free.Exc.excAtoms "com/example/dequeue/dequeue/RefusedException", d ≠ .lays "java/lang/Throwable" "java/lang/Throwable" "suppressedExceptions" "Ljava/util/List;" → d.before args (s.setVm vm0) = true := fun d hd hn =>
    mvX HT0' hZ' (List.all_eq_true.mp exc_ok d hd) (hw d ((by decide +kernel : ∀ d ∈ Jvm.Free.Exc.excAtoms "com/example/dequeue/dequeue/RefusedException", d ≠ .lays "java/lang/Throwable" "java/lang/Throwable" "suppressedExceptions" "Ljava/util/List;" → d ∈ tables_1) d hd hn))
  have hal : Z.vm.Alike (s.setVm vm0).vm := hZ'.alike
  have hTK' : (s.setVm vm0).vm.MethodsKnown := hTK.alikeC hS.1.alike
  have hBL' : (s.setVm vm0).vm.FramesKnown below := hBL.alikeC hS.1.alike
  generalize s.setVm vm0 = s' at X hZ' hown' W1 hal hTK' hBL'
  have htr : e.platform.stackTraces = true := by rw [X.admits.platform]; exact hst
  have howns : e.platform.frameOwnsMonitors = true := by rw [X.admits.platform]
  have hfin : e.platform.finalization = false := by rw [X.admits.platform]
  have hpl : e.platform.magicAccessors = ({} : Platform).magicAccessors := by rw [X.admits.platform]
  obtain ⟨T0, Z0, L, -, Y⟩ := own_thr (args := args) howns hfin hpl (fun x hx hn => W1 x (by simp [Jvm.Free.Exc.excAtoms, hx]) hn) (W1 _ (by decide +kernel) (by simp)) (W1 _ (by decide +kernel) (by simp))
  have E0 := E
  obtain ⟨cell, kc, h1, h2, h3, -, h5⟩ := E
  obtain ⟨c2, u1, hvm, hmon⟩ := N
  cases h1.symm.trans u1
  obtain ⟨c4, k2, i1, i2, i3, -⟩ := Cond.instantiable_spec wi
  cases h2.symm.trans i1
  cases h3.symm.trans i2
  have hfound : s'.vm.findClass "com/example/dequeue/dequeue/RefusedException" = some cell.cls := by rw [hal.findClass]; exact h2
  obtain ⟨kX, hk, ek⟩ := hal.2.2 _ _ h3
  have hord : kX.kind = .ordinary := by rw [ek]; exact i3
  have hsz : cell.slots.size = kX.instanceTypes.size := by rw [ek]; exact h5 i3
  have hsel0 : selectMethod e.platform s'.vm cell.cls T0.fill0 = .method T0.fill0 := by
    obtain ⟨c2, r2, m2, q1, q2, q3, q4, -⟩ := Cond.selects_spec (W1 (.selects "com/example/dequeue/dequeue/RefusedException" tFill0 tFill0) (by simp [Jvm.Free.Exc.excAtoms]) (by simp))
    cases Option.some.inj (q1.symm.trans hfound)
    cases Option.some.inj (q2.symm.trans (State.methodFound?_of_named Y.fill0 (by decide)))
    cases Option.some.inj (q3.symm.trans Y.fill0)
    rw [Launch.admits_selectMethod X.admits]; exact q4
  obtain ⟨ci198, i198, fB, hk198, hg198, ha198, hsB, -, hnB, htB, hffB⟩ := Cond.ownField (t := .object "java/lang/Object") Y.found L.cls (by decide +kernel) (W1 (.fieldLink tN 198 tN "backtrace" "Ljava/lang/Object;") (by simp [Jvm.Free.Exc.excAtoms]) (by simp)) (W1 (.lays tN tN "backtrace" "Ljava/lang/Object;") (by simp [Jvm.Free.Exc.excAtoms]) (by simp)) e.platform hpl
  obtain ⟨cD1, kD1, cD, kD, iD, fD, -, -, hffD, hstD, -, -, -, -⟩ := Cond.lays_spec (W1 (.lays "com/example/dequeue/dequeue/RefusedException" tN "depth" "I") (by simp [Jvm.Free.Exc.excAtoms]) (by simp))
  cases Option.some.inj ((Cond.lays_declared (W1 (.lays "com/example/dequeue/dequeue/RefusedException" tN "depth" "I") (by simp [Jvm.Free.Exc.excAtoms]) (by simp)) hffD).symm.trans Y.found)
  obtain ⟨hkD, hatD⟩ := State.fieldFound?_spec hffD
  cases Option.some.inj (hkD.symm.trans L.cls)
  obtain ⟨hnD, htD⟩ := State.fieldFound?_type hffD (t := .int) (by decide +kernel)
  have hfb := Cond.soleField_find Y.found L.cls (W1 (.soleField tN "backtrace") (by simp [Jvm.Free.Exc.excAtoms]) (by simp)) ha198 hnB hsB
  have hfd := Cond.soleField_find Y.found L.cls (W1 (.soleField tN "depth") (by simp [Jvm.Free.Exc.excAtoms]) (by simp)) hatD hnD hstD
  obtain ⟨comp, cO, kO, -, -, hkO, hkindO, hO⟩ := Cond.arrayOver_spec (W1 (.arrayOver (.object "java/lang/Object")) (by simp [Jvm.Free.Exc.excAtoms]) (by simp))
  obtain ⟨tyS, -⟩ := Cond.laysAt hfound hk Y.stack (W1 (.lays "com/example/dequeue/dequeue/RefusedException" tN "stackTrace" steD) (by simp [Jvm.Free.Exc.excAtoms]) (by simp))
  obtain ⟨tyB, -⟩ := Cond.laysAt hfound hk hffB (W1 (.lays "com/example/dequeue/dequeue/RefusedException" tN "backtrace" "Ljava/lang/Object;") (by simp [Jvm.Free.Exc.excAtoms]) (by simp))
  obtain ⟨tyD, -⟩ := Cond.laysAt hfound hk hffD (W1 (.lays "com/example/dequeue/dequeue/RefusedException" tN "depth" "I") (by simp [Jvm.Free.Exc.excAtoms]) (by simp))
  have tk : ∀ {f : Field} {v : Value}, kX.instanceTypes[f.slot]? = some f.type → fits f.type v = true → Jvm.Takes s' cell f v := fun {f v} h1 h2 => by
    obtain ⟨q1, q2⟩ := Takes.of_laid (v := v) hk hord h1 h2
    exact ⟨by rw [hsz]; simpa using q1, by rw [hvm]; exact q2⟩
  have hvS : cell.slots[T0.fStack.slot]? = some u := by
    obtain ⟨c3, cf, kf, i, f, b1, b2, -, -, -, -, b7⟩ := Fs
    cases h1.symm.trans b1
    obtain ⟨k4, q3, -⟩ := State.fieldFound?_setVm (s := Z) hal b2
    have q4 : s'.fieldFound? tN "stackTrace" steD = some (cf, k4, i, f) := q3
    cases Option.some.inj (q4.symm.trans Y.stack)
    exact b7
  have hvB : cell.slots[fB.slot]? = some .null := by
    obtain ⟨c3, cf, kf, i, f, b1, b2, -, -, -, -, b7⟩ := Fb
    cases h1.symm.trans b1
    obtain ⟨k4, q3, -⟩ := State.fieldFound?_setVm (s := Z) hal b2
    have q4 : s'.fieldFound? tN "backtrace" "Ljava/lang/Object;" = some (cf, k4, i, f) := q3
    cases Option.some.inj (q4.symm.trans hffB)
    exact b7
  obtain ⟨cfU, iU, kU, fU, stU, cellS, g1, g2, g3, g4, g5, g6, g7⟩ := SU
  obtain ⟨k5, q5, ek5⟩ := State.fieldFound?_setVm (s := Z) hal g1
  have q6 : s'.fieldFound? tN "UNASSIGNED_STACK" steD = some (cfU, k5, iU, fU) := q5
  cases Option.some.inj (q6.symm.trans Y.unassigned)
  have hsta : T0.aS = stU := by
    have r1 : T0.kT.statics = some stU := by rw [ek5]; exact g4
    exact Option.some.inj (L.statics.symm.trans r1)
  have hneS : T0.aS ≠ a := fun q => by
    rw [← hsta, q] at g5
    cases h1.symm.trans g5
    rw [hvm] at g6
    cases g6
  have hknS : cellS.vm ≠ .unknown := fun q => by rw [q] at g6; cases g6
  have hcS : h[T0.aS]? = some cellS := by rw [hsta]; exact g5
  have hSE := W1 (.selects "com/example/dequeue/dequeue/RefusedException" tFill tFill) (by simp [Jvm.Free.Exc.excAtoms]) (by simp)
  have fS' : fits T0.fStack.type u = true := by rw [Y.stackType]; exact fits_refV_array _ ⟨u, hu⟩
  obtain ⟨v6, vm6, ⟨T6, L6, c6, n6⟩, hW6, X6, ⟨hv6, vm', lines, hlines, hW', hU, hL6, hc6, hn6'⟩, come⟩ := X.virtualBack hx (own := tN) (C := "com/example/dequeue/dequeue/RefusedException") (index := 27) (y := tFill) (z := tFill) hown' (W1 (.methodLink tN 27 tFill) (by simp [Jvm.Free.Exc.excAtoms, throwableAtoms]) (by simp)) (W1 (.declares tFill) (by simp [Jvm.Free.Exc.excAtoms]) (by simp)) (notFace_of_selects hSE) hSE (W1 (.instanceMethod tFill) (by simp [Jvm.Free.Exc.excAtoms, throwableAtoms]) (by simp)) (by decide)
    (Jvm.Free.Str.fillPays (l := l) (W := W) hx htr T0 L Y.fill (u0 := ⟨u, hu⟩) hun (self := a) (cell := cell) (cellS := cellS) (fun _ => by rw [hvm]; simp) (by rw [hvm]; simp) (by rw [hmon]) (by rw [hmon]) hvS hsel0 hneS hknS g7 (tk tyS fS')
      ⟨{ ci198 := ci198, i198 := i198, fBack := fB }, ⟨hk198, hg198, ha198, hsB⟩, hvB⟩ hTK' hBL' Y.found hO hkO hkindO hfb hfd
      (fun x => tk tyB (by rw [htB]; rfl)) (fun x => tk tyD (by rw [htD]; rfl)) (by omega) hlo)
    (b := a) (cB := cell.cls) hfound ⟨cell, by rw [eT]; exact h1, rfl, by rw [hvm]; rfl⟩ hg hsize (Steps.refl _) (argsL := []) (rest := rest)
    (fun sig h => by rw [show parseMethodDescriptor tFill.desc = some ⟨[], some (.object tN)⟩ from by decide +kernel] at h; rw [← Option.some.inj h]; rfl) hs hW hd
    (fun vmx hWx => ⟨rfl, hc, hsl, by show T.heap[a]? = some cell; rw [eT]; exact h1, by show T.heap[T0.aS]? = some cellS; rw [eT]; exact hcS⟩)
  dsimp only [Pt.U, Pt.locs, Pt.cells, Pt.slots] at X6 hU hL6 hc6 hn6' come
  subst hv6 hL6 hc6 hn6'
  have hlt : a < T.heap.size := by rw [eT]; exact (Array.getElem?_eq_some_iff.mp h1).1
  have hoth : ∀ (y : Addr) (cy : Cell), y ≠ a → h[y]? = some cy → T6.heap[y]? = some cy := fun y cy hy q => by
    rw [hU, State.heap_setCell_other (Ne.symm hy), State.heap_pushCell_of_lt _ _ (by show y < T.heap.size; rw [eT]; exact (Array.getElem?_eq_some_iff.mp q).1)]
    show T.heap[y]? = some cy
    rw [eT]; exact q
  have hself := heapAt_setCell_self (Jvm.Free.Str.filledOn T0.toThrowableT fB fD cell ⟨u, hu⟩ T.heap.size lines.length.toInt32) (show a < (((T.setVm vm6).setVm vm').pushCell (traceHolder cO lines)).heap.size by show a < (T.heap.push _).size; rw [Array.size_push]; exact Nat.lt_succ_of_lt hlt)
  have K : Keep h T6.heap [a] := by
    refine ⟨?_, fun y cy q hn => hoth y cy (fun e => hn (by rw [e]; exact List.mem_singleton.mpr rfl)) q, fun y cy q => ?_⟩
    · rw [hU, ← eT]
      show T.heap.size ≤ ((T.heap.push _).setIfInBounds a _).size
      rw [Array.size_setIfInBounds, Array.size_push]
      exact Nat.le_succ _
    · by_cases hy : y = a
      · subst hy
        cases h1.symm.trans q
        exact ⟨Jvm.Free.Str.filledOn T0.toThrowableT fB fD cell ⟨u, hu⟩ T.heap.size lines.length.toInt32, by rw [hU]; exact hself, rfl, rfl, by simp [Jvm.Free.Str.filledOn, Cell.setSlot]⟩
      · exact ⟨cy, hoth y cy hy q, rfl, rfl, rfl⟩
  refine ⟨T6, _, _, X6.more (Nat.le_refl _) (Nat.add_le_add_left (traceHolder_size_le cO hlines) _), rfl, fun y hy => ?_, K, E0.keep K, fun _ kk => come.trans kk⟩
  simp only [List.mem_cons, List.not_mem_nil, or_false] at hy
  rcases hy with rfl | rfl | rfl <;> rfl
end OwnFill
end OwnK
section OwnSb
variable {p : Program} {l : Launch} {e : Env} {R : Room} {s : State} {m : MethodId} {args : Array Value} {below : List Frame} {meth : Method} {c : Code} {T : State} {locs : List Loc} {cells slots : Nat} {Z : State} {a0 : Array Value} {h h' : Heap} {P : State → Outcome → Prop} {Q : Option Value → Heap → List Loc → Prop}
/-- a byte[] of z places, whatever they hold -/
def OBy (Z : State) (h : Heap) (a : Addr) (z : Int32) : Prop := ∃ (k : ClassId) (vs : List Value), Arv Z h a k .byte z vs (.int (0 : Int32)) ∧ z.toNatClampNeg ≤ vs.length
theorem OBy.ext {a : Addr} {z : Int32} (F : OBy Z h a z) (E : Ext h h') : OBy Z h' a z := by obtain ⟨k, vs, V, q⟩ := F; exact ⟨k, vs, V.ext E, q⟩
theorem OBy.other {a b : Addr} {z : Int32} {sl : Nat} {v : Value} (F : OBy Z h a z) (W : Wr h h' b sl v) (n : a ≠ b) : OBy Z h' a z := by obtain ⟨k, vs, V, q⟩ := F; exact ⟨k, vs, V.other W n, q⟩
theorem OBy.keep {a : Addr} {z : Int32} {ws : List Addr} (F : OBy Z h a z) (K : Keep h h' ws) (n : a ∉ ws) : OBy Z h' a z := by obtain ⟨k, vs, V, q⟩ := F; exact ⟨k, vs, V.keep K n, q⟩
theorem OBy.lt {a : Addr} {z : Int32} (F : OBy Z h a z) : a < h.size := by obtain ⟨k, vs, V, q⟩ := F; exact V.lt
theorem own_nsB {a : Addr} {z : Int32} (F : OBy Z h a z) : ∀ c : Cell, h[a]? = some c → c.vm.isStatics = false := by obtain ⟨k, vs, V, q⟩ := F; exact own_nsA V
theorem own_neB {a b : Addr} {C : String} {z : Int32} {n : Nat} (E : Exa Z h a C) (F : OBy Z h b z) (w : (Cond.instantiable C n).before a0 Z = true) : a ≠ b := by obtain ⟨k, vs, V, q⟩ := F; exact Exa.neArv E V w
theorem own_by_new {a : Addr} {k : ClassId} {z : Int32} (A : Arr Z h a (newA k .byte z) .byte) (q : ¬ z < 0) : OBy Z h a z := by
  obtain ⟨c, A', h1, h2, h3, h4, h5⟩ := Arv.new A q
  have e : ∀ i, (List.replicate z.toNatClampNeg (Value.int 0)).getD i (.int 0) = ([] : List Value).getD i (defaultValue .byte) := fun i => by
    simp only [List.getD_eq_getElem?_getD, List.getElem?_replicate]
    by_cases q : i < z.toNatClampNeg <;> simp [q, defaultValue]
  exact ⟨k, List.replicate z.toNatClampNeg (.int 0), ⟨c, A', h1, h2, h3, fun i hi => by rw [e]; exact h4 i hi, fun i hi => by rw [e]; exact h5 i hi⟩, by simp⟩
theorem own_by_arv {a : Addr} {k : ClassId} {z : Int32} {vs : List Value} (V : Arv Z h a k .byte z vs (.int (0 : Int32))) (q : z.toNatClampNeg ≤ vs.length) : OBy Z h a z := ⟨k, vs, V, q⟩
theorem own_shl0 (x : Int32) : x <<< ((0 : Int32) &&& 31) = x := by
  have : ((0 : Int32) &&& 31) = 0 := by decide
  rw [this]
  simp
theorem own_shr0 (x : Int32) : x >>> ((0 : Int32) &&& 31) = x := by
  have : ((0 : Int32) &&& 31) = 0 := by decide
  rw [this]
  simp
theorem own_sub0 (x : Int32) : x - (0 : Int32) = x := by simp
theorem own_i0 : (0 : Int32).toInt = 0 := rfl
theorem own_i4 : (4 : Int32).toInt = 4 := rfl
theorem own_i9 : (9 : Int32).toInt = 9 := rfl
theorem own_i16 : (16 : Int32).toInt = 16 := rfl
theorem own_i34 : (34 : Int32).toInt = 34 := rfl
theorem own_b1 {q : Int32} (h0 : 0 ≤ q.toInt) (h : q.toInt ≤ 16) : ¬ ((0 : Int32) < (q - (16 : Int32))) := by
  have c1 := c_isub q 16
  have r := rng32 (q - 16)
  rw [Int32.lt_iff_toInt_lt, own_i0]
  rw [own_i16] at c1
  omega
theorem own_b2 {q : Int32} (h1 : 16 < q.toInt) (h2 : q.toInt ≤ 34) : (0 : Int32) < (q - (16 : Int32)) := by
  have c1 := c_isub q 16
  have r := rng32 (q - 16)
  rw [Int32.lt_iff_toInt_lt, own_i0]
  rw [own_i16] at c1
  omega
theorem own_b3 {q : Int32} (h1 : 16 < q.toInt) (h2 : q.toInt ≤ 34) : (q - (16 : Int32)).toInt ≤ (18 : Int32).toInt := by
  have c1 := c_isub q 16
  have r := rng32 (q - 16)
  have e : (18 : Int32).toInt = 18 := rfl
  rw [own_i16] at c1
  omega
theorem own_add {x y : Int32} (hx : 0 ≤ x.toInt) (hy : 0 ≤ y.toInt) (h : x.toInt + y.toInt ≤ 100) : (x + y).toInt = x.toInt + y.toInt := by
  have c1 := c_iadd x y
  have r := rng32 (x + y)
  omega
theorem own_anti {x y : Int32} (h : x.toInt ≤ y.toInt) (q : ¬ (x < y)) : x = y := by
  rw [Int32.lt_iff_toInt_lt] at q
  exact Int32.toInt_inj.mp (by omega)
theorem own_nlt {x : Int32} (h : 0 ≤ x.toInt) : ¬ (x < (0 : Int32)) := by rw [Int32.lt_iff_toInt_lt, own_i0]; omega
theorem own_cap {x : Int32} (h : x.toInt ≤ 34) : x.toNatClampNeg ≤ 34 := by simp only [Int32.toNatClampNeg]; omega
theorem own_nat {x : Int32} (h : ¬ x < 0) : (x.toNatClampNeg : Int) = x.toInt := by
  rw [Int32.lt_iff_toInt_lt] at h
  have : (0 : Int32).toInt = 0 := rfl
  simp only [Int32.toNatClampNeg]
  omega
/-- System.arraycopy between two byte[] -/
theorem own_cpB (X : Stand p l e R s m args below meth c T locs cells slots) (hx : p.tables.exec = Jvm.exec) (hZ : Z.Warmed39 s.vm) {own : String} {index W : Nat} (hown : s.vm.findClass own = some m.cls)
    (w1 : (Cond.methodLink own index Jvm.Stand.acN).before a0 Z = true) (w2 : (Cond.native Jvm.Stand.acN).before a0 Z = true) (w3 : (Cond.static Jvm.Stand.acN).before a0 Z = true) (w4 : (Cond.initialized "java/lang/System").before a0 Z = true) (eT : T.heap = h)
    {a b : Addr} {z z' sp dp nn : Int32} (A : OBy Z h a z) (B : OBy Z h b z') (h1 : ¬ sp < 0) (h2 : ¬ dp < 0) (h3 : ¬ nn < 0) (h4 : sp.toInt + nn.toInt ≤ z.toInt) (h5 : dp.toInt + nn.toInt ≤ z'.toInt) {n0 : Nat} (N : Fr n0 locs) (ge : n0 ≤ b)
    {g : JFrame} (hg : g.method = m) (hsize : g.locals.size = c.maxLocals) {rest : List Value} (hs : g.stack = .int nn :: .int dp :: .ref b :: .int sp :: .ref a :: rest) (hd : decode c.code g.pc = .ok (.invokestatic index, 3))
    (hf : 1 ≤ R.frames) (hW : 2 * g.monitorRoom + (rest.map fun v => v.category).sum ≤ W) (hlo : W + (nativeFrameWords "java/lang/System" "arraycopy" 5 + 11) ≤ R.locals) :
    ∃ T' h' L, Stand p l e R s m args below meth c T' L cells slots ∧ T'.heap = h' ∧ Fr n0 L ∧ Keep h h' [b] ∧ OBy Z h' b z' ∧
      ∀ target, Steps p.tables e below (T'.setTop { g with pc := g.pc + 3, stack := rest }) target → Steps p.tables e below (T.setTop g) target := by
  obtain ⟨k, vs, V, q⟩ := A
  obtain ⟨k', vd, V', q'⟩ := B
  have hz : ¬ z < 0 := by obtain ⟨cc, -, -, -, r, -⟩ := V; exact r
  have hz' : ¬ z' < 0 := by obtain ⟨cc, -, -, -, r, -⟩ := V'; exact r
  have n1 := own_nat h1
  have n2 := own_nat h2
  have n3 := own_nat h3
  have n4 := own_nat hz
  have n5 := own_nat hz'
  obtain ⟨T', h2', L, X', e', N', K, V2, st⟩ := cpA X hx hZ (a0 := a0) hown w1 w2 w3 w4 eT V V' (Or.inl ⟨rfl, rfl⟩) h1 h2 h3 (by omega) (by omega) rfl (by omega) N ge hg hsize hs hd hf hW hlo
  refine ⟨T', h2', L, X', e', N', K, ⟨k', _, V2, ?_⟩, st⟩
  simp only [List.length_append, List.length_take, List.length_drop, List.length_map, List.length_range]
  omega
/-- the clone of a byte[] -/
theorem own_clB (X : Stand p l e R s m args below meth c T locs cells slots) (hx : p.tables.exec = Jvm.exec) (hZ : Z.Warmed39 s.vm) {own : String} {index W : Nat} (hown : s.vm.findClass own = some m.cls)
    (w1 : (Cond.methodLink own index ⟨"[B", "clone", "()Ljava/lang/Object;"⟩).before a0 Z = true) (w2 : (Cond.sameMethod "[B" "java/lang/Object" "clone" "()Ljava/lang/Object;").before a0 Z = true) (w3 : (Cond.native ⟨"java/lang/Object", "clone", "()Ljava/lang/Object;"⟩).before a0 Z = true)
    (w4 : (Cond.instanceMethod ⟨"java/lang/Object", "clone", "()Ljava/lang/Object;"⟩).before a0 Z = true) (w5 : (Cond.selects "[B" ⟨"[B", "clone", "()Ljava/lang/Object;"⟩ ⟨"java/lang/Object", "clone", "()Ljava/lang/Object;"⟩).before a0 Z = true) (w6 : (Cond.castable "[B" "java/lang/Cloneable").before a0 Z = true)
    (eT : T.heap = h) {a : Addr} {z : Int32} (B : OBy Z h a z) (E : Exa Z h a "[B") (hcap : z.toNatClampNeg ≤ 34) {g : JFrame} (hg : g.method = m) (hsize : g.locals.size = c.maxLocals) {rest : List Value} (hst : g.stack = .ref a :: rest) (hd : decode c.code g.pc = .ok (.invokevirtual index, 3))
    (hf : 1 ≤ R.frames) (hW : 2 * g.monitorRoom + (rest.map fun v => v.category).sum ≤ W) (hl : W + 14 ≤ R.locals) (hc : cells + 1 ≤ R.cells) (hsl : slots + 34 ≤ R.slots) :
    ∃ T' h', Stand p l e R s m args below meth c T' locs (cells + 1) (slots + 34) ∧ T'.heap = h' ∧ Ext h h' ∧ OBy Z h' h.size z ∧ Exa Z h' h.size "[B" ∧
      ∀ target, Steps p.tables e below (T'.setTop { g with pc := g.pc + 3, stack := .ref h.size :: rest }) target → Steps p.tables e below (T.setTop g) target := by
  obtain ⟨k, vs, ⟨cl, A, q1, S, q3, H, G⟩, q⟩ := B
  have FC : FitC Z cl := fitC_of A fun i hi v hv => by rw [H i hi] at hv; cases hv; exact G i hi
  obtain ⟨T', h', X', e', ex, A', E', st⟩ := cloneA X hx hZ hown w1 w2 w3 w4 w5 w6 eT A E FC hg hsize hst hd hf hW hl (by rw [S]; exact hcap) hc hsl
  exact ⟨T', h', X', e', ex, ⟨k, vs, ⟨cloneOf cl, A', q1, S, q3, H, G⟩, q⟩, E', st⟩
theorem own_callSB (X : Stand p l e R s m args below meth c T locs cells slots) (hx : p.tables.exec = Jvm.exec) (hZ : Z.Warmed39 s.vm) {own : String} {index W : Nat} {y : MethodName} {bytes : ByteArray} {maxL : Nat} {ret : Option FieldType} (hown : s.vm.findClass own = some m.cls)
    {Pre : Pt → Array Value → Prop} {Post : Pt → Array Value → Option Value → Pt → Prop} (hK : Back l R p e below s args y 3 W Pre Post)
    (w1 : (Cond.methodLink own index y).before a0 Z = true) (w2 : (Cond.static y).before a0 Z = true) (w3 : (Cond.initialized y.cls).before a0 Z = true) (w4 : (Cond.code y bytes maxL ret).before a0 Z = true)
    (hy : y.cls ≠ "java/lang/invoke/MethodHandle" ∧ y.cls ≠ "java/lang/invoke/VarHandle")
    {g : JFrame} (hg : g.method = m) (hsize : g.locals.size = c.maxLocals) {argsL rest : List Value} (hlen : ∀ sig, parseMethodDescriptor y.desc = some sig → argsL.length = sig.parameters.length)
    (hstack : g.stack = argsL.reverse ++ rest) (hW : 2 * g.monitorRoom + (rest.map fun v => v.category).sum ≤ W) (hdg : decode c.code g.pc = .ok (.invokestatic index, 3))
    (hpre : ∀ vm₁, s.WarmedH vm₁ → Pre ⟨T.setVm vm₁, locs, cells, slots⟩ argsL.toArray)
    (k : ∀ (v : Option Value) (vm₁ : Vm) (B : Pt), s.WarmedH vm₁ → Stand p l e R s m args below meth c B.U B.locs B.cells B.slots → Post ⟨T.setVm vm₁, locs, cells, slots⟩ argsL.toArray v B → OGo p e below P B.U { g with pc := g.pc + 3, stack := v.toList ++ rest }) :
    OGo p e below P T g := by
  obtain ⟨v, vm₁, B, hW1, X', hP, st⟩ := Jvm.LawKit.callS X hx (y := y) hown (mvT hZ w1) (mvT hZ w2) (mvT hZ w3) (mvT hZ w4) hy hK hg hsize hlen hstack hW hdg hpre
  exact own_via st (k v vm₁ B hW1 X' hP)
theorem own_ssz (x : Int64) : 1 ≤ (Jvm.Free.SBG.strSizeOfL x).toInt ∧ (Jvm.Free.SBG.strSizeOfL x).toInt ≤ 21 := by
  obtain ⟨n, hn, h⟩ := Jvm.Free.SBG.negL_of x
  rw [Jvm.Free.SBG.strSizeOfL_eq hn h]
  have q := Jvm.Free.SBG.digitsL_pos n
  have q2 : Jvm.Free.SBG.GetCharsL.sgnL x ≤ 1 := by unfold Jvm.Free.SBG.GetCharsL.sgnL; split <;> omega
  rw [Int32.toInt_ofNat_of_lt (by omega)]
  omega
/-- Long.stringSize -/
theorem own_strSize (X : Stand p l e R s m args below meth c T locs cells slots) (hx : p.tables.exec = Jvm.exec) (hZ : Z.Warmed39 s.vm) {own : String} {index W : Nat} (hown : s.vm.findClass own = some m.cls) (eT : T.heap = h)
    (w1 : (Cond.methodLink own index Jvm.Free.SBG.StrSizeL.ssN).before a0 Z = true) (w2 : (Cond.static Jvm.Free.SBG.StrSizeL.ssN).before a0 Z = true) (w3 : (Cond.initialized "java/lang/Long").before a0 Z = true) (w4 : (Cond.code Jvm.Free.SBG.StrSizeL.ssN Jvm.Free.SBG.StrSizeL.ssB 6 (some .int)).before a0 Z = true)
    (w5 : (Cond.constantLong "java/lang/Long" 140 (-10)).before a0 Z = true) (w6 : (Cond.constantLong "java/lang/Long" 53 10).before a0 Z = true)
    (hf : 2 ≤ R.frames) (hl : W + 57 ≤ R.locals) (hc : cells ≤ R.cells) (hs : slots ≤ R.slots)
    {g : JFrame} (hg : g.method = m) (hsize : g.locals.size = c.maxLocals) {x : Int64} {rest : List Value}
    (hstack : g.stack = .long x :: rest) (hW : 2 * g.monitorRoom + (rest.map fun v => v.category).sum ≤ W) (hdg : decode c.code g.pc = .ok (.invokestatic index, 3))
    (k : ∀ (T' : State), Stand p l e R s m args below meth c T' locs cells slots → T'.heap = h → OGo p e below P T' { g with pc := g.pc + 3, stack := .int (Jvm.Free.SBG.strSizeOfL x) :: rest }) :
    OGo p e below P T g := by
  have htab : Jvm.Free.SBG.StrSizeL.tab.before args s = true := by
    simp only [Jvm.Free.SBG.StrSizeL.tab, Cond.before_and, Bool.and_eq_true]
    exact ⟨mvT hZ w4, mvT hZ w5, mvT hZ w6⟩
  refine own_callSB X hx hZ hown (Jvm.Free.SBG.StrSizeL.pays (W := W) hf hl htab (mvT hZ w3)) w1 w2 w3 w4 (by decide) hg hsize (argsL := [.long x]) (rest := rest) (fun sig hsig => ?_) hstack hW hdg (fun _ _ => ⟨hc, hs, x, rfl⟩) (fun v vm₁ B hW1 X' hP => ?_)
  · have q : parseMethodDescriptor "(J)I" = some sig := hsig
    rw [(by decide +kernel : parseMethodDescriptor "(J)I" = some ⟨[.long], some .int⟩)] at q
    cases q; rfl
  · obtain ⟨hp, hv⟩ := hP
    obtain rfl := hv x rfl
    obtain ⟨T', L', k', n'⟩ := B
    dsimp only [Pt.U, Pt.locs, Pt.cells, Pt.slots, Jvm.Free.pureAt] at hp X' ⊢
    obtain ⟨p1, rfl, rfl, rfl⟩ := hp
    exact k T' X' (p1.trans eT)
theorem own_declares {y : MethodName} {bytes : ByteArray} {maxL : Nat} {ret : Option FieldType} (wi : (Cond.instanceMethod y).before a0 Z = true) (wc : (Cond.code y bytes maxL ret).before a0 Z = true) : (Cond.declares y).before a0 Z = true := by
  obtain ⟨mk, methM, hnamed, hmethM, hst, hab⟩ := Cond.instanceMethod_spec wi
  obtain ⟨methM', cM, hmethM', -, -, -, -, -, -, hsig⟩ := Cond.code_spec hnamed wc
  cases hmethM.symm.trans hmethM'
  simp [Cond.before, Cond.holds, Cond.value, hnamed, hmethM, hst, hsig]
theorem own_nfSib {y z : MethodName} {U : State} {bytes : ByteArray} {maxL : Nat} {ret : Option FieldType} {aa : Array Value} (hz : NotFace U z) (q : y.cls = z.cls) (wc : (Cond.code z bytes maxL ret).before aa U = true) : NotFace U y := fun r0 hr => by
  obtain ⟨mz, hm⟩ := Cond.code_named wc
  obtain ⟨kr, h1, h2⟩ := hz mz hm
  have e1 := findClass_of_methodNamed hm
  have e2 := findClass_of_methodNamed hr
  rw [q, e1] at e2
  exact ⟨kr, by rw [← Option.some.inj e2]; exact h1, h2⟩
theorem own_sameSelf {y : MethodName} {bytes : ByteArray} {maxL : Nat} {ret : Option FieldType} (hn : NotFace Z y) (hq : y.cls ≠ "java/lang/invoke/MethodHandle" ∧ y.cls ≠ "java/lang/invoke/VarHandle") (wc : (Cond.code y bytes maxL ret).before a0 Z = true) : (Cond.sameMethod y.cls y.cls y.name y.desc).before a0 Z = true := by
  obtain ⟨mz, hm⟩ := Cond.code_named wc
  obtain ⟨kr, h1, h2⟩ := hn mz hm
  have e1 := findClass_of_methodNamed hm
  have e2 : Z.methodFound? y.cls y.name y.desc = some mz := State.methodFound?_of_named hm hq
  have e3 : Z.methodNamed? ⟨y.cls, y.name, y.desc⟩ = some mz := hm
  simp [Cond.before, Cond.holds, Cond.value, e1, e2, e3, h1, h2]
/-- Long.getChars into a byte[] that is newer than the start -/
theorem own_getC (X : Stand p l e R s m args below meth c T locs cells slots) (hx : p.tables.exec = Jvm.exec) (hZ : Z.Warmed39 s.vm) {own : String} {index W : Nat} (hown : s.vm.findClass own = some m.cls) (eT : T.heap = h)
    (w1 : (Cond.methodLink own index Jvm.Free.SBG.GetCharsL.gcN).before a0 Z = true) (w2 : (Cond.static Jvm.Free.SBG.GetCharsL.gcN).before a0 Z = true) (w3 : (Cond.initialized "java/lang/Long").before a0 Z = true) (w4 : (Cond.code Jvm.Free.SBG.GetCharsL.gcN Jvm.Free.SBG.GetCharsL.gcB 11 (some .int)).before a0 Z = true)
    (w5 : (Cond.fieldLink "java/lang/Long" 133 "java/lang/Integer" "DigitOnes" "[B").before a0 Z = true) (w6 : (Cond.fieldLink "java/lang/Long" 137 "java/lang/Integer" "DigitTens" "[B").before a0 Z = true) (w7 : (Cond.constantLong "java/lang/Long" 129 (-2147483648)).before a0 Z = true) (w8 : (Cond.constantLong "java/lang/Long" 131 100).before a0 Z = true)
    {st d1 d2 : Addr} {D1 D2 : Cell} (t1 : Jvm.Free.SBG.Tbl Z "DigitOnes" st d1 D1) (t2 : Jvm.Free.SBG.Tbl Z "DigitTens" st d2 D2) {n0 : Nat} (O : Old Z n0 h) {da : Addr} (ge : n0 ≤ da) {z i : Int32} (B : OBy Z h da z) {x : Int64} (hi : (Jvm.Free.SBG.strSizeOfL x).toInt ≤ i.toInt) (hz : i.toInt ≤ z.toInt)
    (N : Fr n0 locs) (hf : 2 ≤ R.frames) (hl : W + 102 ≤ R.locals) (hc : cells ≤ R.cells) (hs : slots ≤ R.slots)
    {g : JFrame} (hg : g.method = m) (hsize : g.locals.size = c.maxLocals) {rest : List Value}
    (hstack : g.stack = .ref da :: .int i :: .long x :: rest) (hW : 2 * g.monitorRoom + (rest.map fun v => v.category).sum ≤ W) (hdg : decode c.code g.pc = .ok (.invokestatic index, 3))
    (k : ∀ (v : Int32) (T' : State) (L : List Loc), Stand p l e R s m args below meth c T' L cells slots → Fr n0 L → Keep h T'.heap [da] → OBy Z T'.heap da z → OGo p e below P T' { g with pc := g.pc + 3, stack := .int v :: rest }) :
    OGo p e below P T g := by
  obtain ⟨kA, vs, ⟨cA, A, q1, q2, q3, H, G⟩, q⟩ := B
  obtain ⟨n, hn, hx2⟩ := Jvm.Free.SBG.negL_of x
  have bnd := own_ssz x
  have hsz := Jvm.Free.SBG.strSizeOfL_eq hn hx2
  have hdl := Jvm.Free.SBG.digitsL_pos n
  have hsg : Jvm.Free.SBG.GetCharsL.sgnL x ≤ 1 := by unfold Jvm.Free.SBG.GetCharsL.sgnL; split <;> omega
  have e1 : (Jvm.Free.SBG.strSizeOfL x).toInt = ((Jvm.Free.SBG.digitsL n + Jvm.Free.SBG.GetCharsL.sgnL x : Nat) : Int) := by rw [hsz]; exact Int32.toInt_ofNat_of_lt (by omega)
  have hi0 : ¬ i < 0 := by rw [Int32.lt_iff_toInt_lt]; have : (0 : Int32).toInt = 0 := rfl; omega
  have ni := own_nat hi0
  have nz := own_nat q3
  have ei : Int32.ofNat i.toNatClampNeg = i := by
    apply Int32.toInt_inj.mp
    have r := rng32 i
    rw [Int32.toInt_ofNat_of_lt (by omega)]
    exact ni
  have htab : Jvm.Free.SBG.GetCharsL.tab.before args s = true := by
    simp only [Jvm.Free.SBG.GetCharsL.tab, Cond.before_and, Bool.and_eq_true]
    exact ⟨mvT hZ w4, mvT hZ w5, mvT hZ w6, mvT hZ w7, mvT hZ w8⟩
  let gg : Jvm.Free.SBG.GetCharsL.G := ⟨x, n, i.toNatClampNeg, da, cA, st, d1, D1, d2, D2⟩
  have hlt : ∀ {y : Addr} {cy : Cell}, Z.heap[y]? = some cy → da ≠ y := fun {y cy} hy q => by
    have := (Array.getElem?_eq_some_iff.mp hy).1
    exact Nat.lt_irrefl _ (Nat.lt_of_lt_of_le (Nat.lt_of_lt_of_le this (Nat.le_of_eq O.1)) (q ▸ ge))
  have hst : ∃ cst, Z.heap[st]? = some cst := by obtain ⟨-, -, -, -, cst, -, -, -, -, hh, -⟩ := t1; exact ⟨cst, hh⟩
  have hd1 : Z.heap[d1]? = some D1 := by obtain ⟨-, -, -, -, -, -, -, -, -, -, -, -, hh, -⟩ := t1; exact hh
  have hd2 : Z.heap[d2]? = some D2 := by obtain ⟨-, -, -, -, -, -, -, -, -, -, -, -, hh, -⟩ := t2; exact hh
  have hPg : ∀ U : State, Z.vm.Alike U.vm → U.heap = h → Jvm.Free.SBG.GetCharsL.P gg #[.long x, .int i, .ref da] U := fun U hal hh => by
    refine ⟨by show _ = #[Value.long x, .int (Int32.ofNat i.toNatClampNeg), .ref da]; rw [ei], by rw [hh]; exact A.1, State.isArrayOf_alike hal A.2.1, A.2.2, ?_, ?_, ?_, hn, hx2, t1.move hal (fun cc hc => by rw [hh]; exact O.2.2 _ _ hc) (by rw [hh]; exact O.2.2 _ _ hd1), t2.move hal (fun cc hc => by rw [hh]; exact O.2.2 _ _ hc) (by rw [hh]; exact O.2.2 _ _ hd2), hlt hst.choose_spec, hlt hd1, hlt hd2⟩
    · show cA.slots.size < 2 ^ 31
      have r := rng32 z
      omega
    · show i.toNatClampNeg ≤ cA.slots.size
      omega
    · show Jvm.Free.SBG.digitsL n + Jvm.Free.SBG.GetCharsL.sgnL x ≤ i.toNatClampNeg
      omega
  refine own_callSB X hx hZ hown (Jvm.Free.SBG.GetCharsL.pays gg W htab (mvT hZ w3) hf hl) w1 w2 w3 w4 (by decide) hg hsize (argsL := [.long x, .int i, .ref da]) (rest := rest) (fun sig hsig => ?_) hstack hW hdg (fun vm₁ hv => ⟨by show #[Value.long x, .int i, .ref da] = #[Value.long x, .int (Int32.ofNat i.toNatClampNeg), .ref da]; rw [ei], hc, hs, hPg (T.setVm vm₁) (hZ.alike.trans hv.alike) eT⟩) (fun v vm₁ Bp hW1 X' hP => ?_)
  · have q : parseMethodDescriptor "(JI[B)I" = some sig := hsig
    rw [(by decide +kernel : parseMethodDescriptor "(JI[B)I" = some ⟨[.long, .int, .array .byte], some .int⟩)] at q
    cases q; rfl
  · obtain ⟨rfl, hout, hcc, hss, hsize', hkeep, L, hL, hLb⟩ := hP
    obtain ⟨T', L', k', n'⟩ := Bp
    dsimp only [Pt.U, Pt.locs, Pt.cells, Pt.slots] at hout hcc hss hsize' hkeep hL X' ⊢
    subst hcc hss hL
    have hby : ∀ j, j < gg.A.slots.size → fits .byte (gg.A.slots.getD j .null) = true := fun j hj => by
      have := H j hj
      have e2 : gg.A.slots.getD j .null = vs.getD j (.int 0) := by
        show cA.slots.getD j .null = _
        rw [Array.getD_eq_getD_getElem?, this]; rfl
      rw [e2]
      exact G j hj
    obtain ⟨f1, f2, f3, f4, -⟩ := Jvm.Free.SBG.GetCharsL.outCell_facts gg hn (by show Jvm.Free.SBG.digitsL n + Jvm.Free.SBG.GetCharsL.sgnL x ≤ i.toNatClampNeg; omega) hby
    have hh0 : (T.setVm vm₁).heap = h := eT
    rw [hh0] at hkeep hsize'
    refine k _ T' _ X' (N.app fun y hy => by rw [hLb y hy]; exact ge) ⟨Nat.le_of_eq hsize'.symm, fun y cy hy hn => hkeep y cy (fun q => hn (by rw [q]; exact List.mem_singleton.mpr rfl)) hy, fun y cy hy => ?_⟩ ?_
    · by_cases hyd : y = da
      · subst hyd
        cases A.1.symm.trans hy
        exact ⟨_, hout, f1, f2, f3⟩
      · exact ⟨cy, hkeep y cy hyd hy, rfl, rfl, rfl⟩
    · refine ⟨kA, (Jvm.Free.SBG.GetCharsL.outCell gg).slots.toList, ⟨_, ⟨hout, ?_, ?_⟩, by rw [f1]; exact q1, by rw [f3]; exact q2, q3, fun j hj => ?_, fun j hj => ?_⟩, ?_⟩
      · obtain ⟨a1, kA', a2, comp, a3⟩ := A.2.1
        exact ⟨by rw [f2]; exact a1, kA', by rw [f1]; exact a2, comp, a3⟩
      · rw [f2]; exact A.2.2
      · simp [List.getD_eq_getElem?_getD, hj]
      · have := f4 j hj
        simpa [List.getD_eq_getElem?_getD, hj, Array.getD_eq_getD_getElem?] using this
      · rw [Array.length_toList, f3]
        exact Nat.le_of_eq q2.symm
end OwnSb
theorem d37_0 : decode jdk_29_method_65_code 0 = .ok (.iload_n 0, 1) := by decide +kernel
theorem d37_1 : decode jdk_29_method_65_code 1 = .ok (.iload_n 1, 1) := by decide +kernel
theorem d37_2 : decode jdk_29_method_65_code 2 = .ok (.if_icmp .lt 7, 3) := by decide +kernel
theorem d37_5 : decode jdk_29_method_65_code 5 = .ok (.iload_n 0, 1) := by decide +kernel
theorem d37_6 : decode jdk_29_method_65_code 6 = .ok (.goto 4, 3) := by decide +kernel
theorem d37_9 : decode jdk_29_method_65_code 9 = .ok (.iload_n 1, 1) := by decide +kernel
theorem d37_10 : decode jdk_29_method_65_code 10 = .ok (.ireturn, 1) := by decide +kernel
set_option maxRecDepth 65536 in
set_option maxHeartbeats 40000000 in
theorem rmMax (l : Launch) (Z : State) (a0 : Array Value) (hw : ∀ d ∈ tables_1, d.before a0 Z = true) (ws : List Jvm.Cond) (p1 p2 : Int32) (h0 : Heap) (n0 : Nat) (Z0 : n0 ≤ h0.size) (hle : p1.toInt ≤ p2.toInt) :
    OMet l (⟨"java/lang/Math", "max", "(II)I"⟩ : MethodName) jdk_29_method_65_code 2 (some .int) ws ({ frames := 0, cells := 0, slots := 0, locals := 0 } : Room) Z #[(.int p1), (.int p2)] h0 (fun v h L => v = some (.int p2) ∧ L = [] ∧ h = h0) := by
  refine own_body (Jvm.Free.JP.mathPlain rfl (by decide +kernel)) ?_
  intro p e s m below meth cdx T0 X0 hx hZ hby hml hown hnm hret hlk e0
  have N0 := Fr.nil n0
  refine own_entry (g' := (mkF m 0 #[.val (.int p1), .val (.int p2)] [])) (by first | rfl | (simp [entryFrame, mkF, argsToLocals, Value.category, maxLocals]; done)) ?_
  refine own_step (g' := (mkF m 1 #[.val (.int p1), .val (.int p2)] [(.int p1)])) (fun _ kont => XS.iloadN X0.here hx rfl (hb hby d37_0) rfl kont) ?_
  refine own_step (g' := (mkF m 2 #[.val (.int p1), .val (.int p2)] [(.int p2), (.int p1)])) (fun _ kont => XS.iloadN X0.here hx rfl (hb hby d37_1) rfl kont) ?_
  by_cases hc1 : p1 < p2
  · refine own_step (g' := (mkF m 9 #[.val (.int p1), .val (.int p2)] [])) (fun _ kont => XS.icmpYes X0.here hx rfl (pc0 := 2) (pc' := 9) rfl (hb hby d37_2) rfl (tlt hc1).1 (by decide) (by decide) kont) ?_
    refine own_step (g' := (mkF m 10 #[.val (.int p1), .val (.int p2)] [(.int p2)])) (fun _ kont => XS.iloadN X0.here hx rfl (hb hby d37_9) rfl kont) ?_
    exact own_retI X0 hx hret hlk (hb hby d37_10) e0 (by exact ⟨rfl, rfl, rfl⟩) (by decide) (by decide)
  · refine own_step (g' := (mkF m 5 #[.val (.int p1), .val (.int p2)] [])) (fun _ kont => XS.icmpNo X0.here hx rfl (hb hby d37_2) rfl (flt hc1).1 kont) ?_
    refine own_step (g' := (mkF m 6 #[.val (.int p1), .val (.int p2)] [(.int p1)])) (fun _ kont => XS.iloadN X0.here hx rfl (hb hby d37_5) rfl kont) ?_
    refine own_step (g' := (mkF m 10 #[.val (.int p1), .val (.int p2)] [(.int p1)])) (fun _ kont => XS.goto X0.here hx rfl (pc0 := 6) (pc' := 10) rfl (hb hby d37_6) (by decide) (by decide) kont) ?_
    exact own_retI X0 hx hret hlk (hb hby d37_10) e0 (by exact ⟨by rw [own_anti hle hc1], rfl, rfl⟩) (by decide) (by decide)
theorem d27_0 : decode jdk_29_method_69_code 0 = .ok (.iload_n 0, 1) := by decide +kernel
theorem d27_1 : decode jdk_29_method_69_code 1 = .ok (.iload_n 1, 1) := by decide +kernel
theorem d27_2 : decode jdk_29_method_69_code 2 = .ok (.if_icmp .gt 7, 3) := by decide +kernel
theorem d27_5 : decode jdk_29_method_69_code 5 = .ok (.iload_n 0, 1) := by decide +kernel
theorem d27_6 : decode jdk_29_method_69_code 6 = .ok (.goto 4, 3) := by decide +kernel
theorem d27_9 : decode jdk_29_method_69_code 9 = .ok (.iload_n 1, 1) := by decide +kernel
theorem d27_10 : decode jdk_29_method_69_code 10 = .ok (.ireturn, 1) := by decide +kernel
set_option maxRecDepth 65536 in
set_option maxHeartbeats 40000000 in
theorem rmMinA (l : Launch) (Z : State) (a0 : Array Value) (hw : ∀ d ∈ tables_1, d.before a0 Z = true) (ws : List Jvm.Cond) (p1 p2 : Int32) (h0 : Heap) (n0 : Nat) (Z0 : n0 ≤ h0.size) (hle : p1.toInt ≤ p2.toInt) :
    OMet l (⟨"java/lang/Math", "min", "(II)I"⟩ : MethodName) jdk_29_method_69_code 2 (some .int) ws ({ frames := 0, cells := 0, slots := 0, locals := 0 } : Room) Z #[(.int p1), (.int p2)] h0 (fun v h L => v = some (.int p1) ∧ L = [] ∧ h = h0) := by
  refine own_body (Jvm.Free.JP.mathPlain rfl (by decide +kernel)) ?_
  intro p e s m below meth cdx T0 X0 hx hZ hby hml hown hnm hret hlk e0
  have N0 := Fr.nil n0
  refine own_entry (g' := (mkF m 0 #[.val (.int p1), .val (.int p2)] [])) (by first | rfl | (simp [entryFrame, mkF, argsToLocals, Value.category, maxLocals]; done)) ?_
  refine own_step (g' := (mkF m 1 #[.val (.int p1), .val (.int p2)] [(.int p1)])) (fun _ kont => XS.iloadN X0.here hx rfl (hb hby d27_0) rfl kont) ?_
  refine own_step (g' := (mkF m 2 #[.val (.int p1), .val (.int p2)] [(.int p2), (.int p1)])) (fun _ kont => XS.iloadN X0.here hx rfl (hb hby d27_1) rfl kont) ?_
  by_cases hc1 : p2 < p1
  · refine own_step (g' := (mkF m 9 #[.val (.int p1), .val (.int p2)] [])) (fun _ kont => XS.icmpYes X0.here hx rfl (pc0 := 2) (pc' := 9) rfl (hb hby d27_2) rfl (tlt hc1).2.2.1 (by decide) (by decide) kont) ?_
    refine own_step (g' := (mkF m 10 #[.val (.int p1), .val (.int p2)] [(.int p2)])) (fun _ kont => XS.iloadN X0.here hx rfl (hb hby d27_9) rfl kont) ?_
    exact own_retI X0 hx hret hlk (hb hby d27_10) e0 (by exact ⟨by rw [own_anti hle (by rw [Int32.lt_iff_toInt_lt]; have := hc1; rw [Int32.lt_iff_toInt_lt] at this; omega)], rfl, rfl⟩) (by decide) (by decide)
  · refine own_step (g' := (mkF m 5 #[.val (.int p1), .val (.int p2)] [])) (fun _ kont => XS.icmpNo X0.here hx rfl (hb hby d27_2) rfl (flt hc1).2.2.1 kont) ?_
    refine own_step (g' := (mkF m 6 #[.val (.int p1), .val (.int p2)] [(.int p1)])) (fun _ kont => XS.iloadN X0.here hx rfl (hb hby d27_5) rfl kont) ?_
    refine own_step (g' := (mkF m 10 #[.val (.int p1), .val (.int p2)] [(.int p1)])) (fun _ kont => XS.goto X0.here hx rfl (pc0 := 6) (pc' := 10) rfl (hb hby d27_6) (by decide) (by decide) kont) ?_
    exact own_retI X0 hx hret hlk (hb hby d27_10) e0 (by exact ⟨rfl, rfl, rfl⟩) (by decide) (by decide)
set_option maxRecDepth 65536 in
set_option maxHeartbeats 40000000 in
theorem rmMinB (l : Launch) (Z : State) (a0 : Array Value) (hw : ∀ d ∈ tables_1, d.before a0 Z = true) (ws : List Jvm.Cond) (p1 p2 : Int32) (h0 : Heap) (n0 : Nat) (Z0 : n0 ≤ h0.size) (hle : p2.toInt ≤ p1.toInt) :
    OMet l (⟨"java/lang/Math", "min", "(II)I"⟩ : MethodName) jdk_29_method_69_code 2 (some .int) ws ({ frames := 0, cells := 0, slots := 0, locals := 0 } : Room) Z #[(.int p1), (.int p2)] h0 (fun v h L => v = some (.int p2) ∧ L = [] ∧ h = h0) := by
  refine own_body (Jvm.Free.JP.mathPlain rfl (by decide +kernel)) ?_
  intro p e s m below meth cdx T0 X0 hx hZ hby hml hown hnm hret hlk e0
  have N0 := Fr.nil n0
  refine own_entry (g' := (mkF m 0 #[.val (.int p1), .val (.int p2)] [])) (by first | rfl | (simp [entryFrame, mkF, argsToLocals, Value.category, maxLocals]; done)) ?_
  refine own_step (g' := (mkF m 1 #[.val (.int p1), .val (.int p2)] [(.int p1)])) (fun _ kont => XS.iloadN X0.here hx rfl (hb hby d27_0) rfl kont) ?_
  refine own_step (g' := (mkF m 2 #[.val (.int p1), .val (.int p2)] [(.int p2), (.int p1)])) (fun _ kont => XS.iloadN X0.here hx rfl (hb hby d27_1) rfl kont) ?_
  by_cases hc1 : p2 < p1
  · refine own_step (g' := (mkF m 9 #[.val (.int p1), .val (.int p2)] [])) (fun _ kont => XS.icmpYes X0.here hx rfl (pc0 := 2) (pc' := 9) rfl (hb hby d27_2) rfl (tlt hc1).2.2.1 (by decide) (by decide) kont) ?_
    refine own_step (g' := (mkF m 10 #[.val (.int p1), .val (.int p2)] [(.int p2)])) (fun _ kont => XS.iloadN X0.here hx rfl (hb hby d27_9) rfl kont) ?_
    exact own_retI X0 hx hret hlk (hb hby d27_10) e0 (by exact ⟨rfl, rfl, rfl⟩) (by decide) (by decide)
  · refine own_step (g' := (mkF m 5 #[.val (.int p1), .val (.int p2)] [])) (fun _ kont => XS.icmpNo X0.here hx rfl (hb hby d27_2) rfl (flt hc1).2.2.1 kont) ?_
    refine own_step (g' := (mkF m 6 #[.val (.int p1), .val (.int p2)] [(.int p1)])) (fun _ kont => XS.iloadN X0.here hx rfl (hb hby d27_5) rfl kont) ?_
    refine own_step (g' := (mkF m 10 #[.val (.int p1), .val (.int p2)] [(.int p1)])) (fun _ kont => XS.goto X0.here hx rfl (pc0 := 6) (pc' := 10) rfl (hb hby d27_6) (by decide) (by decide) kont) ?_
    exact own_retI X0 hx hret hlk (hb hby d27_10) e0 (by exact ⟨by rw [own_anti hle (by rw [Int32.lt_iff_toInt_lt]; have := hc1; rw [Int32.lt_iff_toInt_lt] at this; omega)], rfl, rfl⟩) (by decide) (by decide)
theorem d36_0 : decode jdk_48_method_27_code 0 = .ok (.iload_n 0, 1) := by decide +kernel
theorem d36_1 : decode jdk_48_method_27_code 1 = .ok (.iload_n 1, 1) := by decide +kernel
theorem d36_2 : decode jdk_48_method_27_code 2 = .ok (.iload_n 2, 1) := by decide +kernel
theorem d36_3 : decode jdk_48_method_27_code 3 = .ok (.invokestatic 194, 3) := by decide +kernel
theorem d36_6 : decode jdk_48_method_27_code 6 = .ok (.iadd, 1) := by decide +kernel
theorem d36_7 : decode jdk_48_method_27_code 7 = .ok (.istore_n 3, 1) := by decide +kernel
theorem d36_8 : decode jdk_48_method_27_code 8 = .ok (.iconst 0, 1) := by decide +kernel
theorem d36_9 : decode jdk_48_method_27_code 9 = .ok (.iload_n 3, 1) := by decide +kernel
theorem d36_10 : decode jdk_48_method_27_code 10 = .ok (.if_icmp .ge 11, 3) := by decide +kernel
theorem d36_13 : decode jdk_48_method_27_code 13 = .ok (.iload_n 3, 1) := by decide +kernel
theorem d36_14 : decode jdk_48_method_27_code 14 = .ok (.ldc 200, 2) := by decide +kernel
theorem d36_16 : decode jdk_48_method_27_code 16 = .ok (.if_icmp .gt 5, 3) := by decide +kernel
theorem d36_19 : decode jdk_48_method_27_code 19 = .ok (.iload_n 3, 1) := by decide +kernel
theorem d36_20 : decode jdk_48_method_27_code 20 = .ok (.ireturn, 1) := by decide +kernel
theorem pd_0 : parseMethodDescriptor "(II)I" = some ⟨[.int, .int], some .int⟩ := by decide +kernel
theorem pn_36 : plainName "jdk/internal/util/ArraysSupport" = true := by first | (simp [plainName, overriddenIn]; done) | decide +kernel
set_option maxRecDepth 65536 in
set_option maxHeartbeats 40000000 in
theorem rmNL (l : Launch) (Z : State) (a0 : Array Value) (hw : ∀ d ∈ tables_1, d.before a0 Z = true) (ws : List Jvm.Cond) (g1 : Int32) (h0 : Heap) (n0 : Nat) (Z0 : n0 ≤ h0.size) (hg : g1.toInt ≤ (18 : Int32).toInt) :
    OMet l (⟨"jdk/internal/util/ArraysSupport", "newLength", "(III)I"⟩ : MethodName) jdk_48_method_27_code 4 (some .int) ws ({ frames := 1, cells := 0, slots := 0, locals := 14 } : Room) Z #[(.int (16 : Int32)), (.int g1), (.int (18 : Int32))] h0 (fun v h L => v = some (.int (34 : Int32)) ∧ L = [] ∧ h = h0) := by
  refine own_body (plainFor_of_name pn_36) ?_
  intro p e s m below meth cdx T0 X0 hx hZ hby hml hown hnm hret hlk e0
  have N0 := Fr.nil n0
  refine own_entry (g' := (mkF m 0 #[.val (.int (16 : Int32)), .val (.int g1), .val (.int (18 : Int32)), .unset] [])) (by first | rfl | (simp [entryFrame, mkF, argsToLocals, Value.category, maxLocals]; done)) ?_
  refine own_step (g' := (mkF m 1 #[.val (.int (16 : Int32)), .val (.int g1), .val (.int (18 : Int32)), .unset] [(.int (16 : Int32))])) (fun _ kont => XS.iloadN X0.here hx rfl (hb hby d36_0) rfl kont) ?_
  refine own_step (g' := (mkF m 2 #[.val (.int (16 : Int32)), .val (.int g1), .val (.int (18 : Int32)), .unset] [(.int g1), (.int (16 : Int32))])) (fun _ kont => XS.iloadN X0.here hx rfl (hb hby d36_1) rfl kont) ?_
  refine own_step (g' := (mkF m 3 #[.val (.int (16 : Int32)), .val (.int g1), .val (.int (18 : Int32)), .unset] [(.int (18 : Int32)), (.int g1), (.int (16 : Int32))])) (fun _ kont => XS.iloadN X0.here hx rfl (hb hby d36_2) rfl kont) ?_
  refine own_callS X0 hx hZ (W := 1) hown e0 (rmMax l Z a0 hw [] g1 (18 : Int32) h0 n0 Z0 hg) (hw _ (List.mem_of_getElem? (i := 232) rfl)) (hw _ (List.mem_of_getElem? (i := 233) rfl)) (hw _ (List.mem_of_getElem? (i := 153) rfl)) (hw _ (List.mem_of_getElem? (i := 234) rfl)) (by decide) (by decide) (by decide) (g := (mkF m 3 #[.val (.int (16 : Int32)), .val (.int g1), .val (.int (18 : Int32)), .unset] [(.int (18 : Int32)), (.int g1), (.int (16 : Int32))])) rfl (by rw [hml]; rfl) (argsL := [(.int g1), (.int (18 : Int32))]) (rest := [(.int (16 : Int32))]) rfl (lenOf pd_0 rfl) rfl (by show 2 * 0 + _ ≤ _; exact Nat.le_of_eq rfl) (hb hby d36_3) (by decide) (by decide) ?_
  intro v1 T1 L1 X1 hQ1
  obtain ⟨rfl, rfl, e1⟩ := hQ1
  replace X1 := own_pureX X1
  show OGo p e below _ T1 (mkF m 6 #[.val (.int (16 : Int32)), .val (.int g1), .val (.int (18 : Int32)), .unset] [(.int (18 : Int32)), (.int (16 : Int32))])
  refine own_step (g' := (mkF m 7 #[.val (.int (16 : Int32)), .val (.int g1), .val (.int (18 : Int32)), .unset] [(.int (34 : Int32))])) (fun _ kont => XS.iadd X1.here hx rfl (hb hby d36_6) rfl kont) ?_
  refine own_step (g' := (mkF m 8 #[.val (.int (16 : Int32)), .val (.int g1), .val (.int (18 : Int32)), .val (.int (34 : Int32))] [])) (fun _ kont => XS.istoreN X1.here hx rfl (hb hby d36_7) rfl (l' := #[.val (.int (16 : Int32)), .val (.int g1), .val (.int (18 : Int32)), .val (.int (34 : Int32))]) rfl kont) ?_
  refine own_step (g' := (mkF m 9 #[.val (.int (16 : Int32)), .val (.int g1), .val (.int (18 : Int32)), .val (.int (34 : Int32))] [(.int (0 : Int32))])) (fun _ kont => XS.iconst X1.here hx rfl (hb hby d36_8) kont) ?_
  refine own_step (g' := (mkF m 10 #[.val (.int (16 : Int32)), .val (.int g1), .val (.int (18 : Int32)), .val (.int (34 : Int32))] [(.int (34 : Int32)), (.int (0 : Int32))])) (fun _ kont => XS.iloadN X1.here hx rfl (hb hby d36_9) rfl kont) ?_
  refine own_step (g' := (mkF m 13 #[.val (.int (16 : Int32)), .val (.int g1), .val (.int (18 : Int32)), .val (.int (34 : Int32))] [])) (fun _ kont => XS.icmpNo X1.here hx rfl (hb hby d36_10) rfl (tlt (by decide : (0 : Int32) < (34 : Int32))).2.1 kont) ?_
  refine own_step (g' := (mkF m 14 #[.val (.int (16 : Int32)), .val (.int g1), .val (.int (18 : Int32)), .val (.int (34 : Int32))] [(.int (34 : Int32))])) (fun _ kont => XS.iloadN X1.here hx rfl (hb hby d36_13) rfl kont) ?_
  refine own_step (g' := (mkF m 16 #[.val (.int (16 : Int32)), .val (.int g1), .val (.int (18 : Int32)), .val (.int (34 : Int32))] [(.int (2147483639 : Int32)), (.int (34 : Int32))])) (X1.ldcInt hx hown (mvT hZ (hw _ (List.mem_of_getElem? (i := 235) rfl))) (g := (mkF m 14 #[.val (.int (16 : Int32)), .val (.int g1), .val (.int (18 : Int32)), .val (.int (34 : Int32))] [(.int (34 : Int32))])) rfl (hb hby d36_14)) ?_
  refine own_step (g' := (mkF m 19 #[.val (.int (16 : Int32)), .val (.int g1), .val (.int (18 : Int32)), .val (.int (34 : Int32))] [])) (fun _ kont => XS.icmpNo X1.here hx rfl (hb hby d36_16) rfl (flt (by decide : ¬ ((2147483639 : Int32) < (34 : Int32)))).2.2.1 kont) ?_
  refine own_step (g' := (mkF m 20 #[.val (.int (16 : Int32)), .val (.int g1), .val (.int (18 : Int32)), .val (.int (34 : Int32))] [(.int (34 : Int32))])) (fun _ kont => XS.iloadN X1.here hx rfl (hb hby d36_19) rfl kont) ?_
  exact own_retI X1 hx hret hlk (hb hby d36_20) e1 (by exact ⟨rfl, rfl, rfl⟩) (by decide) (by decide)
theorem d35_0 : decode jdk_68_method_10_code 0 = .ok (.aload_n 0, 1) := by decide +kernel
theorem d35_1 : decode jdk_68_method_10_code 1 = .ok (.getfield 15, 3) := by decide +kernel
theorem d35_4 : decode jdk_68_method_10_code 4 = .ok (.arraylength, 1) := by decide +kernel
theorem d35_5 : decode jdk_68_method_10_code 5 = .ok (.istore_n 2, 1) := by decide +kernel
theorem d35_6 : decode jdk_68_method_10_code 6 = .ok (.iload_n 1, 1) := by decide +kernel
theorem d35_7 : decode jdk_68_method_10_code 7 = .ok (.aload_n 0, 1) := by decide +kernel
theorem d35_8 : decode jdk_68_method_10_code 8 = .ok (.getfield 22, 3) := by decide +kernel
theorem d35_11 : decode jdk_68_method_10_code 11 = .ok (.ishl, 1) := by decide +kernel
theorem d35_12 : decode jdk_68_method_10_code 12 = .ok (.istore_n 3, 1) := by decide +kernel
theorem d35_13 : decode jdk_68_method_10_code 13 = .ok (.iload_n 3, 1) := by decide +kernel
theorem d35_14 : decode jdk_68_method_10_code 14 = .ok (.iload_n 2, 1) := by decide +kernel
theorem d35_15 : decode jdk_68_method_10_code 15 = .ok (.isub, 1) := by decide +kernel
theorem d35_16 : decode jdk_68_method_10_code 16 = .ok (.istore 4, 2) := by decide +kernel
theorem d35_18 : decode jdk_68_method_10_code 18 = .ok (.iload_n 2, 1) := by decide +kernel
theorem d35_19 : decode jdk_68_method_10_code 19 = .ok (.iload 4, 2) := by decide +kernel
theorem d35_21 : decode jdk_68_method_10_code 21 = .ok (.iload_n 2, 1) := by decide +kernel
theorem d35_22 : decode jdk_68_method_10_code 22 = .ok (.iconst 2, 1) := by decide +kernel
theorem d35_23 : decode jdk_68_method_10_code 23 = .ok (.aload_n 0, 1) := by decide +kernel
theorem d35_24 : decode jdk_68_method_10_code 24 = .ok (.getfield 22, 3) := by decide +kernel
theorem d35_27 : decode jdk_68_method_10_code 27 = .ok (.ishl, 1) := by decide +kernel
theorem d35_28 : decode jdk_68_method_10_code 28 = .ok (.iadd, 1) := by decide +kernel
theorem d35_29 : decode jdk_68_method_10_code 29 = .ok (.invokestatic 114, 3) := by decide +kernel
theorem d35_32 : decode jdk_68_method_10_code 32 = .ok (.istore 5, 2) := by decide +kernel
theorem d35_34 : decode jdk_68_method_10_code 34 = .ok (.iload 5, 2) := by decide +kernel
theorem d35_36 : decode jdk_68_method_10_code 36 = .ok (.ldc 39, 2) := by decide +kernel
theorem d35_38 : decode jdk_68_method_10_code 38 = .ok (.if_icmp .ne 13, 3) := by decide +kernel
theorem d35_51 : decode jdk_68_method_10_code 51 = .ok (.iload 5, 2) := by decide +kernel
theorem d35_53 : decode jdk_68_method_10_code 53 = .ok (.aload_n 0, 1) := by decide +kernel
theorem d35_54 : decode jdk_68_method_10_code 54 = .ok (.getfield 22, 3) := by decide +kernel
theorem d35_57 : decode jdk_68_method_10_code 57 = .ok (.ishr, 1) := by decide +kernel
theorem d35_58 : decode jdk_68_method_10_code 58 = .ok (.ireturn, 1) := by decide +kernel
theorem pd_1 : parseMethodDescriptor "(III)I" = some ⟨[.int, .int, .int], some .int⟩ := by decide +kernel
theorem pn_35 : plainName "java/lang/AbstractStringBuilder" = true := by first | (simp [plainName, overriddenIn]; done) | decide +kernel
set_option maxRecDepth 65536 in
set_option maxHeartbeats 40000000 in
theorem rmNC (l : Launch) (Z : State) (a0 : Array Value) (hw : ∀ d ∈ tables_1, d.before a0 Z = true) (ws : List Jvm.Cond) (a1 ar : Addr) (c q : Int32) (h0 : Heap) (n0 : Nat) (Z0 : n0 ≤ h0.size) (E1 : Exa Z h0 a1 "java/lang/StringBuilder") (Fv : Fld Z h0 a1 "java/lang/AbstractStringBuilder" "value" "[B" (.ref ar)) (Fc : Fld Z h0 a1 "java/lang/AbstractStringBuilder" "coder" "B" (.int (0 : Int32))) (Fn : Fld Z h0 a1 "java/lang/AbstractStringBuilder" "count" "I" (.int c)) (Bar : OBy Z h0 ar (16 : Int32)) (h1 : 16 < q.toInt) (h2 : q.toInt ≤ 34) :
    OMet l (⟨"java/lang/AbstractStringBuilder", "newCapacity", "(I)I"⟩ : MethodName) jdk_68_method_10_code 6 (some .int) ws ({ frames := 2, cells := 0, slots := 0, locals := 29 } : Room) Z #[(.ref a1), (.int q)] h0 (fun v h L => v = some (.int (34 : Int32)) ∧ L = [] ∧ h = h0) := by
  refine own_body (plainFor_of_name pn_35) ?_
  intro p e s m below meth cdx T0 X0 hx hZ hby hml hown hnm hret hlk e0
  have N0 := Fr.nil n0
  refine own_entry (g' := (mkF m 0 #[.val (.ref a1), .val (.int q), .unset, .unset, .unset, .unset] [])) (by first | rfl | (simp [entryFrame, mkF, argsToLocals, Value.category, maxLocals]; done)) ?_
  refine own_step (g' := (mkF m 1 #[.val (.ref a1), .val (.int q), .unset, .unset, .unset, .unset] [(.ref a1)])) (fun _ kont => XS.aloadN X0.here hx rfl (hb hby d35_0) rfl rfl kont) ?_
  obtain ⟨T1, X1, e1, st1⟩ := getF X0 hx hZ hown (host := "") (Or.inl (hw _ (List.mem_of_getElem? (i := 33) rfl))) Via.refl e0 Fv (g := (mkF m 1 #[.val (.ref a1), .val (.int q), .unset, .unset, .unset, .unset] [(.ref a1)])) rfl rfl (hb hby d35_1)
  refine own_via (g' := (mkF m 4 #[.val (.ref a1), .val (.int q), .unset, .unset, .unset, .unset] [(.ref ar)])) st1 ?_
  obtain ⟨-, -, ⟨cl2, Ar2, q2, S2, M2, H2, G2⟩, -⟩ := id Bar
  refine own_step (g' := (mkF m 5 #[.val (.ref a1), .val (.int q), .unset, .unset, .unset, .unset] [(.int (16 : Int32))])) (own_len (len_of S2 M2) (X1.arraylength hx (by rw [e1]; exact Ar2.1) (State.isArrayOf_alike hZ.alike Ar2.2.1) (g := (mkF m 4 #[.val (.ref a1), .val (.int q), .unset, .unset, .unset, .unset] [(.ref ar)])) rfl rfl (hb hby d35_4))) ?_
  refine own_step (g' := (mkF m 6 #[.val (.ref a1), .val (.int q), .val (.int (16 : Int32)), .unset, .unset, .unset] [])) (fun _ kont => XS.istoreN X1.here hx rfl (hb hby d35_5) rfl (l' := #[.val (.ref a1), .val (.int q), .val (.int (16 : Int32)), .unset, .unset, .unset]) rfl kont) ?_
  refine own_step (g' := (mkF m 7 #[.val (.ref a1), .val (.int q), .val (.int (16 : Int32)), .unset, .unset, .unset] [(.int q)])) (fun _ kont => XS.iloadN X1.here hx rfl (hb hby d35_6) rfl kont) ?_
  refine own_step (g' := (mkF m 8 #[.val (.ref a1), .val (.int q), .val (.int (16 : Int32)), .unset, .unset, .unset] [(.ref a1), (.int q)])) (fun _ kont => XS.aloadN X1.here hx rfl (hb hby d35_7) rfl rfl kont) ?_
  obtain ⟨T3, X3, e3, st3⟩ := getF X1 hx hZ hown (host := "") (Or.inl (hw _ (List.mem_of_getElem? (i := 35) rfl))) Via.refl e1 Fc (g := (mkF m 8 #[.val (.ref a1), .val (.int q), .val (.int (16 : Int32)), .unset, .unset, .unset] [(.ref a1), (.int q)])) rfl rfl (hb hby d35_8)
  refine own_via (g' := (mkF m 11 #[.val (.ref a1), .val (.int q), .val (.int (16 : Int32)), .unset, .unset, .unset] [(.int (0 : Int32)), (.int q)])) st3 ?_
  refine own_step (g' := (mkF m 12 #[.val (.ref a1), .val (.int q), .val (.int (16 : Int32)), .unset, .unset, .unset] [(.int (q <<< ((0 : Int32) &&& 31)))])) (fun _ kont => XS.ishl X3.here hx rfl (hb hby d35_11) rfl kont) ?_
  refine own_entry (g' := (mkF m 12 #[.val (.ref a1), .val (.int q), .val (.int (16 : Int32)), .unset, .unset, .unset] [(.int q)])) (by rw [own_shl0]) ?_
  refine own_step (g' := (mkF m 13 #[.val (.ref a1), .val (.int q), .val (.int (16 : Int32)), .val (.int q), .unset, .unset] [])) (fun _ kont => XS.istoreN X3.here hx rfl (hb hby d35_12) rfl (l' := #[.val (.ref a1), .val (.int q), .val (.int (16 : Int32)), .val (.int q), .unset, .unset]) rfl kont) ?_
  refine own_step (g' := (mkF m 14 #[.val (.ref a1), .val (.int q), .val (.int (16 : Int32)), .val (.int q), .unset, .unset] [(.int q)])) (fun _ kont => XS.iloadN X3.here hx rfl (hb hby d35_13) rfl kont) ?_
  refine own_step (g' := (mkF m 15 #[.val (.ref a1), .val (.int q), .val (.int (16 : Int32)), .val (.int q), .unset, .unset] [(.int (16 : Int32)), (.int q)])) (fun _ kont => XS.iloadN X3.here hx rfl (hb hby d35_14) rfl kont) ?_
  refine own_step (g' := (mkF m 16 #[.val (.ref a1), .val (.int q), .val (.int (16 : Int32)), .val (.int q), .unset, .unset] [(.int (q - (16 : Int32)))])) (fun _ kont => XS.isub X3.here hx rfl (hb hby d35_15) rfl kont) ?_
  refine own_step (g' := (mkF m 18 #[.val (.ref a1), .val (.int q), .val (.int (16 : Int32)), .val (.int q), .val (.int (q - (16 : Int32))), .unset] [])) (fun _ kont => XS.istore X3.here hx rfl (hb hby d35_16) rfl (l' := #[.val (.ref a1), .val (.int q), .val (.int (16 : Int32)), .val (.int q), .val (.int (q - (16 : Int32))), .unset]) rfl kont) ?_
  refine own_step (g' := (mkF m 19 #[.val (.ref a1), .val (.int q), .val (.int (16 : Int32)), .val (.int q), .val (.int (q - (16 : Int32))), .unset] [(.int (16 : Int32))])) (fun _ kont => XS.iloadN X3.here hx rfl (hb hby d35_18) rfl kont) ?_
  refine own_step (g' := (mkF m 21 #[.val (.ref a1), .val (.int q), .val (.int (16 : Int32)), .val (.int q), .val (.int (q - (16 : Int32))), .unset] [(.int (q - (16 : Int32))), (.int (16 : Int32))])) (fun _ kont => XS.iload X3.here hx rfl (hb hby d35_19) rfl kont) ?_
  refine own_step (g' := (mkF m 22 #[.val (.ref a1), .val (.int q), .val (.int (16 : Int32)), .val (.int q), .val (.int (q - (16 : Int32))), .unset] [(.int (16 : Int32)), (.int (q - (16 : Int32))), (.int (16 : Int32))])) (fun _ kont => XS.iloadN X3.here hx rfl (hb hby d35_21) rfl kont) ?_
  refine own_step (g' := (mkF m 23 #[.val (.ref a1), .val (.int q), .val (.int (16 : Int32)), .val (.int q), .val (.int (q - (16 : Int32))), .unset] [(.int (2 : Int32)), (.int (16 : Int32)), (.int (q - (16 : Int32))), (.int (16 : Int32))])) (fun _ kont => XS.iconst X3.here hx rfl (hb hby d35_22) kont) ?_
  refine own_step (g' := (mkF m 24 #[.val (.ref a1), .val (.int q), .val (.int (16 : Int32)), .val (.int q), .val (.int (q - (16 : Int32))), .unset] [(.ref a1), (.int (2 : Int32)), (.int (16 : Int32)), (.int (q - (16 : Int32))), (.int (16 : Int32))])) (fun _ kont => XS.aloadN X3.here hx rfl (hb hby d35_23) rfl rfl kont) ?_
  obtain ⟨T4, X4, e4, st4⟩ := getF X3 hx hZ hown (host := "") (Or.inl (hw _ (List.mem_of_getElem? (i := 35) rfl))) Via.refl e3 Fc (g := (mkF m 24 #[.val (.ref a1), .val (.int q), .val (.int (16 : Int32)), .val (.int q), .val (.int (q - (16 : Int32))), .unset] [(.ref a1), (.int (2 : Int32)), (.int (16 : Int32)), (.int (q - (16 : Int32))), (.int (16 : Int32))])) rfl rfl (hb hby d35_24)
  refine own_via (g' := (mkF m 27 #[.val (.ref a1), .val (.int q), .val (.int (16 : Int32)), .val (.int q), .val (.int (q - (16 : Int32))), .unset] [(.int (0 : Int32)), (.int (2 : Int32)), (.int (16 : Int32)), (.int (q - (16 : Int32))), (.int (16 : Int32))])) st4 ?_
  refine own_step (g' := (mkF m 28 #[.val (.ref a1), .val (.int q), .val (.int (16 : Int32)), .val (.int q), .val (.int (q - (16 : Int32))), .unset] [(.int ((2 : Int32) <<< ((0 : Int32) &&& 31))), (.int (16 : Int32)), (.int (q - (16 : Int32))), (.int (16 : Int32))])) (fun _ kont => XS.ishl X4.here hx rfl (hb hby d35_27) rfl kont) ?_
  refine own_entry (g' := (mkF m 28 #[.val (.ref a1), .val (.int q), .val (.int (16 : Int32)), .val (.int q), .val (.int (q - (16 : Int32))), .unset] [(.int (2 : Int32)), (.int (16 : Int32)), (.int (q - (16 : Int32))), (.int (16 : Int32))])) (by rw [own_shl0]) ?_
  refine own_step (g' := (mkF m 29 #[.val (.ref a1), .val (.int q), .val (.int (16 : Int32)), .val (.int q), .val (.int (q - (16 : Int32))), .unset] [(.int (18 : Int32)), (.int (q - (16 : Int32))), (.int (16 : Int32))])) (fun _ kont => XS.iadd X4.here hx rfl (hb hby d35_28) rfl kont) ?_
  refine own_callS X4 hx hZ (W := 0) hown e4 (rmNL l Z a0 hw [] (q - (16 : Int32)) h0 n0 Z0 (own_b3 h1 h2)) (hw _ (List.mem_of_getElem? (i := 228) rfl)) (hw _ (List.mem_of_getElem? (i := 229) rfl)) (hw _ (List.mem_of_getElem? (i := 230) rfl)) (hw _ (List.mem_of_getElem? (i := 231) rfl)) (by decide) (by decide) (by decide) (g := (mkF m 29 #[.val (.ref a1), .val (.int q), .val (.int (16 : Int32)), .val (.int q), .val (.int (q - (16 : Int32))), .unset] [(.int (18 : Int32)), (.int (q - (16 : Int32))), (.int (16 : Int32))])) rfl (by rw [hml]; rfl) (argsL := [(.int (16 : Int32)), (.int (q - (16 : Int32))), (.int (18 : Int32))]) (rest := []) rfl (lenOf pd_1 rfl) rfl (by show 2 * 0 + _ ≤ _; exact Nat.le_of_eq rfl) (hb hby d35_29) (by decide) (by decide) ?_
  intro v5 T5 L5 X5 hQ5
  obtain ⟨rfl, rfl, e5⟩ := hQ5
  replace X5 := own_pureX X5
  show OGo p e below _ T5 (mkF m 32 #[.val (.ref a1), .val (.int q), .val (.int (16 : Int32)), .val (.int q), .val (.int (q - (16 : Int32))), .unset] [(.int (34 : Int32))])
  refine own_step (g' := (mkF m 34 #[.val (.ref a1), .val (.int q), .val (.int (16 : Int32)), .val (.int q), .val (.int (q - (16 : Int32))), .val (.int (34 : Int32))] [])) (fun _ kont => XS.istore X5.here hx rfl (hb hby d35_32) rfl (l' := #[.val (.ref a1), .val (.int q), .val (.int (16 : Int32)), .val (.int q), .val (.int (q - (16 : Int32))), .val (.int (34 : Int32))]) rfl kont) ?_
  refine own_step (g' := (mkF m 36 #[.val (.ref a1), .val (.int q), .val (.int (16 : Int32)), .val (.int q), .val (.int (q - (16 : Int32))), .val (.int (34 : Int32))] [(.int (34 : Int32))])) (fun _ kont => XS.iload X5.here hx rfl (hb hby d35_34) rfl kont) ?_
  refine own_step (g' := (mkF m 38 #[.val (.ref a1), .val (.int q), .val (.int (16 : Int32)), .val (.int q), .val (.int (q - (16 : Int32))), .val (.int (34 : Int32))] [(.int (2147483647 : Int32)), (.int (34 : Int32))])) (X5.ldcInt hx hown (mvT hZ (hw _ (List.mem_of_getElem? (i := 236) rfl))) (g := (mkF m 36 #[.val (.ref a1), .val (.int q), .val (.int (16 : Int32)), .val (.int q), .val (.int (q - (16 : Int32))), .val (.int (34 : Int32))] [(.int (34 : Int32))])) rfl (hb hby d35_36)) ?_
  refine own_step (g' := (mkF m 51 #[.val (.ref a1), .val (.int q), .val (.int (16 : Int32)), .val (.int q), .val (.int (q - (16 : Int32))), .val (.int (34 : Int32))] [])) (fun _ kont => XS.icmpYes X5.here hx rfl (pc0 := 38) (pc' := 51) rfl (hb hby d35_38) rfl (feq (by decide : ¬ ((34 : Int32) = (2147483647 : Int32)))).2 (by decide) (by decide) kont) ?_
  refine own_step (g' := (mkF m 53 #[.val (.ref a1), .val (.int q), .val (.int (16 : Int32)), .val (.int q), .val (.int (q - (16 : Int32))), .val (.int (34 : Int32))] [(.int (34 : Int32))])) (fun _ kont => XS.iload X5.here hx rfl (hb hby d35_51) rfl kont) ?_
  refine own_step (g' := (mkF m 54 #[.val (.ref a1), .val (.int q), .val (.int (16 : Int32)), .val (.int q), .val (.int (q - (16 : Int32))), .val (.int (34 : Int32))] [(.ref a1), (.int (34 : Int32))])) (fun _ kont => XS.aloadN X5.here hx rfl (hb hby d35_53) rfl rfl kont) ?_
  obtain ⟨T6, X6, e6, st6⟩ := getF X5 hx hZ hown (host := "") (Or.inl (hw _ (List.mem_of_getElem? (i := 35) rfl))) Via.refl e5 Fc (g := (mkF m 54 #[.val (.ref a1), .val (.int q), .val (.int (16 : Int32)), .val (.int q), .val (.int (q - (16 : Int32))), .val (.int (34 : Int32))] [(.ref a1), (.int (34 : Int32))])) rfl rfl (hb hby d35_54)
  refine own_via (g' := (mkF m 57 #[.val (.ref a1), .val (.int q), .val (.int (16 : Int32)), .val (.int q), .val (.int (q - (16 : Int32))), .val (.int (34 : Int32))] [(.int (0 : Int32)), (.int (34 : Int32))])) st6 ?_
  refine own_step (g' := (mkF m 58 #[.val (.ref a1), .val (.int q), .val (.int (16 : Int32)), .val (.int q), .val (.int (q - (16 : Int32))), .val (.int (34 : Int32))] [(.int ((34 : Int32) >>> ((0 : Int32) &&& 31)))])) (fun _ kont => XS.ishr X6.here hx rfl (hb hby d35_57) rfl kont) ?_
  refine own_entry (g' := (mkF m 58 #[.val (.ref a1), .val (.int q), .val (.int (16 : Int32)), .val (.int q), .val (.int (q - (16 : Int32))), .val (.int (34 : Int32))] [(.int (34 : Int32))])) (by rw [own_shr0]) ?_
  exact own_retI X6 hx hret hlk (hb hby d35_58) e6 (by exact ⟨rfl, rfl, rfl⟩) (by decide) (by decide)
theorem d38_0 : decode jdk_65_method_121_code 0 = .ok (.iload_n 1, 1) := by decide +kernel
theorem d38_1 : decode jdk_65_method_121_code 1 = .ok (.aload_n 0, 1) := by decide +kernel
theorem d38_2 : decode jdk_65_method_121_code 2 = .ok (.arraylength, 1) := by decide +kernel
theorem d38_3 : decode jdk_65_method_121_code 3 = .ok (.if_icmp .ne 11, 3) := by decide +kernel
theorem d38_14 : decode jdk_65_method_121_code 14 = .ok (.iload_n 1, 1) := by decide +kernel
theorem d38_15 : decode jdk_65_method_121_code 15 = .ok (.newarray .byte, 2) := by decide +kernel
theorem d38_17 : decode jdk_65_method_121_code 17 = .ok (.astore_n 2, 1) := by decide +kernel
theorem d38_18 : decode jdk_65_method_121_code 18 = .ok (.aload_n 0, 1) := by decide +kernel
theorem d38_19 : decode jdk_65_method_121_code 19 = .ok (.iconst 0, 1) := by decide +kernel
theorem d38_20 : decode jdk_65_method_121_code 20 = .ok (.aload_n 2, 1) := by decide +kernel
theorem d38_21 : decode jdk_65_method_121_code 21 = .ok (.iconst 0, 1) := by decide +kernel
theorem d38_22 : decode jdk_65_method_121_code 22 = .ok (.aload_n 0, 1) := by decide +kernel
theorem d38_23 : decode jdk_65_method_121_code 23 = .ok (.arraylength, 1) := by decide +kernel
theorem d38_24 : decode jdk_65_method_121_code 24 = .ok (.iload_n 1, 1) := by decide +kernel
theorem d38_25 : decode jdk_65_method_121_code 25 = .ok (.invokestatic 304, 3) := by decide +kernel
theorem d38_28 : decode jdk_65_method_121_code 28 = .ok (.invokestatic 150, 3) := by decide +kernel
theorem d38_31 : decode jdk_65_method_121_code 31 = .ok (.aload_n 2, 1) := by decide +kernel
theorem d38_32 : decode jdk_65_method_121_code 32 = .ok (.areturn, 1) := by decide +kernel
theorem pn_38 : plainName "java/util/Arrays" = true := by first | (simp [plainName, overriddenIn]; done) | decide +kernel
set_option maxRecDepth 65536 in
set_option maxHeartbeats 40000000 in
theorem rmCp (l : Launch) (Z : State) (a0 : Array Value) (hw : ∀ d ∈ tables_1, d.before a0 Z = true) (ws : List Jvm.Cond) (ar : Addr) (h0 : Heap) (n0 : Nat) (Z0 : n0 ≤ h0.size) (Bar : OBy Z h0 ar (16 : Int32)) :
    OMet l (⟨"java/util/Arrays", "copyOf", "([BI)[B"⟩ : MethodName) jdk_65_method_121_code 3 (some (.array .byte)) ws ({ frames := 1, cells := 1, slots := 34, locals := 40 } : Room) Z #[(.ref ar), (.int (34 : Int32))] h0 (fun v h L => (∃ b, v = some (.ref b) ∧ h0.size ≤ b ∧ n0 ≤ b ∧ OBy Z h b (34 : Int32) ∧ Exa Z h b "[B") ∧ Fr n0 L ∧ Keep h0 h []) := by
  refine own_body (plainFor_of_name pn_38) ?_
  intro p e s m below meth cdx T0 X0 hx hZ hby hml hown hnm hret hlk e0
  have N0 := Fr.nil n0
  refine own_entry (g' := (mkF m 0 #[.val (.ref ar), .val (.int (34 : Int32)), .unset] [])) (by first | rfl | (simp [entryFrame, mkF, argsToLocals, Value.category, maxLocals]; done)) ?_
  have KC0 := Keep.refl h0 []
  refine own_step (g' := (mkF m 1 #[.val (.ref ar), .val (.int (34 : Int32)), .unset] [(.int (34 : Int32))])) (fun _ kont => XS.iloadN X0.here hx rfl (hb hby d38_0) rfl kont) ?_
  refine own_step (g' := (mkF m 2 #[.val (.ref ar), .val (.int (34 : Int32)), .unset] [(.ref ar), (.int (34 : Int32))])) (fun _ kont => XS.aloadN X0.here hx rfl (hb hby d38_1) rfl rfl kont) ?_
  obtain ⟨-, -, ⟨cl1, Ar1, q1, S1, M1, H1, G1⟩, -⟩ := id Bar
  refine own_step (g' := (mkF m 3 #[.val (.ref ar), .val (.int (34 : Int32)), .unset] [(.int (16 : Int32)), (.int (34 : Int32))])) (own_len (len_of S1 M1) (X0.arraylength hx (by rw [e0]; exact Ar1.1) (State.isArrayOf_alike hZ.alike Ar1.2.1) (g := (mkF m 2 #[.val (.ref ar), .val (.int (34 : Int32)), .unset] [(.ref ar), (.int (34 : Int32))])) rfl rfl (hb hby d38_2))) ?_
  refine own_step (g' := (mkF m 14 #[.val (.ref ar), .val (.int (34 : Int32)), .unset] [])) (fun _ kont => XS.icmpYes X0.here hx rfl (pc0 := 3) (pc' := 14) rfl (hb hby d38_3) rfl (feq (by decide : ¬ ((34 : Int32) = (16 : Int32)))).2 (by decide) (by decide) kont) ?_
  refine own_step (g' := (mkF m 15 #[.val (.ref ar), .val (.int (34 : Int32)), .unset] [(.int (34 : Int32))])) (fun _ kont => XS.iloadN X0.here hx rfl (hb hby d38_14) rfl kont) ?_
  obtain ⟨T2, h2, k2, X2, e2, Ex2, A2, C2, st2⟩ := newPE X0 hx hZ (hw _ (List.mem_of_getElem? (i := 12) rfl)) e0 (g := (mkF m 15 #[.val (.ref ar), .val (.int (34 : Int32)), .unset] [(.int (34 : Int32))])) rfl (hb hby d38_15) rfl (by decide) (cap := 34) (by decide) (by decide) (by decide) (by decide) (ad := "[B") (by decide)
  obtain ⟨nb2, g2⟩ : ∃ z, z = h0.size := ⟨_, rfl⟩
  rw [← g2] at A2 C2 st2
  have V2 : OBy Z h2 nb2 (34 : Int32) := own_by_new A2 (by decide)
  have g_nb2 : n0 ≤ nb2 := Nat.le_trans Z0 (Nat.le_of_eq g2.symm)
  have ne_ar_nb2 : ar ≠ nb2 := Nat.ne_of_lt (Nat.lt_of_lt_of_le Bar.lt (Nat.le_of_eq g2.symm))
  have sz_nb2 : h0.size ≤ nb2 := Nat.le_trans KC0.1 (Nat.le_of_eq g2.symm)
  have K2 : Keep h0 h2 [] := KC0.ext Ex2
  refine own_via (g' := (mkF m 17 #[.val (.ref ar), .val (.int (34 : Int32)), .unset] [(.ref nb2)])) st2 ?_
  refine own_step (g' := (mkF m 18 #[.val (.ref ar), .val (.int (34 : Int32)), .val (.ref nb2)] [])) (fun _ kont => XS.astoreN X2.here hx rfl (hb hby d38_17) rfl rfl (l' := #[.val (.ref ar), .val (.int (34 : Int32)), .val (.ref nb2)]) rfl kont) ?_
  refine own_step (g' := (mkF m 19 #[.val (.ref ar), .val (.int (34 : Int32)), .val (.ref nb2)] [(.ref ar)])) (fun _ kont => XS.aloadN X2.here hx rfl (hb hby d38_18) rfl rfl kont) ?_
  refine own_step (g' := (mkF m 20 #[.val (.ref ar), .val (.int (34 : Int32)), .val (.ref nb2)] [(.int (0 : Int32)), (.ref ar)])) (fun _ kont => XS.iconst X2.here hx rfl (hb hby d38_19) kont) ?_
  refine own_step (g' := (mkF m 21 #[.val (.ref ar), .val (.int (34 : Int32)), .val (.ref nb2)] [(.ref nb2), (.int (0 : Int32)), (.ref ar)])) (fun _ kont => XS.aloadN X2.here hx rfl (hb hby d38_20) rfl rfl kont) ?_
  refine own_step (g' := (mkF m 22 #[.val (.ref ar), .val (.int (34 : Int32)), .val (.ref nb2)] [(.int (0 : Int32)), (.ref nb2), (.int (0 : Int32)), (.ref ar)])) (fun _ kont => XS.iconst X2.here hx rfl (hb hby d38_21) kont) ?_
  refine own_step (g' := (mkF m 23 #[.val (.ref ar), .val (.int (34 : Int32)), .val (.ref nb2)] [(.ref ar), (.int (0 : Int32)), (.ref nb2), (.int (0 : Int32)), (.ref ar)])) (fun _ kont => XS.aloadN X2.here hx rfl (hb hby d38_22) rfl rfl kont) ?_
  have By_3 : OBy Z h2 ar (16 : Int32) := (Bar.ext Ex2)
  obtain ⟨-, -, ⟨cl4, Ar4, q4, S4, M4, H4, G4⟩, -⟩ := id By_3
  refine own_step (g' := (mkF m 24 #[.val (.ref ar), .val (.int (34 : Int32)), .val (.ref nb2)] [(.int (16 : Int32)), (.int (0 : Int32)), (.ref nb2), (.int (0 : Int32)), (.ref ar)])) (own_len (len_of S4 M4) (X2.arraylength hx (by rw [e2]; exact Ar4.1) (State.isArrayOf_alike hZ.alike Ar4.2.1) (g := (mkF m 23 #[.val (.ref ar), .val (.int (34 : Int32)), .val (.ref nb2)] [(.ref ar), (.int (0 : Int32)), (.ref nb2), (.int (0 : Int32)), (.ref ar)])) rfl rfl (hb hby d38_23))) ?_
  refine own_step (g' := (mkF m 25 #[.val (.ref ar), .val (.int (34 : Int32)), .val (.ref nb2)] [(.int (34 : Int32)), (.int (16 : Int32)), (.int (0 : Int32)), (.ref nb2), (.int (0 : Int32)), (.ref ar)])) (fun _ kont => XS.iloadN X2.here hx rfl (hb hby d38_24) rfl kont) ?_
  refine own_callS X2 hx hZ (W := 4) hown e2 (rmMinA l Z a0 hw [] (16 : Int32) (34 : Int32) h2 n0 (Nat.le_trans Z0 Ex2.1) (by decide)) (hw _ (List.mem_of_getElem? (i := 151) rfl)) (hw _ (List.mem_of_getElem? (i := 152) rfl)) (hw _ (List.mem_of_getElem? (i := 153) rfl)) (hw _ (List.mem_of_getElem? (i := 154) rfl)) (by decide) (by decide) (by decide) (g := (mkF m 25 #[.val (.ref ar), .val (.int (34 : Int32)), .val (.ref nb2)] [(.int (34 : Int32)), (.int (16 : Int32)), (.int (0 : Int32)), (.ref nb2), (.int (0 : Int32)), (.ref ar)])) rfl (by rw [hml]; rfl) (argsL := [(.int (16 : Int32)), (.int (34 : Int32))]) (rest := [(.int (0 : Int32)), (.ref nb2), (.int (0 : Int32)), (.ref ar)]) rfl (lenOf pd_0 rfl) rfl (by show 2 * 0 + _ ≤ _; exact Nat.le_of_eq rfl) (hb hby d38_25) (by decide) (by decide) ?_
  intro v5 T5 L5 X5 hQ5
  obtain ⟨rfl, rfl, e5⟩ := hQ5
  replace X5 := own_pureX X5
  show OGo p e below _ T5 (mkF m 28 #[.val (.ref ar), .val (.int (34 : Int32)), .val (.ref nb2)] [(.int (16 : Int32)), (.int (0 : Int32)), (.ref nb2), (.int (0 : Int32)), (.ref ar)])
  obtain ⟨T6, h6, L6, X6, e6, N6, Kq6, By6, st6⟩ := own_cpB X5 hx hZ (W := 0) hown (hw _ (List.mem_of_getElem? (i := 155) rfl)) (hw _ (List.mem_of_getElem? (i := 87) rfl)) (hw _ (List.mem_of_getElem? (i := 85) rfl)) (hw _ (List.mem_of_getElem? (i := 86) rfl)) e5 By_3 V2 (by decide) (by decide) (by decide) (by decide) (by decide) N0 g_nb2 (g := (mkF m 28 #[.val (.ref ar), .val (.int (34 : Int32)), .val (.ref nb2)] [(.int (16 : Int32)), (.int (0 : Int32)), (.ref nb2), (.int (0 : Int32)), (.ref ar)])) rfl (by rw [hml]; rfl) rfl (hb hby d38_28) (by decide) (by show 2 * 0 + _ ≤ _; exact Nat.le_of_eq rfl) (by decide +kernel)
  have K6 : Keep h0 h6 [] := K2.trans Kq6 (allS (Or.inr sz_nb2) all0)
  refine own_via (g' := (mkF m 31 #[.val (.ref ar), .val (.int (34 : Int32)), .val (.ref nb2)] [])) st6 ?_
  refine own_step (g' := (mkF m 32 #[.val (.ref ar), .val (.int (34 : Int32)), .val (.ref nb2)] [(.ref nb2)])) (fun _ kont => XS.aloadN X6.here hx rfl (hb hby d38_31) rfl rfl kont) ?_
  have C_7 : Exa Z h6 nb2 "[B" := (C2.keep Kq6)
  exact own_retA X6 hx hret rfl rfl hlk (hb hby d38_32) e6 (by exact ⟨⟨_, rfl, sz_nb2, g_nb2, By6, C_7⟩, N6, K6⟩) (by decide) (by decide)
theorem d9_0 : decode jdk_68_method_9_code 0 = .ok (.aload_n 0, 1) := by decide +kernel
theorem d9_1 : decode jdk_68_method_9_code 1 = .ok (.getfield 15, 3) := by decide +kernel
theorem d9_4 : decode jdk_68_method_9_code 4 = .ok (.arraylength, 1) := by decide +kernel
theorem d9_5 : decode jdk_68_method_9_code 5 = .ok (.aload_n 0, 1) := by decide +kernel
theorem d9_6 : decode jdk_68_method_9_code 6 = .ok (.getfield 22, 3) := by decide +kernel
theorem d9_9 : decode jdk_68_method_9_code 9 = .ok (.ishr, 1) := by decide +kernel
theorem d9_10 : decode jdk_68_method_9_code 10 = .ok (.istore_n 2, 1) := by decide +kernel
theorem d9_11 : decode jdk_68_method_9_code 11 = .ok (.iload_n 1, 1) := by decide +kernel
theorem d9_12 : decode jdk_68_method_9_code 12 = .ok (.iload_n 2, 1) := by decide +kernel
theorem d9_13 : decode jdk_68_method_9_code 13 = .ok (.isub, 1) := by decide +kernel
theorem d9_14 : decode jdk_68_method_9_code 14 = .ok (.ifCond .le 24, 3) := by decide +kernel
theorem d9_38 : decode jdk_68_method_9_code 38 = .ok (.return_, 1) := by decide +kernel
set_option maxRecDepth 65536 in
set_option maxHeartbeats 40000000 in
theorem rmEnsN (l : Launch) (Z : State) (a0 : Array Value) (hw : ∀ d ∈ tables_1, d.before a0 Z = true) (ws : List Jvm.Cond) (a1 ar : Addr) (c q : Int32) (h0 : Heap) (n0 : Nat) (Z0 : n0 ≤ h0.size) (E1 : Exa Z h0 a1 "java/lang/StringBuilder") (Fv : Fld Z h0 a1 "java/lang/AbstractStringBuilder" "value" "[B" (.ref ar)) (Fc : Fld Z h0 a1 "java/lang/AbstractStringBuilder" "coder" "B" (.int (0 : Int32))) (Fn : Fld Z h0 a1 "java/lang/AbstractStringBuilder" "count" "I" (.int c)) (Bar : OBy Z h0 ar (16 : Int32)) (h0q : 0 ≤ q.toInt) (h1 : q.toInt ≤ 16) :
    OMet l (⟨"java/lang/AbstractStringBuilder", "ensureCapacityInternal", "(I)V"⟩ : MethodName) jdk_68_method_9_code 3 none ws ({ frames := 0, cells := 0, slots := 0, locals := 0 } : Room) Z #[(.ref a1), (.int q)] h0 (fun v h L => v = none ∧ L = [] ∧ h = h0) := by
  refine own_body (plainFor_of_name pn_35) ?_
  intro p e s m below meth cdx T0 X0 hx hZ hby hml hown hnm hret hlk e0
  have N0 := Fr.nil n0
  refine own_entry (g' := (mkF m 0 #[.val (.ref a1), .val (.int q), .unset] [])) (by first | rfl | (simp [entryFrame, mkF, argsToLocals, Value.category, maxLocals]; done)) ?_
  refine own_step (g' := (mkF m 1 #[.val (.ref a1), .val (.int q), .unset] [(.ref a1)])) (fun _ kont => XS.aloadN X0.here hx rfl (hb hby d9_0) rfl rfl kont) ?_
  obtain ⟨T1, X1, e1, st1⟩ := getF X0 hx hZ hown (host := "") (Or.inl (hw _ (List.mem_of_getElem? (i := 33) rfl))) Via.refl e0 Fv (g := (mkF m 1 #[.val (.ref a1), .val (.int q), .unset] [(.ref a1)])) rfl rfl (hb hby d9_1)
  refine own_via (g' := (mkF m 4 #[.val (.ref a1), .val (.int q), .unset] [(.ref ar)])) st1 ?_
  obtain ⟨-, -, ⟨cl2, Ar2, q2, S2, M2, H2, G2⟩, -⟩ := id Bar
  refine own_step (g' := (mkF m 5 #[.val (.ref a1), .val (.int q), .unset] [(.int (16 : Int32))])) (own_len (len_of S2 M2) (X1.arraylength hx (by rw [e1]; exact Ar2.1) (State.isArrayOf_alike hZ.alike Ar2.2.1) (g := (mkF m 4 #[.val (.ref a1), .val (.int q), .unset] [(.ref ar)])) rfl rfl (hb hby d9_4))) ?_
  refine own_step (g' := (mkF m 6 #[.val (.ref a1), .val (.int q), .unset] [(.ref a1), (.int (16 : Int32))])) (fun _ kont => XS.aloadN X1.here hx rfl (hb hby d9_5) rfl rfl kont) ?_
  obtain ⟨T3, X3, e3, st3⟩ := getF X1 hx hZ hown (host := "") (Or.inl (hw _ (List.mem_of_getElem? (i := 35) rfl))) Via.refl e1 Fc (g := (mkF m 6 #[.val (.ref a1), .val (.int q), .unset] [(.ref a1), (.int (16 : Int32))])) rfl rfl (hb hby d9_6)
  refine own_via (g' := (mkF m 9 #[.val (.ref a1), .val (.int q), .unset] [(.int (0 : Int32)), (.int (16 : Int32))])) st3 ?_
  refine own_step (g' := (mkF m 10 #[.val (.ref a1), .val (.int q), .unset] [(.int ((16 : Int32) >>> ((0 : Int32) &&& 31)))])) (fun _ kont => XS.ishr X3.here hx rfl (hb hby d9_9) rfl kont) ?_
  refine own_entry (g' := (mkF m 10 #[.val (.ref a1), .val (.int q), .unset] [(.int (16 : Int32))])) (by rw [own_shr0]) ?_
  refine own_step (g' := (mkF m 11 #[.val (.ref a1), .val (.int q), .val (.int (16 : Int32))] [])) (fun _ kont => XS.istoreN X3.here hx rfl (hb hby d9_10) rfl (l' := #[.val (.ref a1), .val (.int q), .val (.int (16 : Int32))]) rfl kont) ?_
  refine own_step (g' := (mkF m 12 #[.val (.ref a1), .val (.int q), .val (.int (16 : Int32))] [(.int q)])) (fun _ kont => XS.iloadN X3.here hx rfl (hb hby d9_11) rfl kont) ?_
  refine own_step (g' := (mkF m 13 #[.val (.ref a1), .val (.int q), .val (.int (16 : Int32))] [(.int (16 : Int32)), (.int q)])) (fun _ kont => XS.iloadN X3.here hx rfl (hb hby d9_12) rfl kont) ?_
  refine own_step (g' := (mkF m 14 #[.val (.ref a1), .val (.int q), .val (.int (16 : Int32))] [(.int (q - (16 : Int32)))])) (fun _ kont => XS.isub X3.here hx rfl (hb hby d9_13) rfl kont) ?_
  refine own_step (g' := (mkF m 38 #[.val (.ref a1), .val (.int q), .val (.int (16 : Int32))] [])) (fun _ kont => XS.ifYes X3.here hx rfl (pc0 := 14) (pc' := 38) rfl (hb hby d9_14) rfl ((if0 _ _).trans (flt (own_b1 h0q h1)).2.2.2) (by decide) (by decide) kont) ?_
  exact own_retV X3 hx hret hlk (hb hby d9_38) e3 (by exact ⟨rfl, rfl, rfl⟩) (by decide) (by decide)
theorem d9_17 : decode jdk_68_method_9_code 17 = .ok (.aload_n 0, 1) := by decide +kernel
theorem d9_18 : decode jdk_68_method_9_code 18 = .ok (.aload_n 0, 1) := by decide +kernel
theorem d9_19 : decode jdk_68_method_9_code 19 = .ok (.getfield 15, 3) := by decide +kernel
theorem d9_22 : decode jdk_68_method_9_code 22 = .ok (.aload_n 0, 1) := by decide +kernel
theorem d9_23 : decode jdk_68_method_9_code 23 = .ok (.iload_n 1, 1) := by decide +kernel
theorem d9_24 : decode jdk_68_method_9_code 24 = .ok (.invokevirtual 104, 3) := by decide +kernel
theorem d9_27 : decode jdk_68_method_9_code 27 = .ok (.aload_n 0, 1) := by decide +kernel
theorem d9_28 : decode jdk_68_method_9_code 28 = .ok (.getfield 22, 3) := by decide +kernel
theorem d9_31 : decode jdk_68_method_9_code 31 = .ok (.ishl, 1) := by decide +kernel
theorem d9_32 : decode jdk_68_method_9_code 32 = .ok (.invokestatic 108, 3) := by decide +kernel
theorem d9_35 : decode jdk_68_method_9_code 35 = .ok (.putfield 15, 3) := by decide +kernel
theorem pd_2 : parseMethodDescriptor "(I)I" = some ⟨[.int], some .int⟩ := by decide +kernel
theorem pd_3 : parseMethodDescriptor "([BI)[B" = some ⟨[(.array .byte), .int], some (.array .byte)⟩ := by decide +kernel
set_option maxRecDepth 65536 in
set_option maxHeartbeats 40000000 in
theorem rmEnsG (l : Launch) (Z : State) (a0 : Array Value) (hw : ∀ d ∈ tables_1, d.before a0 Z = true) (ws : List Jvm.Cond) (a1 ar : Addr) (c q : Int32) (h0 : Heap) (n0 : Nat) (Z0 : n0 ≤ h0.size) (g_a1 : n0 ≤ a1) (E1 : Exa Z h0 a1 "java/lang/StringBuilder") (Fv : Fld Z h0 a1 "java/lang/AbstractStringBuilder" "value" "[B" (.ref ar)) (Fc : Fld Z h0 a1 "java/lang/AbstractStringBuilder" "coder" "B" (.int (0 : Int32))) (Fn : Fld Z h0 a1 "java/lang/AbstractStringBuilder" "count" "I" (.int c)) (Bar : OBy Z h0 ar (16 : Int32)) (h1 : 16 < q.toInt) (h2 : q.toInt ≤ 34) :
    OMet l (⟨"java/lang/AbstractStringBuilder", "ensureCapacityInternal", "(I)V"⟩ : MethodName) jdk_68_method_9_code 3 none ws ({ frames := 3, cells := 1, slots := 34, locals := 55 } : Room) Z #[(.ref a1), (.int q)] h0 (fun v h L => v = none ∧ (∃ b : Addr, h0.size ≤ b ∧ n0 ≤ b ∧ OBy Z h b (34 : Int32) ∧ Exa Z h b "[B" ∧ Exa Z h a1 "java/lang/StringBuilder" ∧ Fld Z h a1 "java/lang/AbstractStringBuilder" "value" "[B" (.ref b) ∧ Fld Z h a1 "java/lang/AbstractStringBuilder" "coder" "B" (.int (0 : Int32)) ∧ Fld Z h a1 "java/lang/AbstractStringBuilder" "count" "I" (.int c)) ∧ Fr n0 L ∧ Keep h0 h [a1]) := by
  refine own_body (plainFor_of_name pn_35) ?_
  intro p e s m below meth cdx T0 X0 hx hZ hby hml hown hnm hret hlk e0
  have N0 := Fr.nil n0
  refine own_entry (g' := (mkF m 0 #[.val (.ref a1), .val (.int q), .unset] [])) (by first | rfl | (simp [entryFrame, mkF, argsToLocals, Value.category, maxLocals]; done)) ?_
  have KC0 := Keep.refl h0 [a1]
  refine own_step (g' := (mkF m 1 #[.val (.ref a1), .val (.int q), .unset] [(.ref a1)])) (fun _ kont => XS.aloadN X0.here hx rfl (hb hby d9_0) rfl rfl kont) ?_
  obtain ⟨T1, X1, e1, st1⟩ := getF X0 hx hZ hown (host := "") (Or.inl (hw _ (List.mem_of_getElem? (i := 33) rfl))) Via.refl e0 Fv (g := (mkF m 1 #[.val (.ref a1), .val (.int q), .unset] [(.ref a1)])) rfl rfl (hb hby d9_1)
  refine own_via (g' := (mkF m 4 #[.val (.ref a1), .val (.int q), .unset] [(.ref ar)])) st1 ?_
  obtain ⟨-, -, ⟨cl2, Ar2, q2, S2, M2, H2, G2⟩, -⟩ := id Bar
  refine own_step (g' := (mkF m 5 #[.val (.ref a1), .val (.int q), .unset] [(.int (16 : Int32))])) (own_len (len_of S2 M2) (X1.arraylength hx (by rw [e1]; exact Ar2.1) (State.isArrayOf_alike hZ.alike Ar2.2.1) (g := (mkF m 4 #[.val (.ref a1), .val (.int q), .unset] [(.ref ar)])) rfl rfl (hb hby d9_4))) ?_
  refine own_step (g' := (mkF m 6 #[.val (.ref a1), .val (.int q), .unset] [(.ref a1), (.int (16 : Int32))])) (fun _ kont => XS.aloadN X1.here hx rfl (hb hby d9_5) rfl rfl kont) ?_
  obtain ⟨T3, X3, e3, st3⟩ := getF X1 hx hZ hown (host := "") (Or.inl (hw _ (List.mem_of_getElem? (i := 35) rfl))) Via.refl e1 Fc (g := (mkF m 6 #[.val (.ref a1), .val (.int q), .unset] [(.ref a1), (.int (16 : Int32))])) rfl rfl (hb hby d9_6)
  refine own_via (g' := (mkF m 9 #[.val (.ref a1), .val (.int q), .unset] [(.int (0 : Int32)), (.int (16 : Int32))])) st3 ?_
  refine own_step (g' := (mkF m 10 #[.val (.ref a1), .val (.int q), .unset] [(.int ((16 : Int32) >>> ((0 : Int32) &&& 31)))])) (fun _ kont => XS.ishr X3.here hx rfl (hb hby d9_9) rfl kont) ?_
  refine own_entry (g' := (mkF m 10 #[.val (.ref a1), .val (.int q), .unset] [(.int (16 : Int32))])) (by rw [own_shr0]) ?_
  refine own_step (g' := (mkF m 11 #[.val (.ref a1), .val (.int q), .val (.int (16 : Int32))] [])) (fun _ kont => XS.istoreN X3.here hx rfl (hb hby d9_10) rfl (l' := #[.val (.ref a1), .val (.int q), .val (.int (16 : Int32))]) rfl kont) ?_
  refine own_step (g' := (mkF m 12 #[.val (.ref a1), .val (.int q), .val (.int (16 : Int32))] [(.int q)])) (fun _ kont => XS.iloadN X3.here hx rfl (hb hby d9_11) rfl kont) ?_
  refine own_step (g' := (mkF m 13 #[.val (.ref a1), .val (.int q), .val (.int (16 : Int32))] [(.int (16 : Int32)), (.int q)])) (fun _ kont => XS.iloadN X3.here hx rfl (hb hby d9_12) rfl kont) ?_
  refine own_step (g' := (mkF m 14 #[.val (.ref a1), .val (.int q), .val (.int (16 : Int32))] [(.int (q - (16 : Int32)))])) (fun _ kont => XS.isub X3.here hx rfl (hb hby d9_13) rfl kont) ?_
  refine own_step (g' := (mkF m 17 #[.val (.ref a1), .val (.int q), .val (.int (16 : Int32))] [])) (fun _ kont => XS.ifNo X3.here hx rfl (hb hby d9_14) rfl ((if0 _ _).trans (tlt (own_b2 h1 h2)).2.2.2) kont) ?_
  refine own_step (g' := (mkF m 18 #[.val (.ref a1), .val (.int q), .val (.int (16 : Int32))] [(.ref a1)])) (fun _ kont => XS.aloadN X3.here hx rfl (hb hby d9_17) rfl rfl kont) ?_
  refine own_step (g' := (mkF m 19 #[.val (.ref a1), .val (.int q), .val (.int (16 : Int32))] [(.ref a1), (.ref a1)])) (fun _ kont => XS.aloadN X3.here hx rfl (hb hby d9_18) rfl rfl kont) ?_
  obtain ⟨T4, X4, e4, st4⟩ := getF X3 hx hZ hown (host := "") (Or.inl (hw _ (List.mem_of_getElem? (i := 33) rfl))) Via.refl e3 Fv (g := (mkF m 19 #[.val (.ref a1), .val (.int q), .val (.int (16 : Int32))] [(.ref a1), (.ref a1)])) rfl rfl (hb hby d9_19)
  refine own_via (g' := (mkF m 22 #[.val (.ref a1), .val (.int q), .val (.int (16 : Int32))] [(.ref ar), (.ref a1)])) st4 ?_
  refine own_step (g' := (mkF m 23 #[.val (.ref a1), .val (.int q), .val (.int (16 : Int32))] [(.ref a1), (.ref ar), (.ref a1)])) (fun _ kont => XS.aloadN X4.here hx rfl (hb hby d9_22) rfl rfl kont) ?_
  refine own_step (g' := (mkF m 24 #[.val (.ref a1), .val (.int q), .val (.int (16 : Int32))] [(.int q), (.ref a1), (.ref ar), (.ref a1)])) (fun _ kont => XS.iloadN X4.here hx rfl (hb hby d9_23) rfl kont) ?_
  refine own_callV X4 hx hZ (W := 2) hown e4 (rmNC l Z a0 hw [] a1 ar c q h0 n0 Z0 E1 Fv Fc Fn Bar h1 h2) E1 (hw _ (List.mem_of_getElem? (i := 223) rfl)) (own_declares (hw _ (List.mem_of_getElem? (i := 224) rfl)) (hw _ (List.mem_of_getElem? (i := 227) rfl))) (notFace_of_selects (args := #[]) (mvT hZ (hw _ (List.mem_of_getElem? (i := 226) rfl)))) (hw _ (List.mem_of_getElem? (i := 226) rfl)) (hw _ (List.mem_of_getElem? (i := 224) rfl)) (hw _ (List.mem_of_getElem? (i := 227) rfl)) (hw _ (List.mem_of_getElem? (i := 27) rfl)) (by decide) (by decide) (by decide) (g := (mkF m 24 #[.val (.ref a1), .val (.int q), .val (.int (16 : Int32))] [(.int q), (.ref a1), (.ref ar), (.ref a1)])) rfl (by rw [hml]; rfl) (argsL := [(.int q)]) (rest := [(.ref ar), (.ref a1)]) rfl (lenOf pd_2 rfl) rfl (by show 2 * 0 + _ ≤ _; exact Nat.le_of_eq rfl) (hb hby d9_24) (by decide) (by decide) ?_
  intro v5 T5 L5 X5 hQ5
  obtain ⟨rfl, rfl, e5⟩ := hQ5
  replace X5 := own_pureX X5
  show OGo p e below _ T5 (mkF m 27 #[.val (.ref a1), .val (.int q), .val (.int (16 : Int32))] [(.int (34 : Int32)), (.ref ar), (.ref a1)])
  refine own_step (g' := (mkF m 28 #[.val (.ref a1), .val (.int q), .val (.int (16 : Int32))] [(.ref a1), (.int (34 : Int32)), (.ref ar), (.ref a1)])) (fun _ kont => XS.aloadN X5.here hx rfl (hb hby d9_27) rfl rfl kont) ?_
  obtain ⟨T6, X6, e6, st6⟩ := getF X5 hx hZ hown (host := "") (Or.inl (hw _ (List.mem_of_getElem? (i := 35) rfl))) Via.refl e5 Fc (g := (mkF m 28 #[.val (.ref a1), .val (.int q), .val (.int (16 : Int32))] [(.ref a1), (.int (34 : Int32)), (.ref ar), (.ref a1)])) rfl rfl (hb hby d9_28)
  refine own_via (g' := (mkF m 31 #[.val (.ref a1), .val (.int q), .val (.int (16 : Int32))] [(.int (0 : Int32)), (.int (34 : Int32)), (.ref ar), (.ref a1)])) st6 ?_
  refine own_step (g' := (mkF m 32 #[.val (.ref a1), .val (.int q), .val (.int (16 : Int32))] [(.int ((34 : Int32) <<< ((0 : Int32) &&& 31))), (.ref ar), (.ref a1)])) (fun _ kont => XS.ishl X6.here hx rfl (hb hby d9_31) rfl kont) ?_
  refine own_entry (g' := (mkF m 32 #[.val (.ref a1), .val (.int q), .val (.int (16 : Int32))] [(.int (34 : Int32)), (.ref ar), (.ref a1)])) (by rw [own_shl0]) ?_
  refine own_callS X6 hx hZ (W := 1) hown e6 (rmCp l Z a0 hw [] ar h0 n0 Z0 Bar) (hw _ (List.mem_of_getElem? (i := 237) rfl)) (hw _ (List.mem_of_getElem? (i := 238) rfl)) (hw _ (List.mem_of_getElem? (i := 143) rfl)) (hw _ (List.mem_of_getElem? (i := 239) rfl)) (by decide) (by decide) (by decide) (g := (mkF m 32 #[.val (.ref a1), .val (.int q), .val (.int (16 : Int32))] [(.int (34 : Int32)), (.ref ar), (.ref a1)])) rfl (by rw [hml]; rfl) (argsL := [(.ref ar), (.int (34 : Int32))]) (rest := [(.ref a1)]) rfl (lenOf pd_3 rfl) rfl (by show 2 * 0 + _ ≤ _; exact Nat.le_of_eq rfl) (hb hby d9_32) (by decide) (by decide) ?_
  intro v7 T7 L7 X7 hQ7
  obtain ⟨⟨bb, rfl, szb, g_bb, Bbb, Ebb⟩, Nq7, Kq7⟩ := hQ7
  have N7 := Fr.app N0 Nq7
  have K7 : Keep h0 T7.heap [a1] := KC0.trans Kq7 all0
  have sz_bb : h0.size ≤ bb := Nat.le_trans KC0.1 szb
  show OGo p e below _ T7 (mkF m 35 #[.val (.ref a1), .val (.int q), .val (.int (16 : Int32))] [(.ref bb), (.ref a1)])
  have ne_a1_bb : a1 ≠ bb := Nat.ne_of_lt (Nat.lt_of_lt_of_le E1.lt szb)
  have ne_ar_bb : ar ≠ bb := Nat.ne_of_lt (Nat.lt_of_lt_of_le Bar.lt szb)
  have F_8 : Fld Z T7.heap a1 "java/lang/AbstractStringBuilder" "value" "[B" (.ref ar) := (Fv.keep Kq7 nin0)
  have C_9 : Exa Z T7.heap a1 "java/lang/StringBuilder" := (E1.keep Kq7)
  obtain ⟨T10, h10, X10, e10, W10, st10⟩ := putF X7 hx hZ hown (host := "") (Or.inl (hw _ (List.mem_of_getElem? (i := 33) rfl))) Via.refl rfl F_8 C_9 (Or.inl (hw _ (List.mem_of_getElem? (i := 34) rfl))) (hw _ (List.mem_of_getElem? (i := 18) rfl)) (ty := (.array .byte)) (by decide) rfl rfl (g := (mkF m 35 #[.val (.ref a1), .val (.int q), .val (.int (16 : Int32))] [(.ref bb), (.ref a1)])) rfl rfl (hb hby d9_35)
  have Fw10 := Fld.same W10 F_8
  have N10 := Fr.snoc X10 N7 g_a1
  have K10 : Keep h0 h10 [a1] := K7.wr W10 (Or.inl (List.mem_of_getElem? (i := 0) rfl))
  refine own_via (g' := (mkF m 38 #[.val (.ref a1), .val (.int q), .val (.int (16 : Int32))] [])) st10 ?_
  have By_11 : OBy Z h10 bb (34 : Int32) := (Bbb.other W10 (Ne.symm ne_a1_bb))
  have C_12 : Exa Z h10 bb "[B" := (Exa.wr W10 Ebb)
  have C_13 : Exa Z h10 a1 "java/lang/StringBuilder" := (Exa.wr W10 C_9)
  have F_14 : Fld Z h10 a1 "java/lang/AbstractStringBuilder" "coder" "B" (.int (0 : Int32)) := (Fld.other W10 (Fc.keep Kq7 nin0) (Or.inr (slot_ne (Or.inl (hw _ (List.mem_of_getElem? (i := 36) rfl))) (Or.inl (hw _ (List.mem_of_getElem? (i := 34) rfl))) (by decide) (t := .byte) (t' := (.array .byte)) (by decide) (by decide))))
  have F_15 : Fld Z h10 a1 "java/lang/AbstractStringBuilder" "count" "I" (.int c) := (Fld.other W10 (Fn.keep Kq7 nin0) (Or.inr (slot_ne (Or.inl (hw _ (List.mem_of_getElem? (i := 62) rfl))) (Or.inl (hw _ (List.mem_of_getElem? (i := 34) rfl))) (by decide) (t := .int) (t' := (.array .byte)) (by decide) (by decide))))
  exact own_retV X10 hx hret hlk (hb hby d9_38) e10 (by exact ⟨rfl, ⟨_, sz_bb, g_bb, By_11, C_12, C_13, Fw10, F_14, F_15⟩, N10, K10⟩) (by decide) (by decide)
theorem d8_0 : decode jdk_42_method_152_code 0 = .ok (.getstatic 38, 3) := by decide +kernel
theorem d8_3 : decode jdk_42_method_152_code 3 = .ok (.ifCond .eq 10, 3) := by decide +kernel
theorem d8_6 : decode jdk_42_method_152_code 6 = .ok (.aload_n 0, 1) := by decide +kernel
theorem d8_7 : decode jdk_42_method_152_code 7 = .ok (.getfield 15, 3) := by decide +kernel
theorem d8_10 : decode jdk_42_method_152_code 10 = .ok (.goto 4, 3) := by decide +kernel
theorem d8_14 : decode jdk_42_method_152_code 14 = .ok (.ireturn, 1) := by decide +kernel
theorem pn_8 : plainName "java/lang/String" = true := by first | (simp [plainName, overriddenIn]; done) | decide +kernel
set_option maxRecDepth 65536 in
set_option maxHeartbeats 40000000 in
theorem rmCo (l : Launch) (Z : State) (a0 : Array Value) (hw : ∀ d ∈ tables_1, d.before a0 Z = true) (ws : List Jvm.Cond) (sa va : Addr) (k z : Int32) (h0 : Heap) (n0 : Nat) (Z0 : n0 ≤ h0.size) (S_CS : Sta Z h0 "java/lang/String" "COMPACT_STRINGS" "Z" (.int z)) (hz : ¬ (z = (0 : Int32))) (Es : Exa Z h0 sa "java/lang/String") (Fsv : Fld Z h0 sa "java/lang/String" "value" "[B" (.ref va)) (Fsc : Fld Z h0 sa "java/lang/String" "coder" "B" (.int (0 : Int32))) (Bs : OBy Z h0 va k) :
    OMet l (⟨"java/lang/String", "coder", "()B"⟩ : MethodName) jdk_42_method_152_code 1 (some .byte) ws ({ frames := 0, cells := 0, slots := 0, locals := 0 } : Room) Z #[(.ref sa)] h0 (fun v h L => v = some (.int (0 : Int32)) ∧ L = [] ∧ h = h0) := by
  refine own_body (plainFor_of_name pn_8) ?_
  intro p e s m below meth cdx T0 X0 hx hZ hby hml hown hnm hret hlk e0
  have N0 := Fr.nil n0
  refine own_entry (g' := (mkF m 0 #[.val (.ref sa)] [])) (by first | rfl | (simp [entryFrame, mkF, argsToLocals, Value.category, maxLocals]; done)) ?_
  obtain ⟨T1, X1, e1, st1⟩ := getS2 X0 hx hZ hown (host := "") (Or.inl (hw _ (List.mem_of_getElem? (i := 59) rfl))) Via.refl e0 S_CS (g := (mkF m 0 #[.val (.ref sa)] [])) rfl (hb hby d8_0)
  refine own_via (g' := (mkF m 3 #[.val (.ref sa)] [(.int z)])) st1 ?_
  refine own_step (g' := (mkF m 6 #[.val (.ref sa)] [])) (fun _ kont => XS.ifNo X1.here hx rfl (hb hby d8_3) rfl ((if0 _ _).trans (feq hz).1) kont) ?_
  refine own_step (g' := (mkF m 7 #[.val (.ref sa)] [(.ref sa)])) (fun _ kont => XS.aloadN X1.here hx rfl (hb hby d8_6) rfl rfl kont) ?_
  obtain ⟨T2, X2, e2, st2⟩ := getF X1 hx hZ hown (host := "") (Or.inl (hw _ (List.mem_of_getElem? (i := 60) rfl))) Via.refl e1 Fsc (g := (mkF m 7 #[.val (.ref sa)] [(.ref sa)])) rfl rfl (hb hby d8_7)
  refine own_via (g' := (mkF m 10 #[.val (.ref sa)] [(.int (0 : Int32))])) st2 ?_
  refine own_step (g' := (mkF m 14 #[.val (.ref sa)] [(.int (0 : Int32))])) (fun _ kont => XS.goto X2.here hx rfl (pc0 := 10) (pc' := 14) rfl (hb hby d8_10) (by decide) (by decide) kont) ?_
  exact own_retN X2 hx (t := .byte) hret (by simp) hlk (hb hby d8_14) e2 (by exact ⟨rfl, rfl, rfl⟩) (by decide) (by decide)
theorem d7_0 : decode jdk_42_method_54_code 0 = .ok (.aload_n 0, 1) := by decide +kernel
theorem d7_1 : decode jdk_42_method_54_code 1 = .ok (.getfield 9, 3) := by decide +kernel
theorem d7_4 : decode jdk_42_method_54_code 4 = .ok (.arraylength, 1) := by decide +kernel
theorem d7_5 : decode jdk_42_method_54_code 5 = .ok (.aload_n 0, 1) := by decide +kernel
theorem d7_6 : decode jdk_42_method_54_code 6 = .ok (.invokevirtual 335, 3) := by decide +kernel
theorem d7_9 : decode jdk_42_method_54_code 9 = .ok (.ishr, 1) := by decide +kernel
theorem d7_10 : decode jdk_42_method_54_code 10 = .ok (.ireturn, 1) := by decide +kernel
theorem pd_4 : parseMethodDescriptor "()B" = some ⟨[], some .byte⟩ := by decide +kernel
set_option maxRecDepth 65536 in
set_option maxHeartbeats 40000000 in
theorem rmLn (l : Launch) (Z : State) (a0 : Array Value) (hw : ∀ d ∈ tables_1, d.before a0 Z = true) (ws : List Jvm.Cond) (sa va : Addr) (k z : Int32) (h0 : Heap) (n0 : Nat) (Z0 : n0 ≤ h0.size) (S_CS : Sta Z h0 "java/lang/String" "COMPACT_STRINGS" "Z" (.int z)) (hz : ¬ (z = (0 : Int32))) (Es : Exa Z h0 sa "java/lang/String") (Fsv : Fld Z h0 sa "java/lang/String" "value" "[B" (.ref va)) (Fsc : Fld Z h0 sa "java/lang/String" "coder" "B" (.int (0 : Int32))) (Bs : OBy Z h0 va k) :
    OMet l (⟨"java/lang/String", "length", "()I"⟩ : MethodName) jdk_42_method_54_code 1 (some .int) ws ({ frames := 1, cells := 0, slots := 0, locals := 13 } : Room) Z #[(.ref sa)] h0 (fun v h L => v = some (.int k) ∧ L = [] ∧ h = h0) := by
  refine own_body (plainFor_of_name pn_8) ?_
  intro p e s m below meth cdx T0 X0 hx hZ hby hml hown hnm hret hlk e0
  have N0 := Fr.nil n0
  refine own_entry (g' := (mkF m 0 #[.val (.ref sa)] [])) (by first | rfl | (simp [entryFrame, mkF, argsToLocals, Value.category, maxLocals]; done)) ?_
  refine own_step (g' := (mkF m 1 #[.val (.ref sa)] [(.ref sa)])) (fun _ kont => XS.aloadN X0.here hx rfl (hb hby d7_0) rfl rfl kont) ?_
  obtain ⟨T1, X1, e1, st1⟩ := getF X0 hx hZ hown (host := "") (Or.inl (hw _ (List.mem_of_getElem? (i := 53) rfl))) Via.refl e0 Fsv (g := (mkF m 1 #[.val (.ref sa)] [(.ref sa)])) rfl rfl (hb hby d7_1)
  refine own_via (g' := (mkF m 4 #[.val (.ref sa)] [(.ref va)])) st1 ?_
  obtain ⟨-, -, ⟨cl2, Ar2, q2, S2, M2, H2, G2⟩, -⟩ := id Bs
  refine own_step (g' := (mkF m 5 #[.val (.ref sa)] [(.int k)])) (own_len (len_of S2 M2) (X1.arraylength hx (by rw [e1]; exact Ar2.1) (State.isArrayOf_alike hZ.alike Ar2.2.1) (g := (mkF m 4 #[.val (.ref sa)] [(.ref va)])) rfl rfl (hb hby d7_4))) ?_
  refine own_step (g' := (mkF m 6 #[.val (.ref sa)] [(.ref sa), (.int k)])) (fun _ kont => XS.aloadN X1.here hx rfl (hb hby d7_5) rfl rfl kont) ?_
  refine own_callV X1 hx hZ (W := 1) hown e1 (rmCo l Z a0 hw [] sa va k z h0 n0 Z0 S_CS hz Es Fsv Fsc Bs) Es (hw _ (List.mem_of_getElem? (i := 54) rfl)) (hw _ (List.mem_of_getElem? (i := 55) rfl)) (notFace_of_selects (args := #[]) (mvT hZ (hw _ (List.mem_of_getElem? (i := 57) rfl)))) (hw _ (List.mem_of_getElem? (i := 57) rfl)) (hw _ (List.mem_of_getElem? (i := 56) rfl)) (hw _ (List.mem_of_getElem? (i := 58) rfl)) (hw _ (List.mem_of_getElem? (i := 10) rfl)) (by decide) (by decide) (by decide) (g := (mkF m 6 #[.val (.ref sa)] [(.ref sa), (.int k)])) rfl (by rw [hml]; rfl) (argsL := []) (rest := [(.int k)]) rfl (lenOf pd_4 rfl) rfl (by show 2 * 0 + _ ≤ _; exact Nat.le_of_eq rfl) (hb hby d7_6) (by decide) (by decide) ?_
  intro v3 T3 L3 X3 hQ3
  obtain ⟨rfl, rfl, e3⟩ := hQ3
  replace X3 := own_pureX X3
  show OGo p e below _ T3 (mkF m 9 #[.val (.ref sa)] [(.int (0 : Int32)), (.int k)])
  refine own_step (g' := (mkF m 10 #[.val (.ref sa)] [(.int (k >>> ((0 : Int32) &&& 31)))])) (fun _ kont => XS.ishr X3.here hx rfl (hb hby d7_9) rfl kont) ?_
  refine own_entry (g' := (mkF m 10 #[.val (.ref sa)] [(.int k)])) (by rw [own_shr0]) ?_
  exact own_retI X3 hx hret hlk (hb hby d7_10) e3 (by exact ⟨rfl, rfl, rfl⟩) (by decide) (by decide)
theorem d11_0 : decode jdk_68_method_71_code 0 = .ok (.getstatic 18, 3) := by decide +kernel
theorem d11_3 : decode jdk_68_method_71_code 3 = .ok (.ifCond .eq 18, 3) := by decide +kernel
theorem d11_6 : decode jdk_68_method_71_code 6 = .ok (.aload_n 0, 1) := by decide +kernel
theorem d11_7 : decode jdk_68_method_71_code 7 = .ok (.getfield 22, 3) := by decide +kernel
theorem d11_10 : decode jdk_68_method_71_code 10 = .ok (.aload_n 1, 1) := by decide +kernel
theorem d11_11 : decode jdk_68_method_71_code 11 = .ok (.invokevirtual 40, 3) := by decide +kernel
theorem d11_14 : decode jdk_68_method_71_code 14 = .ok (.if_icmp .eq 7, 3) := by decide +kernel
theorem d11_21 : decode jdk_68_method_71_code 21 = .ok (.return_, 1) := by decide +kernel
set_option maxRecDepth 65536 in
set_option maxHeartbeats 40000000 in
theorem rmIn (l : Launch) (Z : State) (a0 : Array Value) (hw : ∀ d ∈ tables_1, d.before a0 Z = true) (ws : List Jvm.Cond) (a1 ar sa va : Addr) (c k z : Int32) (h0 : Heap) (n0 : Nat) (Z0 : n0 ≤ h0.size) (S_CS : Sta Z h0 "java/lang/String" "COMPACT_STRINGS" "Z" (.int z)) (hz : ¬ (z = (0 : Int32))) (E1 : Exa Z h0 a1 "java/lang/StringBuilder") (Fv : Fld Z h0 a1 "java/lang/AbstractStringBuilder" "value" "[B" (.ref ar)) (Fc : Fld Z h0 a1 "java/lang/AbstractStringBuilder" "coder" "B" (.int (0 : Int32))) (Fn : Fld Z h0 a1 "java/lang/AbstractStringBuilder" "count" "I" (.int c)) (Es : Exa Z h0 sa "java/lang/String") (Fsv : Fld Z h0 sa "java/lang/String" "value" "[B" (.ref va)) (Fsc : Fld Z h0 sa "java/lang/String" "coder" "B" (.int (0 : Int32))) (Bs : OBy Z h0 va k) :
    OMet l (⟨"java/lang/AbstractStringBuilder", "inflateIfNeededFor", "(Ljava/lang/String;)V"⟩ : MethodName) jdk_68_method_71_code 2 none ws ({ frames := 1, cells := 0, slots := 0, locals := 13 } : Room) Z #[(.ref a1), (.ref sa)] h0 (fun v h L => v = none ∧ L = [] ∧ h = h0) := by
  refine own_body (plainFor_of_name pn_35) ?_
  intro p e s m below meth cdx T0 X0 hx hZ hby hml hown hnm hret hlk e0
  have N0 := Fr.nil n0
  refine own_entry (g' := (mkF m 0 #[.val (.ref a1), .val (.ref sa)] [])) (by first | rfl | (simp [entryFrame, mkF, argsToLocals, Value.category, maxLocals]; done)) ?_
  obtain ⟨T1, X1, e1, st1⟩ := getS2 X0 hx hZ hown (host := "") (Or.inl (hw _ (List.mem_of_getElem? (i := 32) rfl))) Via.refl e0 S_CS (g := (mkF m 0 #[.val (.ref a1), .val (.ref sa)] [])) rfl (hb hby d11_0)
  refine own_via (g' := (mkF m 3 #[.val (.ref a1), .val (.ref sa)] [(.int z)])) st1 ?_
  refine own_step (g' := (mkF m 6 #[.val (.ref a1), .val (.ref sa)] [])) (fun _ kont => XS.ifNo X1.here hx rfl (hb hby d11_3) rfl ((if0 _ _).trans (feq hz).1) kont) ?_
  refine own_step (g' := (mkF m 7 #[.val (.ref a1), .val (.ref sa)] [(.ref a1)])) (fun _ kont => XS.aloadN X1.here hx rfl (hb hby d11_6) rfl rfl kont) ?_
  obtain ⟨T2, X2, e2, st2⟩ := getF X1 hx hZ hown (host := "") (Or.inl (hw _ (List.mem_of_getElem? (i := 35) rfl))) Via.refl e1 Fc (g := (mkF m 7 #[.val (.ref a1), .val (.ref sa)] [(.ref a1)])) rfl rfl (hb hby d11_7)
  refine own_via (g' := (mkF m 10 #[.val (.ref a1), .val (.ref sa)] [(.int (0 : Int32))])) st2 ?_
  refine own_step (g' := (mkF m 11 #[.val (.ref a1), .val (.ref sa)] [(.ref sa), (.int (0 : Int32))])) (fun _ kont => XS.aloadN X2.here hx rfl (hb hby d11_10) rfl rfl kont) ?_
  refine own_callV X2 hx hZ (W := 1) hown e2 (rmCo l Z a0 hw [] sa va k z h0 n0 Z0 S_CS hz Es Fsv Fsc Bs) Es (hw _ (List.mem_of_getElem? (i := 78) rfl)) (hw _ (List.mem_of_getElem? (i := 55) rfl)) (notFace_of_selects (args := #[]) (mvT hZ (hw _ (List.mem_of_getElem? (i := 57) rfl)))) (hw _ (List.mem_of_getElem? (i := 57) rfl)) (hw _ (List.mem_of_getElem? (i := 56) rfl)) (hw _ (List.mem_of_getElem? (i := 58) rfl)) (hw _ (List.mem_of_getElem? (i := 10) rfl)) (by decide) (by decide) (by decide) (g := (mkF m 11 #[.val (.ref a1), .val (.ref sa)] [(.ref sa), (.int (0 : Int32))])) rfl (by rw [hml]; rfl) (argsL := []) (rest := [(.int (0 : Int32))]) rfl (lenOf pd_4 rfl) rfl (by show 2 * 0 + _ ≤ _; exact Nat.le_of_eq rfl) (hb hby d11_11) (by decide) (by decide) ?_
  intro v3 T3 L3 X3 hQ3
  obtain ⟨rfl, rfl, e3⟩ := hQ3
  replace X3 := own_pureX X3
  show OGo p e below _ T3 (mkF m 14 #[.val (.ref a1), .val (.ref sa)] [(.int (0 : Int32)), (.int (0 : Int32))])
  refine own_step (g' := (mkF m 21 #[.val (.ref a1), .val (.ref sa)] [])) (fun _ kont => XS.icmpYes X3.here hx rfl (pc0 := 14) (pc' := 21) rfl (hb hby d11_14) rfl (teq (by decide : (0 : Int32) = (0 : Int32))).1 (by decide) (by decide) kont) ?_
  exact own_retV X3 hx hret hlk (hb hby d11_21) e3 (by exact ⟨rfl, rfl, rfl⟩) (by decide) (by decide)
theorem d12_0 : decode jdk_42_method_147_code 0 = .ok (.aload_n 0, 1) := by decide +kernel
theorem d12_1 : decode jdk_42_method_147_code 1 = .ok (.invokevirtual 335, 3) := by decide +kernel
theorem d12_4 : decode jdk_42_method_147_code 4 = .ok (.iload_n 3, 1) := by decide +kernel
theorem d12_5 : decode jdk_42_method_147_code 5 = .ok (.if_icmp .ne 23, 3) := by decide +kernel
theorem d12_8 : decode jdk_42_method_147_code 8 = .ok (.aload_n 0, 1) := by decide +kernel
theorem d12_9 : decode jdk_42_method_147_code 9 = .ok (.getfield 9, 3) := by decide +kernel
theorem d12_12 : decode jdk_42_method_147_code 12 = .ok (.iconst 0, 1) := by decide +kernel
theorem d12_13 : decode jdk_42_method_147_code 13 = .ok (.aload_n 1, 1) := by decide +kernel
theorem d12_14 : decode jdk_42_method_147_code 14 = .ok (.iload_n 2, 1) := by decide +kernel
theorem d12_15 : decode jdk_42_method_147_code 15 = .ok (.iload_n 3, 1) := by decide +kernel
theorem d12_16 : decode jdk_42_method_147_code 16 = .ok (.ishl, 1) := by decide +kernel
theorem d12_17 : decode jdk_42_method_147_code 17 = .ok (.aload_n 0, 1) := by decide +kernel
theorem d12_18 : decode jdk_42_method_147_code 18 = .ok (.getfield 9, 3) := by decide +kernel
theorem d12_21 : decode jdk_42_method_147_code 21 = .ok (.arraylength, 1) := by decide +kernel
theorem d12_22 : decode jdk_42_method_147_code 22 = .ok (.invokestatic 212, 3) := by decide +kernel
theorem d12_25 : decode jdk_42_method_147_code 25 = .ok (.goto 18, 3) := by decide +kernel
theorem d12_43 : decode jdk_42_method_147_code 43 = .ok (.return_, 1) := by decide +kernel
set_option maxRecDepth 65536 in
set_option maxHeartbeats 40000000 in
theorem rmGB (l : Launch) (Z : State) (a0 : Array Value) (hw : ∀ d ∈ tables_1, d.before a0 Z = true) (ws : List Jvm.Cond) (sa va ar : Addr) (c k z zz : Int32) (h0 : Heap) (n0 : Nat) (Z0 : n0 ≤ h0.size) (S_CS : Sta Z h0 "java/lang/String" "COMPACT_STRINGS" "Z" (.int z)) (hz : ¬ (z = (0 : Int32))) (g_ar : n0 ≤ ar) (Es : Exa Z h0 sa "java/lang/String") (Fsv : Fld Z h0 sa "java/lang/String" "value" "[B" (.ref va)) (Fsc : Fld Z h0 sa "java/lang/String" "coder" "B" (.int (0 : Int32))) (Bs : OBy Z h0 va k) (Bar : OBy Z h0 ar zz) (hc0 : 0 ≤ c.toInt) (hk0 : 0 ≤ k.toInt) (hcz : c.toInt + k.toInt ≤ zz.toInt) :
    OMet l (⟨"java/lang/String", "getBytes", "([BIB)V"⟩ : MethodName) jdk_42_method_147_code 4 none ws ({ frames := 1, cells := 0, slots := 0, locals := 40 } : Room) Z #[(.ref sa), (.ref ar), (.int c), (.int (0 : Int32))] h0 (fun v h L => v = none ∧ Fr n0 L ∧ Keep h0 h [ar] ∧ OBy Z h ar zz) := by
  refine own_body (plainFor_of_name pn_8) ?_
  intro p e s m below meth cdx T0 X0 hx hZ hby hml hown hnm hret hlk e0
  have N0 := Fr.nil n0
  refine own_entry (g' := (mkF m 0 #[.val (.ref sa), .val (.ref ar), .val (.int c), .val (.int (0 : Int32))] [])) (by first | rfl | (simp [entryFrame, mkF, argsToLocals, Value.category, maxLocals]; done)) ?_
  have KC0 := Keep.refl h0 [ar]
  refine own_step (g' := (mkF m 1 #[.val (.ref sa), .val (.ref ar), .val (.int c), .val (.int (0 : Int32))] [(.ref sa)])) (fun _ kont => XS.aloadN X0.here hx rfl (hb hby d12_0) rfl rfl kont) ?_
  refine own_callV X0 hx hZ (W := 0) hown e0 (rmCo l Z a0 hw [] sa va k z h0 n0 Z0 S_CS hz Es Fsv Fsc Bs) Es (hw _ (List.mem_of_getElem? (i := 54) rfl)) (hw _ (List.mem_of_getElem? (i := 55) rfl)) (notFace_of_selects (args := #[]) (mvT hZ (hw _ (List.mem_of_getElem? (i := 57) rfl)))) (hw _ (List.mem_of_getElem? (i := 57) rfl)) (hw _ (List.mem_of_getElem? (i := 56) rfl)) (hw _ (List.mem_of_getElem? (i := 58) rfl)) (hw _ (List.mem_of_getElem? (i := 10) rfl)) (by decide) (by decide) (by decide) (g := (mkF m 1 #[.val (.ref sa), .val (.ref ar), .val (.int c), .val (.int (0 : Int32))] [(.ref sa)])) rfl (by rw [hml]; rfl) (argsL := []) (rest := []) rfl (lenOf pd_4 rfl) rfl (by show 2 * 0 + _ ≤ _; exact Nat.le_of_eq rfl) (hb hby d12_1) (by decide) (by decide) ?_
  intro v1 T1 L1 X1 hQ1
  obtain ⟨rfl, rfl, e1⟩ := hQ1
  replace X1 := own_pureX X1
  show OGo p e below _ T1 (mkF m 4 #[.val (.ref sa), .val (.ref ar), .val (.int c), .val (.int (0 : Int32))] [(.int (0 : Int32))])
  refine own_step (g' := (mkF m 5 #[.val (.ref sa), .val (.ref ar), .val (.int c), .val (.int (0 : Int32))] [(.int (0 : Int32)), (.int (0 : Int32))])) (fun _ kont => XS.iloadN X1.here hx rfl (hb hby d12_4) rfl kont) ?_
  refine own_step (g' := (mkF m 8 #[.val (.ref sa), .val (.ref ar), .val (.int c), .val (.int (0 : Int32))] [])) (fun _ kont => XS.icmpNo X1.here hx rfl (hb hby d12_5) rfl (teq (by decide : (0 : Int32) = (0 : Int32))).2 kont) ?_
  refine own_step (g' := (mkF m 9 #[.val (.ref sa), .val (.ref ar), .val (.int c), .val (.int (0 : Int32))] [(.ref sa)])) (fun _ kont => XS.aloadN X1.here hx rfl (hb hby d12_8) rfl rfl kont) ?_
  obtain ⟨T2, X2, e2, st2⟩ := getF X1 hx hZ hown (host := "") (Or.inl (hw _ (List.mem_of_getElem? (i := 53) rfl))) Via.refl e1 Fsv (g := (mkF m 9 #[.val (.ref sa), .val (.ref ar), .val (.int c), .val (.int (0 : Int32))] [(.ref sa)])) rfl rfl (hb hby d12_9)
  refine own_via (g' := (mkF m 12 #[.val (.ref sa), .val (.ref ar), .val (.int c), .val (.int (0 : Int32))] [(.ref va)])) st2 ?_
  refine own_step (g' := (mkF m 13 #[.val (.ref sa), .val (.ref ar), .val (.int c), .val (.int (0 : Int32))] [(.int (0 : Int32)), (.ref va)])) (fun _ kont => XS.iconst X2.here hx rfl (hb hby d12_12) kont) ?_
  refine own_step (g' := (mkF m 14 #[.val (.ref sa), .val (.ref ar), .val (.int c), .val (.int (0 : Int32))] [(.ref ar), (.int (0 : Int32)), (.ref va)])) (fun _ kont => XS.aloadN X2.here hx rfl (hb hby d12_13) rfl rfl kont) ?_
  refine own_step (g' := (mkF m 15 #[.val (.ref sa), .val (.ref ar), .val (.int c), .val (.int (0 : Int32))] [(.int c), (.ref ar), (.int (0 : Int32)), (.ref va)])) (fun _ kont => XS.iloadN X2.here hx rfl (hb hby d12_14) rfl kont) ?_
  refine own_step (g' := (mkF m 16 #[.val (.ref sa), .val (.ref ar), .val (.int c), .val (.int (0 : Int32))] [(.int (0 : Int32)), (.int c), (.ref ar), (.int (0 : Int32)), (.ref va)])) (fun _ kont => XS.iloadN X2.here hx rfl (hb hby d12_15) rfl kont) ?_
  refine own_step (g' := (mkF m 17 #[.val (.ref sa), .val (.ref ar), .val (.int c), .val (.int (0 : Int32))] [(.int (c <<< ((0 : Int32) &&& 31))), (.ref ar), (.int (0 : Int32)), (.ref va)])) (fun _ kont => XS.ishl X2.here hx rfl (hb hby d12_16) rfl kont) ?_
  refine own_entry (g' := (mkF m 17 #[.val (.ref sa), .val (.ref ar), .val (.int c), .val (.int (0 : Int32))] [(.int c), (.ref ar), (.int (0 : Int32)), (.ref va)])) (by rw [own_shl0]) ?_
  refine own_step (g' := (mkF m 18 #[.val (.ref sa), .val (.ref ar), .val (.int c), .val (.int (0 : Int32))] [(.ref sa), (.int c), (.ref ar), (.int (0 : Int32)), (.ref va)])) (fun _ kont => XS.aloadN X2.here hx rfl (hb hby d12_17) rfl rfl kont) ?_
  obtain ⟨T3, X3, e3, st3⟩ := getF X2 hx hZ hown (host := "") (Or.inl (hw _ (List.mem_of_getElem? (i := 53) rfl))) Via.refl e2 Fsv (g := (mkF m 18 #[.val (.ref sa), .val (.ref ar), .val (.int c), .val (.int (0 : Int32))] [(.ref sa), (.int c), (.ref ar), (.int (0 : Int32)), (.ref va)])) rfl rfl (hb hby d12_18)
  refine own_via (g' := (mkF m 21 #[.val (.ref sa), .val (.ref ar), .val (.int c), .val (.int (0 : Int32))] [(.ref va), (.int c), (.ref ar), (.int (0 : Int32)), (.ref va)])) st3 ?_
  obtain ⟨-, -, ⟨cl4, Ar4, q4, S4, M4, H4, G4⟩, -⟩ := id Bs
  refine own_step (g' := (mkF m 22 #[.val (.ref sa), .val (.ref ar), .val (.int c), .val (.int (0 : Int32))] [(.int k), (.int c), (.ref ar), (.int (0 : Int32)), (.ref va)])) (own_len (len_of S4 M4) (X3.arraylength hx (by rw [e3]; exact Ar4.1) (State.isArrayOf_alike hZ.alike Ar4.2.1) (g := (mkF m 21 #[.val (.ref sa), .val (.ref ar), .val (.int c), .val (.int (0 : Int32))] [(.ref va), (.int c), (.ref ar), (.int (0 : Int32)), (.ref va)])) rfl rfl (hb hby d12_21))) ?_
  obtain ⟨T5, h5, L5, X5, e5, N5, Kq5, By5, st5⟩ := own_cpB X3 hx hZ (W := 0) hown (hw _ (List.mem_of_getElem? (i := 84) rfl)) (hw _ (List.mem_of_getElem? (i := 87) rfl)) (hw _ (List.mem_of_getElem? (i := 85) rfl)) (hw _ (List.mem_of_getElem? (i := 86) rfl)) e3 Bs Bar (by decide) (own_nlt hc0) (own_nlt hk0) (by rw [own_i0]; omega) hcz N0 g_ar (g := (mkF m 22 #[.val (.ref sa), .val (.ref ar), .val (.int c), .val (.int (0 : Int32))] [(.int k), (.int c), (.ref ar), (.int (0 : Int32)), (.ref va)])) rfl (by rw [hml]; rfl) rfl (hb hby d12_22) (by decide) (by show 2 * 0 + _ ≤ _; exact Nat.le_of_eq rfl) (by decide +kernel)
  have K5 : Keep h0 h5 [ar] := KC0.trans Kq5 (allS (Or.inl (List.mem_of_getElem? (i := 0) rfl)) all0)
  refine own_via (g' := (mkF m 25 #[.val (.ref sa), .val (.ref ar), .val (.int c), .val (.int (0 : Int32))] [])) st5 ?_
  refine own_step (g' := (mkF m 43 #[.val (.ref sa), .val (.ref ar), .val (.int c), .val (.int (0 : Int32))] [])) (fun _ kont => XS.goto X5.here hx rfl (pc0 := 25) (pc' := 43) rfl (hb hby d12_25) (by decide) (by decide) kont) ?_
  exact own_retV X5 hx hret hlk (hb hby d12_43) e5 (by exact ⟨rfl, N5, K5, By5⟩) (by decide) (by decide)
theorem d10_0 : decode jdk_68_method_73_code 0 = .ok (.aload_n 0, 1) := by decide +kernel
theorem d10_1 : decode jdk_68_method_73_code 1 = .ok (.aload_n 2, 1) := by decide +kernel
theorem d10_2 : decode jdk_68_method_73_code 2 = .ok (.invokevirtual 397, 3) := by decide +kernel
theorem d10_5 : decode jdk_68_method_73_code 5 = .ok (.aload_n 2, 1) := by decide +kernel
theorem d10_6 : decode jdk_68_method_73_code 6 = .ok (.aload_n 0, 1) := by decide +kernel
theorem d10_7 : decode jdk_68_method_73_code 7 = .ok (.getfield 15, 3) := by decide +kernel
theorem d10_10 : decode jdk_68_method_73_code 10 = .ok (.iload_n 1, 1) := by decide +kernel
theorem d10_11 : decode jdk_68_method_73_code 11 = .ok (.aload_n 0, 1) := by decide +kernel
theorem d10_12 : decode jdk_68_method_73_code 12 = .ok (.getfield 22, 3) := by decide +kernel
theorem d10_15 : decode jdk_68_method_73_code 15 = .ok (.invokevirtual 399, 3) := by decide +kernel
theorem d10_18 : decode jdk_68_method_73_code 18 = .ok (.return_, 1) := by decide +kernel
theorem pd_5 : parseMethodDescriptor "(Ljava/lang/String;)V" = some ⟨[(.object "java/lang/String")], none⟩ := by decide +kernel
theorem pd_6 : parseMethodDescriptor "([BIB)V" = some ⟨[(.array .byte), .int, .byte], none⟩ := by decide +kernel
set_option maxRecDepth 65536 in
set_option maxHeartbeats 40000000 in
theorem rmPu (l : Launch) (Z : State) (a0 : Array Value) (hw : ∀ d ∈ tables_1, d.before a0 Z = true) (ws : List Jvm.Cond) (a1 ar sa va : Addr) (c k z zz : Int32) (h0 : Heap) (n0 : Nat) (Z0 : n0 ≤ h0.size) (S_CS : Sta Z h0 "java/lang/String" "COMPACT_STRINGS" "Z" (.int z)) (hz : ¬ (z = (0 : Int32))) (g_ar : n0 ≤ ar) (E1 : Exa Z h0 a1 "java/lang/StringBuilder") (Fv : Fld Z h0 a1 "java/lang/AbstractStringBuilder" "value" "[B" (.ref ar)) (Fc : Fld Z h0 a1 "java/lang/AbstractStringBuilder" "coder" "B" (.int (0 : Int32))) (Fn : Fld Z h0 a1 "java/lang/AbstractStringBuilder" "count" "I" (.int c)) (Bar : OBy Z h0 ar zz) (Es : Exa Z h0 sa "java/lang/String") (Fsv : Fld Z h0 sa "java/lang/String" "value" "[B" (.ref va)) (Fsc : Fld Z h0 sa "java/lang/String" "coder" "B" (.int (0 : Int32))) (Bs : OBy Z h0 va k) (hc0 : 0 ≤ c.toInt) (hk0 : 0 ≤ k.toInt) (hcz : c.toInt + k.toInt ≤ zz.toInt) :
    OMet l (⟨"java/lang/AbstractStringBuilder", "putStringAt", "(ILjava/lang/String;)V"⟩ : MethodName) jdk_68_method_73_code 3 none ws ({ frames := 2, cells := 0, slots := 0, locals := 55 } : Room) Z #[(.ref a1), (.int c), (.ref sa)] h0 (fun v h L => v = none ∧ Fr n0 L ∧ Keep h0 h [ar] ∧ OBy Z h ar zz) := by
  refine own_body (plainFor_of_name pn_35) ?_
  intro p e s m below meth cdx T0 X0 hx hZ hby hml hown hnm hret hlk e0
  have N0 := Fr.nil n0
  refine own_entry (g' := (mkF m 0 #[.val (.ref a1), .val (.int c), .val (.ref sa)] [])) (by first | rfl | (simp [entryFrame, mkF, argsToLocals, Value.category, maxLocals]; done)) ?_
  have KC0 := Keep.refl h0 [ar]
  refine own_step (g' := (mkF m 1 #[.val (.ref a1), .val (.int c), .val (.ref sa)] [(.ref a1)])) (fun _ kont => XS.aloadN X0.here hx rfl (hb hby d10_0) rfl rfl kont) ?_
  refine own_step (g' := (mkF m 2 #[.val (.ref a1), .val (.int c), .val (.ref sa)] [(.ref sa), (.ref a1)])) (fun _ kont => XS.aloadN X0.here hx rfl (hb hby d10_1) rfl rfl kont) ?_
  refine own_callV X0 hx hZ (W := 0) hown e0 (rmIn l Z a0 hw [] a1 ar sa va c k z h0 n0 Z0 S_CS hz E1 Fv Fc Fn Es Fsv Fsc Bs) E1 (hw _ (List.mem_of_getElem? (i := 73) rfl)) (own_declares (hw _ (List.mem_of_getElem? (i := 74) rfl)) (hw _ (List.mem_of_getElem? (i := 77) rfl))) (notFace_of_selects (args := #[]) (mvT hZ (hw _ (List.mem_of_getElem? (i := 76) rfl)))) (hw _ (List.mem_of_getElem? (i := 76) rfl)) (hw _ (List.mem_of_getElem? (i := 74) rfl)) (hw _ (List.mem_of_getElem? (i := 77) rfl)) (hw _ (List.mem_of_getElem? (i := 27) rfl)) (by decide) (by decide) (by decide) (g := (mkF m 2 #[.val (.ref a1), .val (.int c), .val (.ref sa)] [(.ref sa), (.ref a1)])) rfl (by rw [hml]; rfl) (argsL := [(.ref sa)]) (rest := []) rfl (lenOf pd_5 rfl) rfl (by show 2 * 0 + _ ≤ _; exact Nat.le_of_eq rfl) (hb hby d10_2) (by decide) (by decide) ?_
  intro v1 T1 L1 X1 hQ1
  obtain ⟨rfl, rfl, e1⟩ := hQ1
  replace X1 := own_pureX X1
  show OGo p e below _ T1 (mkF m 5 #[.val (.ref a1), .val (.int c), .val (.ref sa)] [])
  refine own_step (g' := (mkF m 6 #[.val (.ref a1), .val (.int c), .val (.ref sa)] [(.ref sa)])) (fun _ kont => XS.aloadN X1.here hx rfl (hb hby d10_5) rfl rfl kont) ?_
  refine own_step (g' := (mkF m 7 #[.val (.ref a1), .val (.int c), .val (.ref sa)] [(.ref a1), (.ref sa)])) (fun _ kont => XS.aloadN X1.here hx rfl (hb hby d10_6) rfl rfl kont) ?_
  obtain ⟨T2, X2, e2, st2⟩ := getF X1 hx hZ hown (host := "") (Or.inl (hw _ (List.mem_of_getElem? (i := 33) rfl))) Via.refl e1 Fv (g := (mkF m 7 #[.val (.ref a1), .val (.int c), .val (.ref sa)] [(.ref a1), (.ref sa)])) rfl rfl (hb hby d10_7)
  refine own_via (g' := (mkF m 10 #[.val (.ref a1), .val (.int c), .val (.ref sa)] [(.ref ar), (.ref sa)])) st2 ?_
  refine own_step (g' := (mkF m 11 #[.val (.ref a1), .val (.int c), .val (.ref sa)] [(.int c), (.ref ar), (.ref sa)])) (fun _ kont => XS.iloadN X2.here hx rfl (hb hby d10_10) rfl kont) ?_
  refine own_step (g' := (mkF m 12 #[.val (.ref a1), .val (.int c), .val (.ref sa)] [(.ref a1), (.int c), (.ref ar), (.ref sa)])) (fun _ kont => XS.aloadN X2.here hx rfl (hb hby d10_11) rfl rfl kont) ?_
  obtain ⟨T3, X3, e3, st3⟩ := getF X2 hx hZ hown (host := "") (Or.inl (hw _ (List.mem_of_getElem? (i := 35) rfl))) Via.refl e2 Fc (g := (mkF m 12 #[.val (.ref a1), .val (.int c), .val (.ref sa)] [(.ref a1), (.int c), (.ref ar), (.ref sa)])) rfl rfl (hb hby d10_12)
  refine own_via (g' := (mkF m 15 #[.val (.ref a1), .val (.int c), .val (.ref sa)] [(.int (0 : Int32)), (.int c), (.ref ar), (.ref sa)])) st3 ?_
  refine own_callV X3 hx hZ (W := 0) hown e3 (rmGB l Z a0 hw [] sa va ar c k z zz h0 n0 Z0 S_CS hz g_ar Es Fsv Fsc Bs Bar hc0 hk0 hcz) Es (hw _ (List.mem_of_getElem? (i := 79) rfl)) (hw _ (List.mem_of_getElem? (i := 80) rfl)) (notFace_of_selects (args := #[]) (mvT hZ (hw _ (List.mem_of_getElem? (i := 82) rfl)))) (hw _ (List.mem_of_getElem? (i := 82) rfl)) (hw _ (List.mem_of_getElem? (i := 81) rfl)) (hw _ (List.mem_of_getElem? (i := 83) rfl)) (hw _ (List.mem_of_getElem? (i := 10) rfl)) (by decide) (by decide) (by decide) (g := (mkF m 15 #[.val (.ref a1), .val (.int c), .val (.ref sa)] [(.int (0 : Int32)), (.int c), (.ref ar), (.ref sa)])) rfl (by rw [hml]; rfl) (argsL := [(.ref ar), (.int c), (.int (0 : Int32))]) (rest := []) rfl (lenOf pd_6 rfl) rfl (by show 2 * 0 + _ ≤ _; exact Nat.le_of_eq rfl) (hb hby d10_15) (by decide) (by decide) ?_
  intro v4 T4 L4 X4 hQ4
  obtain ⟨rfl, Nq4, Kq4, Bq⟩ := hQ4
  have N4 := Fr.app N0 Nq4
  have K4 : Keep h0 T4.heap [ar] := KC0.trans Kq4 (allS (Or.inl (List.mem_of_getElem? (i := 0) rfl)) all0)
  show OGo p e below _ T4 (mkF m 18 #[.val (.ref a1), .val (.int c), .val (.ref sa)] [])
  exact own_retV X4 hx hret hlk (hb hby d10_18) rfl (by exact ⟨rfl, N4, K4, Bq⟩) (by decide) (by decide)
theorem d6_0 : decode jdk_68_method_22_code 0 = .ok (.aload_n 1, 1) := by decide +kernel
theorem d6_1 : decode jdk_68_method_22_code 1 = .ok (.ifnonnull 8, 3) := by decide +kernel
theorem d6_9 : decode jdk_68_method_22_code 9 = .ok (.aload_n 1, 1) := by decide +kernel
theorem d6_10 : decode jdk_68_method_22_code 10 = .ok (.invokevirtual 32, 3) := by decide +kernel
theorem d6_13 : decode jdk_68_method_22_code 13 = .ok (.istore_n 2, 1) := by decide +kernel
theorem d6_14 : decode jdk_68_method_22_code 14 = .ok (.aload_n 0, 1) := by decide +kernel
theorem d6_15 : decode jdk_68_method_22_code 15 = .ok (.aload_n 0, 1) := by decide +kernel
theorem d6_16 : decode jdk_68_method_22_code 16 = .ok (.getfield 79, 3) := by decide +kernel
theorem d6_19 : decode jdk_68_method_22_code 19 = .ok (.iload_n 2, 1) := by decide +kernel
theorem d6_20 : decode jdk_68_method_22_code 20 = .ok (.iadd, 1) := by decide +kernel
theorem d6_21 : decode jdk_68_method_22_code 21 = .ok (.invokevirtual 100, 3) := by decide +kernel
theorem d6_24 : decode jdk_68_method_22_code 24 = .ok (.aload_n 0, 1) := by decide +kernel
theorem d6_25 : decode jdk_68_method_22_code 25 = .ok (.aload_n 0, 1) := by decide +kernel
theorem d6_26 : decode jdk_68_method_22_code 26 = .ok (.getfield 79, 3) := by decide +kernel
theorem d6_29 : decode jdk_68_method_22_code 29 = .ok (.aload_n 1, 1) := by decide +kernel
theorem d6_30 : decode jdk_68_method_22_code 30 = .ok (.invokevirtual 208, 3) := by decide +kernel
theorem d6_33 : decode jdk_68_method_22_code 33 = .ok (.aload_n 0, 1) := by decide +kernel
theorem d6_34 : decode jdk_68_method_22_code 34 = .ok (.dup, 1) := by decide +kernel
theorem d6_35 : decode jdk_68_method_22_code 35 = .ok (.getfield 79, 3) := by decide +kernel
theorem d6_38 : decode jdk_68_method_22_code 38 = .ok (.iload_n 2, 1) := by decide +kernel
theorem d6_39 : decode jdk_68_method_22_code 39 = .ok (.iadd, 1) := by decide +kernel
theorem d6_40 : decode jdk_68_method_22_code 40 = .ok (.putfield 79, 3) := by decide +kernel
theorem d6_43 : decode jdk_68_method_22_code 43 = .ok (.aload_n 0, 1) := by decide +kernel
theorem d6_44 : decode jdk_68_method_22_code 44 = .ok (.areturn, 1) := by decide +kernel
theorem pd_7 : parseMethodDescriptor "()I" = some ⟨[], some .int⟩ := by decide +kernel
theorem pd_8 : parseMethodDescriptor "(I)V" = some ⟨[.int], none⟩ := by decide +kernel
theorem pd_9 : parseMethodDescriptor "(ILjava/lang/String;)V" = some ⟨[.int, (.object "java/lang/String")], none⟩ := by decide +kernel
set_option maxRecDepth 65536 in
set_option maxHeartbeats 40000000 in
theorem rmAN (l : Launch) (Z : State) (a0 : Array Value) (hw : ∀ d ∈ tables_1, d.before a0 Z = true) (ws : List Jvm.Cond) (a1 ar sa va : Addr) (c k z : Int32) (h0 : Heap) (n0 : Nat) (Z0 : n0 ≤ h0.size) (S_CS : Sta Z h0 "java/lang/String" "COMPACT_STRINGS" "Z" (.int z)) (hz : ¬ (z = (0 : Int32))) (g_a1 : n0 ≤ a1) (g_ar : n0 ≤ ar) (E1 : Exa Z h0 a1 "java/lang/StringBuilder") (Fv : Fld Z h0 a1 "java/lang/AbstractStringBuilder" "value" "[B" (.ref ar)) (Fc : Fld Z h0 a1 "java/lang/AbstractStringBuilder" "coder" "B" (.int (0 : Int32))) (Fn : Fld Z h0 a1 "java/lang/AbstractStringBuilder" "count" "I" (.int c)) (Bar : OBy Z h0 ar (16 : Int32)) (Es : Exa Z h0 sa "java/lang/String") (Fsv : Fld Z h0 sa "java/lang/String" "value" "[B" (.ref va)) (Fsc : Fld Z h0 sa "java/lang/String" "coder" "B" (.int (0 : Int32))) (Bs : OBy Z h0 va k) (hc0 : 0 ≤ c.toInt) (hk0 : 0 ≤ k.toInt) (hcz : c.toInt + k.toInt ≤ 16) :
    OMet l (⟨"java/lang/AbstractStringBuilder", "append", "(Ljava/lang/String;)Ljava/lang/AbstractStringBuilder;"⟩ : MethodName) jdk_68_method_22_code 3 (some (.object "java/lang/AbstractStringBuilder")) ws ({ frames := 3, cells := 0, slots := 0, locals := 69 } : Room) Z #[(.ref a1), (.ref sa)] h0 (fun v h L => v = some (.ref a1) ∧ Fr n0 L ∧ Keep h0 h [a1, ar] ∧ OBy Z h ar (16 : Int32) ∧ Exa Z h a1 "java/lang/StringBuilder" ∧ Fld Z h a1 "java/lang/AbstractStringBuilder" "value" "[B" (.ref ar) ∧ Fld Z h a1 "java/lang/AbstractStringBuilder" "coder" "B" (.int (0 : Int32)) ∧ Fld Z h a1 "java/lang/AbstractStringBuilder" "count" "I" (.int (c + k))) := by
  refine own_body (plainFor_of_name pn_35) ?_
  intro p e s m below meth cdx T0 X0 hx hZ hby hml hown hnm hret hlk e0
  have N0 := Fr.nil n0
  refine own_entry (g' := (mkF m 0 #[.val (.ref a1), .val (.ref sa), .unset] [])) (by first | rfl | (simp [entryFrame, mkF, argsToLocals, Value.category, maxLocals]; done)) ?_
  have KC0 := Keep.refl h0 [a1, ar]
  have ne_a1_ar : a1 ≠ ar := own_neB E1 Bar (hw _ (List.mem_of_getElem? (i := 18) rfl))
  have ne_a1_va : a1 ≠ va := own_neB E1 Bs (hw _ (List.mem_of_getElem? (i := 18) rfl))
  have ne_a1_sa : a1 ≠ sa := Exa.ne E1 Es (by decide)
  have ne_sa_ar : sa ≠ ar := own_neB Es Bar (hw _ (List.mem_of_getElem? (i := 11) rfl))
  refine own_step (g' := (mkF m 1 #[.val (.ref a1), .val (.ref sa), .unset] [(.ref sa)])) (fun _ kont => XS.aloadN X0.here hx rfl (hb hby d6_0) rfl rfl kont) ?_
  refine own_step (g' := (mkF m 9 #[.val (.ref a1), .val (.ref sa), .unset] [])) (fun _ kont => XS.ifnonnullYes X0.here hx rfl (pc0 := 1) (pc' := 9) rfl (hb hby d6_1) rfl (by decide) (by decide) kont) ?_
  refine own_step (g' := (mkF m 10 #[.val (.ref a1), .val (.ref sa), .unset] [(.ref sa)])) (fun _ kont => XS.aloadN X0.here hx rfl (hb hby d6_9) rfl rfl kont) ?_
  refine own_callV X0 hx hZ (W := 0) hown e0 (rmLn l Z a0 hw [] sa va k z h0 n0 Z0 S_CS hz Es Fsv Fsc Bs) Es (hw _ (List.mem_of_getElem? (i := 48) rfl)) (hw _ (List.mem_of_getElem? (i := 49) rfl)) (notFace_of_selects (args := #[]) (mvT hZ (hw _ (List.mem_of_getElem? (i := 51) rfl)))) (hw _ (List.mem_of_getElem? (i := 51) rfl)) (hw _ (List.mem_of_getElem? (i := 50) rfl)) (hw _ (List.mem_of_getElem? (i := 52) rfl)) (hw _ (List.mem_of_getElem? (i := 10) rfl)) (by decide) (by decide) (by decide) (g := (mkF m 10 #[.val (.ref a1), .val (.ref sa), .unset] [(.ref sa)])) rfl (by rw [hml]; rfl) (argsL := []) (rest := []) rfl (lenOf pd_7 rfl) rfl (by show 2 * 0 + _ ≤ _; exact Nat.le_of_eq rfl) (hb hby d6_10) (by decide) (by decide) ?_
  intro v1 T1 L1 X1 hQ1
  obtain ⟨rfl, rfl, e1⟩ := hQ1
  replace X1 := own_pureX X1
  show OGo p e below _ T1 (mkF m 13 #[.val (.ref a1), .val (.ref sa), .unset] [(.int k)])
  refine own_step (g' := (mkF m 14 #[.val (.ref a1), .val (.ref sa), .val (.int k)] [])) (fun _ kont => XS.istoreN X1.here hx rfl (hb hby d6_13) rfl (l' := #[.val (.ref a1), .val (.ref sa), .val (.int k)]) rfl kont) ?_
  refine own_step (g' := (mkF m 15 #[.val (.ref a1), .val (.ref sa), .val (.int k)] [(.ref a1)])) (fun _ kont => XS.aloadN X1.here hx rfl (hb hby d6_14) rfl rfl kont) ?_
  refine own_step (g' := (mkF m 16 #[.val (.ref a1), .val (.ref sa), .val (.int k)] [(.ref a1), (.ref a1)])) (fun _ kont => XS.aloadN X1.here hx rfl (hb hby d6_15) rfl rfl kont) ?_
  obtain ⟨T2, X2, e2, st2⟩ := getF X1 hx hZ hown (host := "") (Or.inl (hw _ (List.mem_of_getElem? (i := 61) rfl))) Via.refl e1 Fn (g := (mkF m 16 #[.val (.ref a1), .val (.ref sa), .val (.int k)] [(.ref a1), (.ref a1)])) rfl rfl (hb hby d6_16)
  refine own_via (g' := (mkF m 19 #[.val (.ref a1), .val (.ref sa), .val (.int k)] [(.int c), (.ref a1)])) st2 ?_
  refine own_step (g' := (mkF m 20 #[.val (.ref a1), .val (.ref sa), .val (.int k)] [(.int k), (.int c), (.ref a1)])) (fun _ kont => XS.iloadN X2.here hx rfl (hb hby d6_19) rfl kont) ?_
  refine own_step (g' := (mkF m 21 #[.val (.ref a1), .val (.ref sa), .val (.int k)] [(.int (c + k)), (.ref a1)])) (fun _ kont => XS.iadd X2.here hx rfl (hb hby d6_20) rfl kont) ?_
  refine own_callV X2 hx hZ (W := 0) hown e2 (rmEnsN l Z a0 hw [] a1 ar c (c + k) h0 n0 Z0 E1 Fv Fc Fn Bar (by rw [(own_add hc0 hk0 (by omega))]; omega) (by rw [(own_add hc0 hk0 (by omega))]; omega)) E1 (hw _ (List.mem_of_getElem? (i := 63) rfl)) (own_declares (hw _ (List.mem_of_getElem? (i := 64) rfl)) (hw _ (List.mem_of_getElem? (i := 67) rfl))) (notFace_of_selects (args := #[]) (mvT hZ (hw _ (List.mem_of_getElem? (i := 66) rfl)))) (hw _ (List.mem_of_getElem? (i := 66) rfl)) (hw _ (List.mem_of_getElem? (i := 64) rfl)) (hw _ (List.mem_of_getElem? (i := 67) rfl)) (hw _ (List.mem_of_getElem? (i := 27) rfl)) (by decide) (by decide) (by decide) (g := (mkF m 21 #[.val (.ref a1), .val (.ref sa), .val (.int k)] [(.int (c + k)), (.ref a1)])) rfl (by rw [hml]; rfl) (argsL := [(.int (c + k))]) (rest := []) rfl (lenOf pd_8 rfl) rfl (by show 2 * 0 + _ ≤ _; exact Nat.le_of_eq rfl) (hb hby d6_21) (by decide) (by decide) ?_
  intro v3 T3 L3 X3 hQ3
  obtain ⟨rfl, rfl, e3⟩ := hQ3
  replace X3 := own_pureX X3
  show OGo p e below _ T3 (mkF m 24 #[.val (.ref a1), .val (.ref sa), .val (.int k)] [])
  refine own_step (g' := (mkF m 25 #[.val (.ref a1), .val (.ref sa), .val (.int k)] [(.ref a1)])) (fun _ kont => XS.aloadN X3.here hx rfl (hb hby d6_24) rfl rfl kont) ?_
  refine own_step (g' := (mkF m 26 #[.val (.ref a1), .val (.ref sa), .val (.int k)] [(.ref a1), (.ref a1)])) (fun _ kont => XS.aloadN X3.here hx rfl (hb hby d6_25) rfl rfl kont) ?_
  obtain ⟨T4, X4, e4, st4⟩ := getF X3 hx hZ hown (host := "") (Or.inl (hw _ (List.mem_of_getElem? (i := 61) rfl))) Via.refl e3 Fn (g := (mkF m 26 #[.val (.ref a1), .val (.ref sa), .val (.int k)] [(.ref a1), (.ref a1)])) rfl rfl (hb hby d6_26)
  refine own_via (g' := (mkF m 29 #[.val (.ref a1), .val (.ref sa), .val (.int k)] [(.int c), (.ref a1)])) st4 ?_
  refine own_step (g' := (mkF m 30 #[.val (.ref a1), .val (.ref sa), .val (.int k)] [(.ref sa), (.int c), (.ref a1)])) (fun _ kont => XS.aloadN X4.here hx rfl (hb hby d6_29) rfl rfl kont) ?_
  refine own_callV X4 hx hZ (W := 0) hown e4 (rmPu l Z a0 hw [] a1 ar sa va c k z (16 : Int32) h0 n0 Z0 S_CS hz g_ar E1 Fv Fc Fn Bar Es Fsv Fsc Bs hc0 hk0 (by rw [own_i16]; omega)) E1 (hw _ (List.mem_of_getElem? (i := 68) rfl)) (own_declares (hw _ (List.mem_of_getElem? (i := 69) rfl)) (hw _ (List.mem_of_getElem? (i := 72) rfl))) (notFace_of_selects (args := #[]) (mvT hZ (hw _ (List.mem_of_getElem? (i := 71) rfl)))) (hw _ (List.mem_of_getElem? (i := 71) rfl)) (hw _ (List.mem_of_getElem? (i := 69) rfl)) (hw _ (List.mem_of_getElem? (i := 72) rfl)) (hw _ (List.mem_of_getElem? (i := 27) rfl)) (by decide) (by decide) (by decide) (g := (mkF m 30 #[.val (.ref a1), .val (.ref sa), .val (.int k)] [(.ref sa), (.int c), (.ref a1)])) rfl (by rw [hml]; rfl) (argsL := [(.int c), (.ref sa)]) (rest := []) rfl (lenOf pd_9 rfl) rfl (by show 2 * 0 + _ ≤ _; exact Nat.le_of_eq rfl) (hb hby d6_30) (by decide) (by decide) ?_
  intro v5 T5 L5 X5 hQ5
  obtain ⟨rfl, Nq5, Kq5, Bq⟩ := hQ5
  have N5 := Fr.app N0 Nq5
  have K5 : Keep h0 T5.heap [a1, ar] := KC0.trans Kq5 (allS (Or.inl (List.mem_of_getElem? (i := 1) rfl)) all0)
  show OGo p e below _ T5 (mkF m 33 #[.val (.ref a1), .val (.ref sa), .val (.int k)] [])
  refine own_step (g' := (mkF m 34 #[.val (.ref a1), .val (.ref sa), .val (.int k)] [(.ref a1)])) (fun _ kont => XS.aloadN X5.here hx rfl (hb hby d6_33) rfl rfl kont) ?_
  refine own_step (g' := (mkF m 35 #[.val (.ref a1), .val (.ref sa), .val (.int k)] [(.ref a1), (.ref a1)])) (fun _ kont => XS.dup X5.here hx rfl (hb hby d6_34) rfl rfl kont) ?_
  have F_6 : Fld Z T5.heap a1 "java/lang/AbstractStringBuilder" "count" "I" (.int c) := (Fn.keep Kq5 (ninS ne_a1_ar nin0))
  obtain ⟨T7, X7, e7, st7⟩ := getF X5 hx hZ hown (host := "") (Or.inl (hw _ (List.mem_of_getElem? (i := 61) rfl))) Via.refl rfl F_6 (g := (mkF m 35 #[.val (.ref a1), .val (.ref sa), .val (.int k)] [(.ref a1), (.ref a1)])) rfl rfl (hb hby d6_35)
  refine own_via (g' := (mkF m 38 #[.val (.ref a1), .val (.ref sa), .val (.int k)] [(.int c), (.ref a1)])) st7 ?_
  refine own_step (g' := (mkF m 39 #[.val (.ref a1), .val (.ref sa), .val (.int k)] [(.int k), (.int c), (.ref a1)])) (fun _ kont => XS.iloadN X7.here hx rfl (hb hby d6_38) rfl kont) ?_
  refine own_step (g' := (mkF m 40 #[.val (.ref a1), .val (.ref sa), .val (.int k)] [(.int (c + k)), (.ref a1)])) (fun _ kont => XS.iadd X7.here hx rfl (hb hby d6_39) rfl kont) ?_
  have C_8 : Exa Z T5.heap a1 "java/lang/StringBuilder" := (E1.keep Kq5)
  obtain ⟨T9, h9, X9, e9, W9, st9⟩ := putF X7 hx hZ hown (host := "") (Or.inl (hw _ (List.mem_of_getElem? (i := 61) rfl))) Via.refl e7 F_6 C_8 (Or.inl (hw _ (List.mem_of_getElem? (i := 62) rfl))) (hw _ (List.mem_of_getElem? (i := 18) rfl)) (ty := .int) (by decide) rfl rfl (g := (mkF m 40 #[.val (.ref a1), .val (.ref sa), .val (.int k)] [(.int (c + k)), (.ref a1)])) rfl rfl (hb hby d6_40)
  have Fw9 := Fld.same W9 F_6
  have N9 := Fr.snoc X9 N5 g_a1
  have K9 : Keep h0 h9 [a1, ar] := K5.wr W9 (Or.inl (List.mem_of_getElem? (i := 0) rfl))
  refine own_via (g' := (mkF m 43 #[.val (.ref a1), .val (.ref sa), .val (.int k)] [])) st9 ?_
  refine own_step (g' := (mkF m 44 #[.val (.ref a1), .val (.ref sa), .val (.int k)] [(.ref a1)])) (fun _ kont => XS.aloadN X9.here hx rfl (hb hby d6_43) rfl rfl kont) ?_
  have By_10 : OBy Z h9 ar (16 : Int32) := (Bq.other W9 (Ne.symm ne_a1_ar))
  have C_11 : Exa Z h9 a1 "java/lang/StringBuilder" := (Exa.wr W9 C_8)
  have F_12 : Fld Z h9 a1 "java/lang/AbstractStringBuilder" "value" "[B" (.ref ar) := (Fld.other W9 (Fv.keep Kq5 (ninS ne_a1_ar nin0)) (Or.inr (slot_ne (Or.inl (hw _ (List.mem_of_getElem? (i := 34) rfl))) (Or.inl (hw _ (List.mem_of_getElem? (i := 62) rfl))) (by decide) (t := (.array .byte)) (t' := .int) (by decide) (by decide))))
  have F_13 : Fld Z h9 a1 "java/lang/AbstractStringBuilder" "coder" "B" (.int (0 : Int32)) := (Fld.other W9 (Fc.keep Kq5 (ninS ne_a1_ar nin0)) (Or.inr (slot_ne (Or.inl (hw _ (List.mem_of_getElem? (i := 36) rfl))) (Or.inl (hw _ (List.mem_of_getElem? (i := 62) rfl))) (by decide) (t := .byte) (t' := .int) (by decide) (by decide))))
  exact own_retA X9 hx hret rfl rfl hlk (hb hby d6_44) e9 (by exact ⟨rfl, N9, K9, By_10, C_11, F_12, F_13, Fw9⟩) (by decide) (by decide)
set_option maxRecDepth 65536 in
set_option maxHeartbeats 40000000 in
theorem rmAG (l : Launch) (Z : State) (a0 : Array Value) (hw : ∀ d ∈ tables_1, d.before a0 Z = true) (ws : List Jvm.Cond) (a1 ar sa va : Addr) (c k z : Int32) (h0 : Heap) (n0 : Nat) (Z0 : n0 ≤ h0.size) (S_CS : Sta Z h0 "java/lang/String" "COMPACT_STRINGS" "Z" (.int z)) (hz : ¬ (z = (0 : Int32))) (g_a1 : n0 ≤ a1) (g_ar : n0 ≤ ar) (E1 : Exa Z h0 a1 "java/lang/StringBuilder") (Fv : Fld Z h0 a1 "java/lang/AbstractStringBuilder" "value" "[B" (.ref ar)) (Fc : Fld Z h0 a1 "java/lang/AbstractStringBuilder" "coder" "B" (.int (0 : Int32))) (Fn : Fld Z h0 a1 "java/lang/AbstractStringBuilder" "count" "I" (.int c)) (Bar : OBy Z h0 ar (16 : Int32)) (Es : Exa Z h0 sa "java/lang/String") (Fsv : Fld Z h0 sa "java/lang/String" "value" "[B" (.ref va)) (Fsc : Fld Z h0 sa "java/lang/String" "coder" "B" (.int (0 : Int32))) (Bs : OBy Z h0 va k) (hc0 : 0 ≤ c.toInt) (hk0 : 0 ≤ k.toInt) (hcg : 16 < c.toInt + k.toInt) (hcz : c.toInt + k.toInt ≤ 34) :
    OMet l (⟨"java/lang/AbstractStringBuilder", "append", "(Ljava/lang/String;)Ljava/lang/AbstractStringBuilder;"⟩ : MethodName) jdk_68_method_22_code 3 (some (.object "java/lang/AbstractStringBuilder")) ws ({ frames := 4, cells := 1, slots := 34, locals := 69 } : Room) Z #[(.ref a1), (.ref sa)] h0 (fun v h L => v = some (.ref a1) ∧ (∃ b : Addr, h0.size ≤ b ∧ n0 ≤ b ∧ OBy Z h b (34 : Int32) ∧ Exa Z h b "[B" ∧ Exa Z h a1 "java/lang/StringBuilder" ∧ Fld Z h a1 "java/lang/AbstractStringBuilder" "value" "[B" (.ref b) ∧ Fld Z h a1 "java/lang/AbstractStringBuilder" "coder" "B" (.int (0 : Int32)) ∧ Fld Z h a1 "java/lang/AbstractStringBuilder" "count" "I" (.int (c + k))) ∧ Fr n0 L ∧ Keep h0 h [a1]) := by
  refine own_body (plainFor_of_name pn_35) ?_
  intro p e s m below meth cdx T0 X0 hx hZ hby hml hown hnm hret hlk e0
  have N0 := Fr.nil n0
  refine own_entry (g' := (mkF m 0 #[.val (.ref a1), .val (.ref sa), .unset] [])) (by first | rfl | (simp [entryFrame, mkF, argsToLocals, Value.category, maxLocals]; done)) ?_
  have KC0 := Keep.refl h0 [a1]
  have ne_a1_ar : a1 ≠ ar := own_neB E1 Bar (hw _ (List.mem_of_getElem? (i := 18) rfl))
  have ne_a1_va : a1 ≠ va := own_neB E1 Bs (hw _ (List.mem_of_getElem? (i := 18) rfl))
  have ne_a1_sa : a1 ≠ sa := Exa.ne E1 Es (by decide)
  have ne_sa_ar : sa ≠ ar := own_neB Es Bar (hw _ (List.mem_of_getElem? (i := 11) rfl))
  refine own_step (g' := (mkF m 1 #[.val (.ref a1), .val (.ref sa), .unset] [(.ref sa)])) (fun _ kont => XS.aloadN X0.here hx rfl (hb hby d6_0) rfl rfl kont) ?_
  refine own_step (g' := (mkF m 9 #[.val (.ref a1), .val (.ref sa), .unset] [])) (fun _ kont => XS.ifnonnullYes X0.here hx rfl (pc0 := 1) (pc' := 9) rfl (hb hby d6_1) rfl (by decide) (by decide) kont) ?_
  refine own_step (g' := (mkF m 10 #[.val (.ref a1), .val (.ref sa), .unset] [(.ref sa)])) (fun _ kont => XS.aloadN X0.here hx rfl (hb hby d6_9) rfl rfl kont) ?_
  refine own_callV X0 hx hZ (W := 0) hown e0 (rmLn l Z a0 hw [] sa va k z h0 n0 Z0 S_CS hz Es Fsv Fsc Bs) Es (hw _ (List.mem_of_getElem? (i := 48) rfl)) (hw _ (List.mem_of_getElem? (i := 49) rfl)) (notFace_of_selects (args := #[]) (mvT hZ (hw _ (List.mem_of_getElem? (i := 51) rfl)))) (hw _ (List.mem_of_getElem? (i := 51) rfl)) (hw _ (List.mem_of_getElem? (i := 50) rfl)) (hw _ (List.mem_of_getElem? (i := 52) rfl)) (hw _ (List.mem_of_getElem? (i := 10) rfl)) (by decide) (by decide) (by decide) (g := (mkF m 10 #[.val (.ref a1), .val (.ref sa), .unset] [(.ref sa)])) rfl (by rw [hml]; rfl) (argsL := []) (rest := []) rfl (lenOf pd_7 rfl) rfl (by show 2 * 0 + _ ≤ _; exact Nat.le_of_eq rfl) (hb hby d6_10) (by decide) (by decide) ?_
  intro v1 T1 L1 X1 hQ1
  obtain ⟨rfl, rfl, e1⟩ := hQ1
  replace X1 := own_pureX X1
  show OGo p e below _ T1 (mkF m 13 #[.val (.ref a1), .val (.ref sa), .unset] [(.int k)])
  refine own_step (g' := (mkF m 14 #[.val (.ref a1), .val (.ref sa), .val (.int k)] [])) (fun _ kont => XS.istoreN X1.here hx rfl (hb hby d6_13) rfl (l' := #[.val (.ref a1), .val (.ref sa), .val (.int k)]) rfl kont) ?_
  refine own_step (g' := (mkF m 15 #[.val (.ref a1), .val (.ref sa), .val (.int k)] [(.ref a1)])) (fun _ kont => XS.aloadN X1.here hx rfl (hb hby d6_14) rfl rfl kont) ?_
  refine own_step (g' := (mkF m 16 #[.val (.ref a1), .val (.ref sa), .val (.int k)] [(.ref a1), (.ref a1)])) (fun _ kont => XS.aloadN X1.here hx rfl (hb hby d6_15) rfl rfl kont) ?_
  obtain ⟨T2, X2, e2, st2⟩ := getF X1 hx hZ hown (host := "") (Or.inl (hw _ (List.mem_of_getElem? (i := 61) rfl))) Via.refl e1 Fn (g := (mkF m 16 #[.val (.ref a1), .val (.ref sa), .val (.int k)] [(.ref a1), (.ref a1)])) rfl rfl (hb hby d6_16)
  refine own_via (g' := (mkF m 19 #[.val (.ref a1), .val (.ref sa), .val (.int k)] [(.int c), (.ref a1)])) st2 ?_
  refine own_step (g' := (mkF m 20 #[.val (.ref a1), .val (.ref sa), .val (.int k)] [(.int k), (.int c), (.ref a1)])) (fun _ kont => XS.iloadN X2.here hx rfl (hb hby d6_19) rfl kont) ?_
  refine own_step (g' := (mkF m 21 #[.val (.ref a1), .val (.ref sa), .val (.int k)] [(.int (c + k)), (.ref a1)])) (fun _ kont => XS.iadd X2.here hx rfl (hb hby d6_20) rfl kont) ?_
  refine own_callV X2 hx hZ (W := 0) hown e2 (rmEnsG l Z a0 hw [] a1 ar c (c + k) h0 n0 Z0 g_a1 E1 Fv Fc Fn Bar (by rw [(own_add hc0 hk0 (by omega))]; omega) (by rw [(own_add hc0 hk0 (by omega))]; omega)) E1 (hw _ (List.mem_of_getElem? (i := 63) rfl)) (own_declares (hw _ (List.mem_of_getElem? (i := 64) rfl)) (hw _ (List.mem_of_getElem? (i := 67) rfl))) (notFace_of_selects (args := #[]) (mvT hZ (hw _ (List.mem_of_getElem? (i := 66) rfl)))) (hw _ (List.mem_of_getElem? (i := 66) rfl)) (hw _ (List.mem_of_getElem? (i := 64) rfl)) (hw _ (List.mem_of_getElem? (i := 67) rfl)) (hw _ (List.mem_of_getElem? (i := 27) rfl)) (by decide) (by decide) (by decide) (g := (mkF m 21 #[.val (.ref a1), .val (.ref sa), .val (.int k)] [(.int (c + k)), (.ref a1)])) rfl (by rw [hml]; rfl) (argsL := [(.int (c + k))]) (rest := []) rfl (lenOf pd_8 rfl) rfl (by show 2 * 0 + _ ≤ _; exact Nat.le_of_eq rfl) (hb hby d6_21) (by decide) (by decide) ?_
  intro v3 T3 L3 X3 hQ3
  obtain ⟨rfl, ⟨bb, szb, g_bb, Bbb, Ebb, Ea1, Gv, Gc, Gn⟩, Nq3, Kq3⟩ := hQ3
  have N3 := Fr.app N0 Nq3
  have K3 : Keep h0 T3.heap [a1] := KC0.trans Kq3 (allS (Or.inl (List.mem_of_getElem? (i := 0) rfl)) all0)
  have sz_bb : h0.size ≤ bb := Nat.le_trans KC0.1 szb
  show OGo p e below _ T3 (mkF m 24 #[.val (.ref a1), .val (.ref sa), .val (.int k)] [])
  have ne_a1_bb : a1 ≠ bb := Nat.ne_of_lt (Nat.lt_of_lt_of_le E1.lt szb)
  have ne_ar_bb : ar ≠ bb := Nat.ne_of_lt (Nat.lt_of_lt_of_le Bar.lt szb)
  have ne_sa_bb : sa ≠ bb := Nat.ne_of_lt (Nat.lt_of_lt_of_le Es.lt szb)
  have ne_va_bb : va ≠ bb := Nat.ne_of_lt (Nat.lt_of_lt_of_le Bs.lt szb)
  refine own_step (g' := (mkF m 25 #[.val (.ref a1), .val (.ref sa), .val (.int k)] [(.ref a1)])) (fun _ kont => XS.aloadN X3.here hx rfl (hb hby d6_24) rfl rfl kont) ?_
  refine own_step (g' := (mkF m 26 #[.val (.ref a1), .val (.ref sa), .val (.int k)] [(.ref a1), (.ref a1)])) (fun _ kont => XS.aloadN X3.here hx rfl (hb hby d6_25) rfl rfl kont) ?_
  obtain ⟨T4, X4, e4, st4⟩ := getF X3 hx hZ hown (host := "") (Or.inl (hw _ (List.mem_of_getElem? (i := 61) rfl))) Via.refl rfl Gn (g := (mkF m 26 #[.val (.ref a1), .val (.ref sa), .val (.int k)] [(.ref a1), (.ref a1)])) rfl rfl (hb hby d6_26)
  refine own_via (g' := (mkF m 29 #[.val (.ref a1), .val (.ref sa), .val (.int k)] [(.int c), (.ref a1)])) st4 ?_
  refine own_step (g' := (mkF m 30 #[.val (.ref a1), .val (.ref sa), .val (.int k)] [(.ref sa), (.int c), (.ref a1)])) (fun _ kont => XS.aloadN X4.here hx rfl (hb hby d6_29) rfl rfl kont) ?_
  have S_5 : Sta Z T3.heap "java/lang/String" "COMPACT_STRINGS" "Z" (.int z) := (own_sta_keep S_CS Kq3 (allS (own_nsE E1) all0))
  have C_6 : Exa Z T3.heap sa "java/lang/String" := (Es.keep Kq3)
  have F_7 : Fld Z T3.heap sa "java/lang/String" "value" "[B" (.ref va) := (Fsv.keep Kq3 (ninS (Ne.symm ne_a1_sa) nin0))
  have F_8 : Fld Z T3.heap sa "java/lang/String" "coder" "B" (.int (0 : Int32)) := (Fsc.keep Kq3 (ninS (Ne.symm ne_a1_sa) nin0))
  have By_9 : OBy Z T3.heap va k := (Bs.keep Kq3 (ninS (Ne.symm ne_a1_va) nin0))
  refine own_callV X4 hx hZ (W := 0) hown e4 (rmPu l Z a0 hw [] a1 bb sa va c k z (34 : Int32) T3.heap n0 (Nat.le_trans Z0 Kq3.1) S_5 hz g_bb Ea1 Gv Gc Gn Bbb C_6 F_7 F_8 By_9 hc0 hk0 (by rw [own_i34]; omega)) Ea1 (hw _ (List.mem_of_getElem? (i := 68) rfl)) (own_declares (hw _ (List.mem_of_getElem? (i := 69) rfl)) (hw _ (List.mem_of_getElem? (i := 72) rfl))) (notFace_of_selects (args := #[]) (mvT hZ (hw _ (List.mem_of_getElem? (i := 71) rfl)))) (hw _ (List.mem_of_getElem? (i := 71) rfl)) (hw _ (List.mem_of_getElem? (i := 69) rfl)) (hw _ (List.mem_of_getElem? (i := 72) rfl)) (hw _ (List.mem_of_getElem? (i := 27) rfl)) (by decide) (by decide) (by decide) (g := (mkF m 30 #[.val (.ref a1), .val (.ref sa), .val (.int k)] [(.ref sa), (.int c), (.ref a1)])) rfl (by rw [hml]; rfl) (argsL := [(.int c), (.ref sa)]) (rest := []) rfl (lenOf pd_9 rfl) rfl (by show 2 * 0 + _ ≤ _; exact Nat.le_of_eq rfl) (hb hby d6_30) (by decide) (by decide) ?_
  intro v10 T10 L10 X10 hQ10
  obtain ⟨rfl, Nq10, Kq10, Bq⟩ := hQ10
  have N10 := Fr.app N3 Nq10
  have K10 : Keep h0 T10.heap [a1] := K3.trans Kq10 (allS (Or.inr sz_bb) all0)
  show OGo p e below _ T10 (mkF m 33 #[.val (.ref a1), .val (.ref sa), .val (.int k)] [])
  refine own_step (g' := (mkF m 34 #[.val (.ref a1), .val (.ref sa), .val (.int k)] [(.ref a1)])) (fun _ kont => XS.aloadN X10.here hx rfl (hb hby d6_33) rfl rfl kont) ?_
  refine own_step (g' := (mkF m 35 #[.val (.ref a1), .val (.ref sa), .val (.int k)] [(.ref a1), (.ref a1)])) (fun _ kont => XS.dup X10.here hx rfl (hb hby d6_34) rfl rfl kont) ?_
  have F_11 : Fld Z T10.heap a1 "java/lang/AbstractStringBuilder" "count" "I" (.int c) := (Gn.keep Kq10 (ninS ne_a1_bb nin0))
  obtain ⟨T12, X12, e12, st12⟩ := getF X10 hx hZ hown (host := "") (Or.inl (hw _ (List.mem_of_getElem? (i := 61) rfl))) Via.refl rfl F_11 (g := (mkF m 35 #[.val (.ref a1), .val (.ref sa), .val (.int k)] [(.ref a1), (.ref a1)])) rfl rfl (hb hby d6_35)
  refine own_via (g' := (mkF m 38 #[.val (.ref a1), .val (.ref sa), .val (.int k)] [(.int c), (.ref a1)])) st12 ?_
  refine own_step (g' := (mkF m 39 #[.val (.ref a1), .val (.ref sa), .val (.int k)] [(.int k), (.int c), (.ref a1)])) (fun _ kont => XS.iloadN X12.here hx rfl (hb hby d6_38) rfl kont) ?_
  refine own_step (g' := (mkF m 40 #[.val (.ref a1), .val (.ref sa), .val (.int k)] [(.int (c + k)), (.ref a1)])) (fun _ kont => XS.iadd X12.here hx rfl (hb hby d6_39) rfl kont) ?_
  have C_13 : Exa Z T10.heap a1 "java/lang/StringBuilder" := (Ea1.keep Kq10)
  obtain ⟨T14, h14, X14, e14, W14, st14⟩ := putF X12 hx hZ hown (host := "") (Or.inl (hw _ (List.mem_of_getElem? (i := 61) rfl))) Via.refl e12 F_11 C_13 (Or.inl (hw _ (List.mem_of_getElem? (i := 62) rfl))) (hw _ (List.mem_of_getElem? (i := 18) rfl)) (ty := .int) (by decide) rfl rfl (g := (mkF m 40 #[.val (.ref a1), .val (.ref sa), .val (.int k)] [(.int (c + k)), (.ref a1)])) rfl rfl (hb hby d6_40)
  have Fw14 := Fld.same W14 F_11
  have N14 := Fr.snoc X14 N10 g_a1
  have K14 : Keep h0 h14 [a1] := K10.wr W14 (Or.inl (List.mem_of_getElem? (i := 0) rfl))
  refine own_via (g' := (mkF m 43 #[.val (.ref a1), .val (.ref sa), .val (.int k)] [])) st14 ?_
  refine own_step (g' := (mkF m 44 #[.val (.ref a1), .val (.ref sa), .val (.int k)] [(.ref a1)])) (fun _ kont => XS.aloadN X14.here hx rfl (hb hby d6_43) rfl rfl kont) ?_
  have By_15 : OBy Z h14 bb (34 : Int32) := (Bq.other W14 (Ne.symm ne_a1_bb))
  have C_16 : Exa Z h14 bb "[B" := (Exa.wr W14 (Ebb.keep Kq10))
  have C_17 : Exa Z h14 a1 "java/lang/StringBuilder" := (Exa.wr W14 C_13)
  have F_18 : Fld Z h14 a1 "java/lang/AbstractStringBuilder" "value" "[B" (.ref bb) := (Fld.other W14 (Gv.keep Kq10 (ninS ne_a1_bb nin0)) (Or.inr (slot_ne (Or.inl (hw _ (List.mem_of_getElem? (i := 34) rfl))) (Or.inl (hw _ (List.mem_of_getElem? (i := 62) rfl))) (by decide) (t := (.array .byte)) (t' := .int) (by decide) (by decide))))
  have F_19 : Fld Z h14 a1 "java/lang/AbstractStringBuilder" "coder" "B" (.int (0 : Int32)) := (Fld.other W14 (Gc.keep Kq10 (ninS ne_a1_bb nin0)) (Or.inr (slot_ne (Or.inl (hw _ (List.mem_of_getElem? (i := 36) rfl))) (Or.inl (hw _ (List.mem_of_getElem? (i := 62) rfl))) (by decide) (t := .byte) (t' := .int) (by decide) (by decide))))
  exact own_retA X14 hx hret rfl rfl hlk (hb hby d6_44) e14 (by exact ⟨rfl, ⟨_, sz_bb, g_bb, By_15, C_16, C_17, F_18, F_19, Fw14⟩, N14, K14⟩) (by decide) (by decide)
theorem d5_0 : decode jdk_67_method_7_code 0 = .ok (.aload_n 0, 1) := by decide +kernel
theorem d5_1 : decode jdk_67_method_7_code 1 = .ok (.aload_n 1, 1) := by decide +kernel
theorem d5_2 : decode jdk_67_method_7_code 2 = .ok (.invokespecial 29, 3) := by decide +kernel
theorem d5_5 : decode jdk_67_method_7_code 5 = .ok (.pop, 1) := by decide +kernel
theorem d5_6 : decode jdk_67_method_7_code 6 = .ok (.aload_n 0, 1) := by decide +kernel
theorem d5_7 : decode jdk_67_method_7_code 7 = .ok (.areturn, 1) := by decide +kernel
theorem pd_10 : parseMethodDescriptor "(Ljava/lang/String;)Ljava/lang/AbstractStringBuilder;" = some ⟨[(.object "java/lang/String")], some (.object "java/lang/AbstractStringBuilder")⟩ := by decide +kernel
theorem pn_5 : plainName "java/lang/StringBuilder" = true := by first | (simp [plainName, overriddenIn]; done) | decide +kernel
set_option maxRecDepth 65536 in
set_option maxHeartbeats 40000000 in
theorem rmSN (l : Launch) (Z : State) (a0 : Array Value) (hw : ∀ d ∈ tables_1, d.before a0 Z = true) (ws : List Jvm.Cond) (a1 ar sa va : Addr) (c k z : Int32) (h0 : Heap) (n0 : Nat) (Z0 : n0 ≤ h0.size) (S_CS : Sta Z h0 "java/lang/String" "COMPACT_STRINGS" "Z" (.int z)) (hz : ¬ (z = (0 : Int32))) (g_a1 : n0 ≤ a1) (g_ar : n0 ≤ ar) (E1 : Exa Z h0 a1 "java/lang/StringBuilder") (Fv : Fld Z h0 a1 "java/lang/AbstractStringBuilder" "value" "[B" (.ref ar)) (Fc : Fld Z h0 a1 "java/lang/AbstractStringBuilder" "coder" "B" (.int (0 : Int32))) (Fn : Fld Z h0 a1 "java/lang/AbstractStringBuilder" "count" "I" (.int c)) (Bar : OBy Z h0 ar (16 : Int32)) (Es : Exa Z h0 sa "java/lang/String") (Fsv : Fld Z h0 sa "java/lang/String" "value" "[B" (.ref va)) (Fsc : Fld Z h0 sa "java/lang/String" "coder" "B" (.int (0 : Int32))) (Bs : OBy Z h0 va k) (hc0 : 0 ≤ c.toInt) (hk0 : 0 ≤ k.toInt) (hcz : c.toInt + k.toInt ≤ 16) :
    OMet l (⟨"java/lang/StringBuilder", "append", "(Ljava/lang/String;)Ljava/lang/StringBuilder;"⟩ : MethodName) jdk_67_method_7_code 2 (some (.object "java/lang/StringBuilder")) ws ({ frames := 4, cells := 0, slots := 0, locals := 83 } : Room) Z #[(.ref a1), (.ref sa)] h0 (fun v h L => v = some (.ref a1) ∧ Fr n0 L ∧ Keep h0 h [a1, ar] ∧ OBy Z h ar (16 : Int32) ∧ Exa Z h a1 "java/lang/StringBuilder" ∧ Fld Z h a1 "java/lang/AbstractStringBuilder" "value" "[B" (.ref ar) ∧ Fld Z h a1 "java/lang/AbstractStringBuilder" "coder" "B" (.int (0 : Int32)) ∧ Fld Z h a1 "java/lang/AbstractStringBuilder" "count" "I" (.int (c + k))) := by
  refine own_body (plainFor_of_name pn_5) ?_
  intro p e s m below meth cdx T0 X0 hx hZ hby hml hown hnm hret hlk e0
  have N0 := Fr.nil n0
  refine own_entry (g' := (mkF m 0 #[.val (.ref a1), .val (.ref sa)] [])) (by first | rfl | (simp [entryFrame, mkF, argsToLocals, Value.category, maxLocals]; done)) ?_
  have KC0 := Keep.refl h0 [a1, ar]
  refine own_step (g' := (mkF m 1 #[.val (.ref a1), .val (.ref sa)] [(.ref a1)])) (fun _ kont => XS.aloadN X0.here hx rfl (hb hby d5_0) rfl rfl kont) ?_
  refine own_step (g' := (mkF m 2 #[.val (.ref a1), .val (.ref sa)] [(.ref sa), (.ref a1)])) (fun _ kont => XS.aloadN X0.here hx rfl (hb hby d5_1) rfl rfl kont) ?_
  refine own_superB X0 hx hZ (W := 0) hown e0 (rmAN l Z a0 hw [] a1 ar sa va c k z h0 n0 Z0 S_CS hz g_a1 g_ar E1 Fv Fc Fn Bar Es Fsv Fsc Bs hc0 hk0 hcz) (Ins.self E1) (by decide) (hw _ (List.mem_of_getElem? (i := 43) rfl)) (own_sameSelf (own_nfSib (notFace_of_selects (hw _ (List.mem_of_getElem? (i := 66) rfl))) rfl (hw _ (List.mem_of_getElem? (i := 67) rfl))) (by decide) (hw _ (List.mem_of_getElem? (i := 47) rfl))) (hw _ (List.mem_of_getElem? (i := 44) rfl)) (hw _ (List.mem_of_getElem? (i := 45) rfl)) (hw _ (List.mem_of_getElem? (i := 47) rfl)) (hw _ (List.mem_of_getElem? (i := 27) rfl)) (by decide) (by decide) (g := (mkF m 2 #[.val (.ref a1), .val (.ref sa)] [(.ref sa), (.ref a1)])) rfl (by rw [hml]; rfl) (argsL := [(.ref sa)]) (rest := []) rfl (lenOf pd_10 rfl) rfl (by show 2 * 0 + _ ≤ _; exact Nat.le_of_eq rfl) (hb hby d5_2) (by decide) (by decide) ?_
  intro v1 T1 L1 X1 hQ1
  obtain ⟨rfl, Nq1, Kq1, Bq, Ea1, Gv, Gc, Gn⟩ := hQ1
  have N1 := Fr.app N0 Nq1
  have K1 : Keep h0 T1.heap [a1, ar] := KC0.trans Kq1 (allS (Or.inl (List.mem_of_getElem? (i := 0) rfl)) (allS (Or.inl (List.mem_of_getElem? (i := 1) rfl)) all0))
  show OGo p e below _ T1 (mkF m 5 #[.val (.ref a1), .val (.ref sa)] [(.ref a1)])
  refine own_step (g' := (mkF m 6 #[.val (.ref a1), .val (.ref sa)] [])) (fun _ kont => XS.pop X1.here hx rfl (hb hby d5_5) rfl rfl kont) ?_
  refine own_step (g' := (mkF m 7 #[.val (.ref a1), .val (.ref sa)] [(.ref a1)])) (fun _ kont => XS.aloadN X1.here hx rfl (hb hby d5_6) rfl rfl kont) ?_
  exact own_retA X1 hx hret rfl rfl hlk (hb hby d5_7) rfl (by exact ⟨rfl, N1, K1, Bq, Ea1, Gv, Gc, Gn⟩) (by decide) (by decide)
set_option maxRecDepth 65536 in
set_option maxHeartbeats 40000000 in
theorem rmSG (l : Launch) (Z : State) (a0 : Array Value) (hw : ∀ d ∈ tables_1, d.before a0 Z = true) (ws : List Jvm.Cond) (a1 ar sa va : Addr) (c k z : Int32) (h0 : Heap) (n0 : Nat) (Z0 : n0 ≤ h0.size) (S_CS : Sta Z h0 "java/lang/String" "COMPACT_STRINGS" "Z" (.int z)) (hz : ¬ (z = (0 : Int32))) (g_a1 : n0 ≤ a1) (g_ar : n0 ≤ ar) (E1 : Exa Z h0 a1 "java/lang/StringBuilder") (Fv : Fld Z h0 a1 "java/lang/AbstractStringBuilder" "value" "[B" (.ref ar)) (Fc : Fld Z h0 a1 "java/lang/AbstractStringBuilder" "coder" "B" (.int (0 : Int32))) (Fn : Fld Z h0 a1 "java/lang/AbstractStringBuilder" "count" "I" (.int c)) (Bar : OBy Z h0 ar (16 : Int32)) (Es : Exa Z h0 sa "java/lang/String") (Fsv : Fld Z h0 sa "java/lang/String" "value" "[B" (.ref va)) (Fsc : Fld Z h0 sa "java/lang/String" "coder" "B" (.int (0 : Int32))) (Bs : OBy Z h0 va k) (hc0 : 0 ≤ c.toInt) (hk0 : 0 ≤ k.toInt) (hcg : 16 < c.toInt + k.toInt) (hcz : c.toInt + k.toInt ≤ 34) :
    OMet l (⟨"java/lang/StringBuilder", "append", "(Ljava/lang/String;)Ljava/lang/StringBuilder;"⟩ : MethodName) jdk_67_method_7_code 2 (some (.object "java/lang/StringBuilder")) ws ({ frames := 5, cells := 1, slots := 34, locals := 83 } : Room) Z #[(.ref a1), (.ref sa)] h0 (fun v h L => v = some (.ref a1) ∧ (∃ b : Addr, h0.size ≤ b ∧ n0 ≤ b ∧ OBy Z h b (34 : Int32) ∧ Exa Z h b "[B" ∧ Exa Z h a1 "java/lang/StringBuilder" ∧ Fld Z h a1 "java/lang/AbstractStringBuilder" "value" "[B" (.ref b) ∧ Fld Z h a1 "java/lang/AbstractStringBuilder" "coder" "B" (.int (0 : Int32)) ∧ Fld Z h a1 "java/lang/AbstractStringBuilder" "count" "I" (.int (c + k))) ∧ Fr n0 L ∧ Keep h0 h [a1]) := by
  refine own_body (plainFor_of_name pn_5) ?_
  intro p e s m below meth cdx T0 X0 hx hZ hby hml hown hnm hret hlk e0
  have N0 := Fr.nil n0
  refine own_entry (g' := (mkF m 0 #[.val (.ref a1), .val (.ref sa)] [])) (by first | rfl | (simp [entryFrame, mkF, argsToLocals, Value.category, maxLocals]; done)) ?_
  have KC0 := Keep.refl h0 [a1]
  refine own_step (g' := (mkF m 1 #[.val (.ref a1), .val (.ref sa)] [(.ref a1)])) (fun _ kont => XS.aloadN X0.here hx rfl (hb hby d5_0) rfl rfl kont) ?_
  refine own_step (g' := (mkF m 2 #[.val (.ref a1), .val (.ref sa)] [(.ref sa), (.ref a1)])) (fun _ kont => XS.aloadN X0.here hx rfl (hb hby d5_1) rfl rfl kont) ?_
  refine own_superB X0 hx hZ (W := 0) hown e0 (rmAG l Z a0 hw [] a1 ar sa va c k z h0 n0 Z0 S_CS hz g_a1 g_ar E1 Fv Fc Fn Bar Es Fsv Fsc Bs hc0 hk0 hcg hcz) (Ins.self E1) (by decide) (hw _ (List.mem_of_getElem? (i := 43) rfl)) (own_sameSelf (own_nfSib (notFace_of_selects (hw _ (List.mem_of_getElem? (i := 66) rfl))) rfl (hw _ (List.mem_of_getElem? (i := 67) rfl))) (by decide) (hw _ (List.mem_of_getElem? (i := 47) rfl))) (hw _ (List.mem_of_getElem? (i := 44) rfl)) (hw _ (List.mem_of_getElem? (i := 45) rfl)) (hw _ (List.mem_of_getElem? (i := 47) rfl)) (hw _ (List.mem_of_getElem? (i := 27) rfl)) (by decide) (by decide) (g := (mkF m 2 #[.val (.ref a1), .val (.ref sa)] [(.ref sa), (.ref a1)])) rfl (by rw [hml]; rfl) (argsL := [(.ref sa)]) (rest := []) rfl (lenOf pd_10 rfl) rfl (by show 2 * 0 + _ ≤ _; exact Nat.le_of_eq rfl) (hb hby d5_2) (by decide) (by decide) ?_
  intro v1 T1 L1 X1 hQ1
  obtain ⟨rfl, ⟨bb, szb, g_bb, Bbb, Ebb, Ea1, Gv, Gc, Gn⟩, Nq1, Kq1⟩ := hQ1
  have N1 := Fr.app N0 Nq1
  have K1 : Keep h0 T1.heap [a1] := KC0.trans Kq1 (allS (Or.inl (List.mem_of_getElem? (i := 0) rfl)) all0)
  have sz_bb : h0.size ≤ bb := Nat.le_trans KC0.1 szb
  show OGo p e below _ T1 (mkF m 5 #[.val (.ref a1), .val (.ref sa)] [(.ref a1)])
  refine own_step (g' := (mkF m 6 #[.val (.ref a1), .val (.ref sa)] [])) (fun _ kont => XS.pop X1.here hx rfl (hb hby d5_5) rfl rfl kont) ?_
  refine own_step (g' := (mkF m 7 #[.val (.ref a1), .val (.ref sa)] [(.ref a1)])) (fun _ kont => XS.aloadN X1.here hx rfl (hb hby d5_6) rfl rfl kont) ?_
  exact own_retA X1 hx hret rfl rfl hlk (hb hby d5_7) rfl (by exact ⟨rfl, ⟨_, sz_bb, g_bb, Bbb, Ebb, Ea1, Gv, Gc, Gn⟩, N1, K1⟩) (by decide) (by decide)
theorem d16_0 : decode jdk_68_method_68_code 0 = .ok (.getstatic 18, 3) := by decide +kernel
theorem d16_3 : decode jdk_68_method_68_code 3 = .ok (.ifCond .eq 14, 3) := by decide +kernel
theorem d16_6 : decode jdk_68_method_68_code 6 = .ok (.aload_n 0, 1) := by decide +kernel
theorem d16_7 : decode jdk_68_method_68_code 7 = .ok (.getfield 22, 3) := by decide +kernel
theorem d16_10 : decode jdk_68_method_68_code 10 = .ok (.ifCond .ne 7, 3) := by decide +kernel
theorem d16_13 : decode jdk_68_method_68_code 13 = .ok (.iconst 1, 1) := by decide +kernel
theorem d16_14 : decode jdk_68_method_68_code 14 = .ok (.goto 4, 3) := by decide +kernel
theorem d16_18 : decode jdk_68_method_68_code 18 = .ok (.ireturn, 1) := by decide +kernel
set_option maxRecDepth 65536 in
set_option maxHeartbeats 40000000 in
theorem rmLa (l : Launch) (Z : State) (a0 : Array Value) (hw : ∀ d ∈ tables_1, d.before a0 Z = true) (ws : List Jvm.Cond) (a1 ar : Addr) (c z : Int32) (h0 : Heap) (n0 : Nat) (Z0 : n0 ≤ h0.size) (S_CS : Sta Z h0 "java/lang/String" "COMPACT_STRINGS" "Z" (.int z)) (hz : ¬ (z = (0 : Int32))) (E1 : Exa Z h0 a1 "java/lang/StringBuilder") (Fv : Fld Z h0 a1 "java/lang/AbstractStringBuilder" "value" "[B" (.ref ar)) (Fc : Fld Z h0 a1 "java/lang/AbstractStringBuilder" "coder" "B" (.int (0 : Int32))) (Fn : Fld Z h0 a1 "java/lang/AbstractStringBuilder" "count" "I" (.int c)) :
    OMet l (⟨"java/lang/AbstractStringBuilder", "isLatin1", "()Z"⟩ : MethodName) jdk_68_method_68_code 1 (some .boolean) ws ({ frames := 0, cells := 0, slots := 0, locals := 0 } : Room) Z #[(.ref a1)] h0 (fun v h L => v = some (.int (1 : Int32)) ∧ L = [] ∧ h = h0) := by
  refine own_body (plainFor_of_name pn_35) ?_
  intro p e s m below meth cdx T0 X0 hx hZ hby hml hown hnm hret hlk e0
  have N0 := Fr.nil n0
  refine own_entry (g' := (mkF m 0 #[.val (.ref a1)] [])) (by first | rfl | (simp [entryFrame, mkF, argsToLocals, Value.category, maxLocals]; done)) ?_
  obtain ⟨T1, X1, e1, st1⟩ := getS2 X0 hx hZ hown (host := "") (Or.inl (hw _ (List.mem_of_getElem? (i := 32) rfl))) Via.refl e0 S_CS (g := (mkF m 0 #[.val (.ref a1)] [])) rfl (hb hby d16_0)
  refine own_via (g' := (mkF m 3 #[.val (.ref a1)] [(.int z)])) st1 ?_
  refine own_step (g' := (mkF m 6 #[.val (.ref a1)] [])) (fun _ kont => XS.ifNo X1.here hx rfl (hb hby d16_3) rfl ((if0 _ _).trans (feq hz).1) kont) ?_
  refine own_step (g' := (mkF m 7 #[.val (.ref a1)] [(.ref a1)])) (fun _ kont => XS.aloadN X1.here hx rfl (hb hby d16_6) rfl rfl kont) ?_
  obtain ⟨T2, X2, e2, st2⟩ := getF X1 hx hZ hown (host := "") (Or.inl (hw _ (List.mem_of_getElem? (i := 35) rfl))) Via.refl e1 Fc (g := (mkF m 7 #[.val (.ref a1)] [(.ref a1)])) rfl rfl (hb hby d16_7)
  refine own_via (g' := (mkF m 10 #[.val (.ref a1)] [(.int (0 : Int32))])) st2 ?_
  refine own_step (g' := (mkF m 13 #[.val (.ref a1)] [])) (fun _ kont => XS.ifNo X2.here hx rfl (hb hby d16_10) rfl ((if0 _ _).trans (teq (by decide : (0 : Int32) = (0 : Int32))).2) kont) ?_
  refine own_step (g' := (mkF m 14 #[.val (.ref a1)] [(.int (1 : Int32))])) (fun _ kont => XS.iconst X2.here hx rfl (hb hby d16_13) kont) ?_
  refine own_step (g' := (mkF m 18 #[.val (.ref a1)] [(.int (1 : Int32))])) (fun _ kont => XS.goto X2.here hx rfl (pc0 := 14) (pc' := 18) rfl (hb hby d16_14) (by decide) (by decide) kont) ?_
  exact own_retN X2 hx (t := .boolean) hret (by simp) hlk (hb hby d16_18) e2 (by exact ⟨rfl, rfl, rfl⟩) (by decide) (by decide)
theorem d14_0 : decode jdk_68_method_33_code 0 = .ok (.aload_n 0, 1) := by decide +kernel
theorem d14_1 : decode jdk_68_method_33_code 1 = .ok (.getfield 79, 3) := by decide +kernel
theorem d14_4 : decode jdk_68_method_33_code 4 = .ok (.istore_n 3, 1) := by decide +kernel
theorem d14_5 : decode jdk_68_method_33_code 5 = .ok (.iload_n 3, 1) := by decide +kernel
theorem d14_6 : decode jdk_68_method_33_code 6 = .ok (.lload_n 1, 1) := by decide +kernel
theorem d14_7 : decode jdk_68_method_33_code 7 = .ok (.invokestatic 254, 3) := by decide +kernel
theorem d14_10 : decode jdk_68_method_33_code 10 = .ok (.iadd, 1) := by decide +kernel
theorem d14_11 : decode jdk_68_method_33_code 11 = .ok (.istore 4, 2) := by decide +kernel
theorem d14_13 : decode jdk_68_method_33_code 13 = .ok (.aload_n 0, 1) := by decide +kernel
theorem d14_14 : decode jdk_68_method_33_code 14 = .ok (.iload 4, 2) := by decide +kernel
theorem d14_16 : decode jdk_68_method_33_code 16 = .ok (.invokevirtual 100, 3) := by decide +kernel
theorem d14_19 : decode jdk_68_method_33_code 19 = .ok (.aload_n 0, 1) := by decide +kernel
theorem d14_20 : decode jdk_68_method_33_code 20 = .ok (.invokevirtual 83, 3) := by decide +kernel
theorem d14_23 : decode jdk_68_method_33_code 23 = .ok (.ifCond .eq 17, 3) := by decide +kernel
theorem d14_26 : decode jdk_68_method_33_code 26 = .ok (.lload_n 1, 1) := by decide +kernel
theorem d14_27 : decode jdk_68_method_33_code 27 = .ok (.iload 4, 2) := by decide +kernel
theorem d14_29 : decode jdk_68_method_33_code 29 = .ok (.aload_n 0, 1) := by decide +kernel
theorem d14_30 : decode jdk_68_method_33_code 30 = .ok (.getfield 15, 3) := by decide +kernel
theorem d14_33 : decode jdk_68_method_33_code 33 = .ok (.invokestatic 259, 3) := by decide +kernel
theorem d14_36 : decode jdk_68_method_33_code 36 = .ok (.pop, 1) := by decide +kernel
theorem d14_37 : decode jdk_68_method_33_code 37 = .ok (.goto 15, 3) := by decide +kernel
theorem d14_52 : decode jdk_68_method_33_code 52 = .ok (.aload_n 0, 1) := by decide +kernel
theorem d14_53 : decode jdk_68_method_33_code 53 = .ok (.iload 4, 2) := by decide +kernel
theorem d14_55 : decode jdk_68_method_33_code 55 = .ok (.putfield 79, 3) := by decide +kernel
theorem d14_58 : decode jdk_68_method_33_code 58 = .ok (.aload_n 0, 1) := by decide +kernel
theorem d14_59 : decode jdk_68_method_33_code 59 = .ok (.areturn, 1) := by decide +kernel
theorem pd_11 : parseMethodDescriptor "()Z" = some ⟨[], some .boolean⟩ := by decide +kernel
set_option maxRecDepth 65536 in
set_option maxHeartbeats 40000000 in
theorem rmJN (l : Launch) (Z : State) (a0 : Array Value) (hw : ∀ d ∈ tables_1, d.before a0 Z = true) (ws : List Jvm.Cond) (a1 ar : Addr) (z : Int32) (x1 : Int64) (dst da1 da2 : Addr) (DC1 DC2 : Cell) (h0 : Heap) (n0 : Nat) (Z0 : n0 ≤ h0.size) (S_CS : Sta Z h0 "java/lang/String" "COMPACT_STRINGS" "Z" (.int z)) (hz : ¬ (z = (0 : Int32))) (g_a1 : n0 ≤ a1) (g_ar : n0 ≤ ar) (E1 : Exa Z h0 a1 "java/lang/StringBuilder") (Fv : Fld Z h0 a1 "java/lang/AbstractStringBuilder" "value" "[B" (.ref ar)) (Fc : Fld Z h0 a1 "java/lang/AbstractStringBuilder" "coder" "B" (.int (0 : Int32))) (Fn : Fld Z h0 a1 "java/lang/AbstractStringBuilder" "count" "I" (.int (9 : Int32))) (Bar : OBy Z h0 ar (16 : Int32)) (tb1 : Jvm.Free.SBG.Tbl Z "DigitOnes" dst da1 DC1) (tb2 : Jvm.Free.SBG.Tbl Z "DigitTens" dst da2 DC2) (O0 : Old Z n0 h0) (hj : ((9 : Int32) + (Jvm.Free.SBG.strSizeOfL x1)).toInt ≤ 16) :
    OMet l (⟨"java/lang/AbstractStringBuilder", "append", "(J)Ljava/lang/AbstractStringBuilder;"⟩ : MethodName) jdk_68_method_33_code 5 (some (.object "java/lang/AbstractStringBuilder")) ws ({ frames := 2, cells := 0, slots := 0, locals := 102 } : Room) Z #[(.ref a1), (.long x1)] h0 (fun v h L => v = some (.ref a1) ∧ Fr n0 L ∧ Keep h0 h [a1, ar] ∧ OBy Z h ar (16 : Int32) ∧ Exa Z h a1 "java/lang/StringBuilder" ∧ Fld Z h a1 "java/lang/AbstractStringBuilder" "value" "[B" (.ref ar) ∧ Fld Z h a1 "java/lang/AbstractStringBuilder" "coder" "B" (.int (0 : Int32)) ∧ Fld Z h a1 "java/lang/AbstractStringBuilder" "count" "I" (.int ((9 : Int32) + (Jvm.Free.SBG.strSizeOfL x1)))) := by
  refine own_body (plainFor_of_name pn_35) ?_
  intro p e s m below meth cdx T0 X0 hx hZ hby hml hown hnm hret hlk e0
  have N0 := Fr.nil n0
  refine own_entry (g' := (mkF m 0 #[.val (.ref a1), .val (.long x1), .second, .unset, .unset] [])) (by first | rfl | (simp [entryFrame, mkF, argsToLocals, Value.category, maxLocals]; done)) ?_
  have KC0 := Keep.refl h0 [a1, ar]
  have ne_a1_ar : a1 ≠ ar := own_neB E1 Bar (hw _ (List.mem_of_getElem? (i := 18) rfl))
  refine own_step (g' := (mkF m 1 #[.val (.ref a1), .val (.long x1), .second, .unset, .unset] [(.ref a1)])) (fun _ kont => XS.aloadN X0.here hx rfl (hb hby d14_0) rfl rfl kont) ?_
  obtain ⟨T1, X1, e1, st1⟩ := getF X0 hx hZ hown (host := "") (Or.inl (hw _ (List.mem_of_getElem? (i := 61) rfl))) Via.refl e0 Fn (g := (mkF m 1 #[.val (.ref a1), .val (.long x1), .second, .unset, .unset] [(.ref a1)])) rfl rfl (hb hby d14_1)
  refine own_via (g' := (mkF m 4 #[.val (.ref a1), .val (.long x1), .second, .unset, .unset] [(.int (9 : Int32))])) st1 ?_
  refine own_step (g' := (mkF m 5 #[.val (.ref a1), .val (.long x1), .second, .val (.int (9 : Int32)), .unset] [])) (fun _ kont => XS.istoreN X1.here hx rfl (hb hby d14_4) rfl (l' := #[.val (.ref a1), .val (.long x1), .second, .val (.int (9 : Int32)), .unset]) rfl kont) ?_
  refine own_step (g' := (mkF m 6 #[.val (.ref a1), .val (.long x1), .second, .val (.int (9 : Int32)), .unset] [(.int (9 : Int32))])) (fun _ kont => XS.iloadN X1.here hx rfl (hb hby d14_5) rfl kont) ?_
  refine own_step (g' := (mkF m 7 #[.val (.ref a1), .val (.long x1), .second, .val (.int (9 : Int32)), .unset] [(.long x1), (.int (9 : Int32))])) (fun _ kont => XS.lloadN X1.here hx rfl (hb hby d14_6) rfl kont) ?_
  refine own_strSize X1 hx hZ (W := 1) hown e1 (hw _ (List.mem_of_getElem? (i := 97) rfl)) (hw _ (List.mem_of_getElem? (i := 98) rfl)) (hw _ (List.mem_of_getElem? (i := 99) rfl)) (hw _ (List.mem_of_getElem? (i := 100) rfl)) (hw _ (List.mem_of_getElem? (i := 101) rfl)) (hw _ (List.mem_of_getElem? (i := 222) rfl)) (by decide) (by decide) (by decide) (by decide) (g := (mkF m 7 #[.val (.ref a1), .val (.long x1), .second, .val (.int (9 : Int32)), .unset] [(.long x1), (.int (9 : Int32))])) rfl (by rw [hml]; rfl) (x := x1) (rest := [(.int (9 : Int32))]) rfl (by show 2 * 0 + _ ≤ _; exact Nat.le_of_eq rfl) (hb hby d14_7) ?_
  intro T2 X2 e2
  show OGo p e below _ T2 (mkF m 10 #[.val (.ref a1), .val (.long x1), .second, .val (.int (9 : Int32)), .unset] [(.int (Jvm.Free.SBG.strSizeOfL x1)), (.int (9 : Int32))])
  refine own_step (g' := (mkF m 11 #[.val (.ref a1), .val (.long x1), .second, .val (.int (9 : Int32)), .unset] [(.int ((9 : Int32) + (Jvm.Free.SBG.strSizeOfL x1)))])) (fun _ kont => XS.iadd X2.here hx rfl (hb hby d14_10) rfl kont) ?_
  refine own_step (g' := (mkF m 13 #[.val (.ref a1), .val (.long x1), .second, .val (.int (9 : Int32)), .val (.int ((9 : Int32) + (Jvm.Free.SBG.strSizeOfL x1)))] [])) (fun _ kont => XS.istore X2.here hx rfl (hb hby d14_11) rfl (l' := #[.val (.ref a1), .val (.long x1), .second, .val (.int (9 : Int32)), .val (.int ((9 : Int32) + (Jvm.Free.SBG.strSizeOfL x1)))]) rfl kont) ?_
  refine own_step (g' := (mkF m 14 #[.val (.ref a1), .val (.long x1), .second, .val (.int (9 : Int32)), .val (.int ((9 : Int32) + (Jvm.Free.SBG.strSizeOfL x1)))] [(.ref a1)])) (fun _ kont => XS.aloadN X2.here hx rfl (hb hby d14_13) rfl rfl kont) ?_
  refine own_step (g' := (mkF m 16 #[.val (.ref a1), .val (.long x1), .second, .val (.int (9 : Int32)), .val (.int ((9 : Int32) + (Jvm.Free.SBG.strSizeOfL x1)))] [(.int ((9 : Int32) + (Jvm.Free.SBG.strSizeOfL x1))), (.ref a1)])) (fun _ kont => XS.iload X2.here hx rfl (hb hby d14_14) rfl kont) ?_
  refine own_callV X2 hx hZ (W := 0) hown e2 (rmEnsN l Z a0 hw [] a1 ar (9 : Int32) ((9 : Int32) + (Jvm.Free.SBG.strSizeOfL x1)) h0 n0 Z0 E1 Fv Fc Fn Bar (by rw [(own_add (x := (9 : Int32)) (y := (Jvm.Free.SBG.strSizeOfL x1)) (by decide) (by have := own_ssz x1; omega) (by have := own_ssz x1; rw [own_i9]; omega)), own_i9]; have := own_ssz x1; omega) hj) E1 (hw _ (List.mem_of_getElem? (i := 63) rfl)) (own_declares (hw _ (List.mem_of_getElem? (i := 64) rfl)) (hw _ (List.mem_of_getElem? (i := 67) rfl))) (notFace_of_selects (args := #[]) (mvT hZ (hw _ (List.mem_of_getElem? (i := 66) rfl)))) (hw _ (List.mem_of_getElem? (i := 66) rfl)) (hw _ (List.mem_of_getElem? (i := 64) rfl)) (hw _ (List.mem_of_getElem? (i := 67) rfl)) (hw _ (List.mem_of_getElem? (i := 27) rfl)) (by decide) (by decide) (by decide) (g := (mkF m 16 #[.val (.ref a1), .val (.long x1), .second, .val (.int (9 : Int32)), .val (.int ((9 : Int32) + (Jvm.Free.SBG.strSizeOfL x1)))] [(.int ((9 : Int32) + (Jvm.Free.SBG.strSizeOfL x1))), (.ref a1)])) rfl (by rw [hml]; rfl) (argsL := [(.int ((9 : Int32) + (Jvm.Free.SBG.strSizeOfL x1)))]) (rest := []) rfl (lenOf pd_8 rfl) rfl (by show 2 * 0 + _ ≤ _; exact Nat.le_of_eq rfl) (hb hby d14_16) (by decide) (by decide) ?_
  intro v3 T3 L3 X3 hQ3
  obtain ⟨rfl, rfl, e3⟩ := hQ3
  replace X3 := own_pureX X3
  show OGo p e below _ T3 (mkF m 19 #[.val (.ref a1), .val (.long x1), .second, .val (.int (9 : Int32)), .val (.int ((9 : Int32) + (Jvm.Free.SBG.strSizeOfL x1)))] [])
  refine own_step (g' := (mkF m 20 #[.val (.ref a1), .val (.long x1), .second, .val (.int (9 : Int32)), .val (.int ((9 : Int32) + (Jvm.Free.SBG.strSizeOfL x1)))] [(.ref a1)])) (fun _ kont => XS.aloadN X3.here hx rfl (hb hby d14_19) rfl rfl kont) ?_
  refine own_callV X3 hx hZ (W := 0) hown e3 (rmLa l Z a0 hw [] a1 ar (9 : Int32) z h0 n0 Z0 S_CS hz E1 Fv Fc Fn) E1 (hw _ (List.mem_of_getElem? (i := 102) rfl)) (hw _ (List.mem_of_getElem? (i := 103) rfl)) (notFace_of_selects (args := #[]) (mvT hZ (hw _ (List.mem_of_getElem? (i := 105) rfl)))) (hw _ (List.mem_of_getElem? (i := 105) rfl)) (hw _ (List.mem_of_getElem? (i := 104) rfl)) (hw _ (List.mem_of_getElem? (i := 106) rfl)) (hw _ (List.mem_of_getElem? (i := 27) rfl)) (by decide) (by decide) (by decide) (g := (mkF m 20 #[.val (.ref a1), .val (.long x1), .second, .val (.int (9 : Int32)), .val (.int ((9 : Int32) + (Jvm.Free.SBG.strSizeOfL x1)))] [(.ref a1)])) rfl (by rw [hml]; rfl) (argsL := []) (rest := []) rfl (lenOf pd_11 rfl) rfl (by show 2 * 0 + _ ≤ _; exact Nat.le_of_eq rfl) (hb hby d14_20) (by decide) (by decide) ?_
  intro v4 T4 L4 X4 hQ4
  obtain ⟨rfl, rfl, e4⟩ := hQ4
  replace X4 := own_pureX X4
  show OGo p e below _ T4 (mkF m 23 #[.val (.ref a1), .val (.long x1), .second, .val (.int (9 : Int32)), .val (.int ((9 : Int32) + (Jvm.Free.SBG.strSizeOfL x1)))] [(.int (1 : Int32))])
  refine own_step (g' := (mkF m 26 #[.val (.ref a1), .val (.long x1), .second, .val (.int (9 : Int32)), .val (.int ((9 : Int32) + (Jvm.Free.SBG.strSizeOfL x1)))] [])) (fun _ kont => XS.ifNo X4.here hx rfl (hb hby d14_23) rfl ((if0 _ _).trans (feq (by decide : ¬ ((1 : Int32) = (0 : Int32)))).1) kont) ?_
  refine own_step (g' := (mkF m 27 #[.val (.ref a1), .val (.long x1), .second, .val (.int (9 : Int32)), .val (.int ((9 : Int32) + (Jvm.Free.SBG.strSizeOfL x1)))] [(.long x1)])) (fun _ kont => XS.lloadN X4.here hx rfl (hb hby d14_26) rfl kont) ?_
  refine own_step (g' := (mkF m 29 #[.val (.ref a1), .val (.long x1), .second, .val (.int (9 : Int32)), .val (.int ((9 : Int32) + (Jvm.Free.SBG.strSizeOfL x1)))] [(.int ((9 : Int32) + (Jvm.Free.SBG.strSizeOfL x1))), (.long x1)])) (fun _ kont => XS.iload X4.here hx rfl (hb hby d14_27) rfl kont) ?_
  refine own_step (g' := (mkF m 30 #[.val (.ref a1), .val (.long x1), .second, .val (.int (9 : Int32)), .val (.int ((9 : Int32) + (Jvm.Free.SBG.strSizeOfL x1)))] [(.ref a1), (.int ((9 : Int32) + (Jvm.Free.SBG.strSizeOfL x1))), (.long x1)])) (fun _ kont => XS.aloadN X4.here hx rfl (hb hby d14_29) rfl rfl kont) ?_
  obtain ⟨T5, X5, e5, st5⟩ := getF X4 hx hZ hown (host := "") (Or.inl (hw _ (List.mem_of_getElem? (i := 33) rfl))) Via.refl e4 Fv (g := (mkF m 30 #[.val (.ref a1), .val (.long x1), .second, .val (.int (9 : Int32)), .val (.int ((9 : Int32) + (Jvm.Free.SBG.strSizeOfL x1)))] [(.ref a1), (.int ((9 : Int32) + (Jvm.Free.SBG.strSizeOfL x1))), (.long x1)])) rfl rfl (hb hby d14_30)
  refine own_via (g' := (mkF m 33 #[.val (.ref a1), .val (.long x1), .second, .val (.int (9 : Int32)), .val (.int ((9 : Int32) + (Jvm.Free.SBG.strSizeOfL x1)))] [(.ref ar), (.int ((9 : Int32) + (Jvm.Free.SBG.strSizeOfL x1))), (.long x1)])) st5 ?_
  refine own_getC X5 hx hZ (W := 0) hown e5 (hw _ (List.mem_of_getElem? (i := 107) rfl)) (hw _ (List.mem_of_getElem? (i := 108) rfl)) (hw _ (List.mem_of_getElem? (i := 99) rfl)) (hw _ (List.mem_of_getElem? (i := 109) rfl)) (hw _ (List.mem_of_getElem? (i := 111) rfl)) (hw _ (List.mem_of_getElem? (i := 241) rfl)) (hw _ (List.mem_of_getElem? (i := 110) rfl)) (hw _ (List.mem_of_getElem? (i := 240) rfl)) tb1 tb2 O0 g_ar Bar (x := x1) (by rw [own_add (by decide) (by have := own_ssz x1; omega) (by have := own_ssz x1; rw [own_i9]; omega), own_i9]; omega) (by rw [own_i16]; exact hj) N0 (by decide) (by decide) (by decide) (by decide) (g := (mkF m 33 #[.val (.ref a1), .val (.long x1), .second, .val (.int (9 : Int32)), .val (.int ((9 : Int32) + (Jvm.Free.SBG.strSizeOfL x1)))] [(.ref ar), (.int ((9 : Int32) + (Jvm.Free.SBG.strSizeOfL x1))), (.long x1)])) rfl (by rw [hml]; rfl) (rest := []) rfl (by show 2 * 0 + _ ≤ _; exact Nat.le_of_eq rfl) (hb hby d14_33) ?_
  intro v6 T6 L6 X6 N6 Kq6 By6
  have K6 : Keep h0 T6.heap [a1, ar] := KC0.trans Kq6 (allS (Or.inl (List.mem_of_getElem? (i := 1) rfl)) all0)
  show OGo p e below _ T6 (mkF m 36 #[.val (.ref a1), .val (.long x1), .second, .val (.int (9 : Int32)), .val (.int ((9 : Int32) + (Jvm.Free.SBG.strSizeOfL x1)))] [(.int v6)])
  refine own_step (g' := (mkF m 37 #[.val (.ref a1), .val (.long x1), .second, .val (.int (9 : Int32)), .val (.int ((9 : Int32) + (Jvm.Free.SBG.strSizeOfL x1)))] [])) (fun _ kont => XS.pop X6.here hx rfl (hb hby d14_36) rfl rfl kont) ?_
  refine own_step (g' := (mkF m 52 #[.val (.ref a1), .val (.long x1), .second, .val (.int (9 : Int32)), .val (.int ((9 : Int32) + (Jvm.Free.SBG.strSizeOfL x1)))] [])) (fun _ kont => XS.goto X6.here hx rfl (pc0 := 37) (pc' := 52) rfl (hb hby d14_37) (by decide) (by decide) kont) ?_
  refine own_step (g' := (mkF m 53 #[.val (.ref a1), .val (.long x1), .second, .val (.int (9 : Int32)), .val (.int ((9 : Int32) + (Jvm.Free.SBG.strSizeOfL x1)))] [(.ref a1)])) (fun _ kont => XS.aloadN X6.here hx rfl (hb hby d14_52) rfl rfl kont) ?_
  refine own_step (g' := (mkF m 55 #[.val (.ref a1), .val (.long x1), .second, .val (.int (9 : Int32)), .val (.int ((9 : Int32) + (Jvm.Free.SBG.strSizeOfL x1)))] [(.int ((9 : Int32) + (Jvm.Free.SBG.strSizeOfL x1))), (.ref a1)])) (fun _ kont => XS.iload X6.here hx rfl (hb hby d14_53) rfl kont) ?_
  have F_7 : Fld Z T6.heap a1 "java/lang/AbstractStringBuilder" "count" "I" (.int (9 : Int32)) := (Fn.keep Kq6 (ninS ne_a1_ar nin0))
  have C_8 : Exa Z T6.heap a1 "java/lang/StringBuilder" := (E1.keep Kq6)
  obtain ⟨T9, h9, X9, e9, W9, st9⟩ := putF X6 hx hZ hown (host := "") (Or.inl (hw _ (List.mem_of_getElem? (i := 61) rfl))) Via.refl rfl F_7 C_8 (Or.inl (hw _ (List.mem_of_getElem? (i := 62) rfl))) (hw _ (List.mem_of_getElem? (i := 18) rfl)) (ty := .int) (by decide) rfl rfl (g := (mkF m 55 #[.val (.ref a1), .val (.long x1), .second, .val (.int (9 : Int32)), .val (.int ((9 : Int32) + (Jvm.Free.SBG.strSizeOfL x1)))] [(.int ((9 : Int32) + (Jvm.Free.SBG.strSizeOfL x1))), (.ref a1)])) rfl rfl (hb hby d14_55)
  have Fw9 := Fld.same W9 F_7
  have N9 := Fr.snoc X9 N6 g_a1
  have K9 : Keep h0 h9 [a1, ar] := K6.wr W9 (Or.inl (List.mem_of_getElem? (i := 0) rfl))
  refine own_via (g' := (mkF m 58 #[.val (.ref a1), .val (.long x1), .second, .val (.int (9 : Int32)), .val (.int ((9 : Int32) + (Jvm.Free.SBG.strSizeOfL x1)))] [])) st9 ?_
  refine own_step (g' := (mkF m 59 #[.val (.ref a1), .val (.long x1), .second, .val (.int (9 : Int32)), .val (.int ((9 : Int32) + (Jvm.Free.SBG.strSizeOfL x1)))] [(.ref a1)])) (fun _ kont => XS.aloadN X9.here hx rfl (hb hby d14_58) rfl rfl kont) ?_
  have By_10 : OBy Z h9 ar (16 : Int32) := (By6.other W9 (Ne.symm ne_a1_ar))
  have C_11 : Exa Z h9 a1 "java/lang/StringBuilder" := (Exa.wr W9 C_8)
  have F_12 : Fld Z h9 a1 "java/lang/AbstractStringBuilder" "value" "[B" (.ref ar) := (Fld.other W9 (Fv.keep Kq6 (ninS ne_a1_ar nin0)) (Or.inr (slot_ne (Or.inl (hw _ (List.mem_of_getElem? (i := 34) rfl))) (Or.inl (hw _ (List.mem_of_getElem? (i := 62) rfl))) (by decide) (t := (.array .byte)) (t' := .int) (by decide) (by decide))))
  have F_13 : Fld Z h9 a1 "java/lang/AbstractStringBuilder" "coder" "B" (.int (0 : Int32)) := (Fld.other W9 (Fc.keep Kq6 (ninS ne_a1_ar nin0)) (Or.inr (slot_ne (Or.inl (hw _ (List.mem_of_getElem? (i := 36) rfl))) (Or.inl (hw _ (List.mem_of_getElem? (i := 62) rfl))) (by decide) (t := .byte) (t' := .int) (by decide) (by decide))))
  exact own_retA X9 hx hret rfl rfl hlk (hb hby d14_59) e9 (by exact ⟨rfl, N9, K9, By_10, C_11, F_12, F_13, Fw9⟩) (by decide) (by decide)
set_option maxRecDepth 65536 in
set_option maxHeartbeats 40000000 in
theorem rmJG (l : Launch) (Z : State) (a0 : Array Value) (hw : ∀ d ∈ tables_1, d.before a0 Z = true) (ws : List Jvm.Cond) (a1 ar : Addr) (z : Int32) (x1 : Int64) (dst da1 da2 : Addr) (DC1 DC2 : Cell) (h0 : Heap) (n0 : Nat) (Z0 : n0 ≤ h0.size) (S_CS : Sta Z h0 "java/lang/String" "COMPACT_STRINGS" "Z" (.int z)) (hz : ¬ (z = (0 : Int32))) (g_a1 : n0 ≤ a1) (g_ar : n0 ≤ ar) (E1 : Exa Z h0 a1 "java/lang/StringBuilder") (Fv : Fld Z h0 a1 "java/lang/AbstractStringBuilder" "value" "[B" (.ref ar)) (Fc : Fld Z h0 a1 "java/lang/AbstractStringBuilder" "coder" "B" (.int (0 : Int32))) (Fn : Fld Z h0 a1 "java/lang/AbstractStringBuilder" "count" "I" (.int (9 : Int32))) (Bar : OBy Z h0 ar (16 : Int32)) (tb1 : Jvm.Free.SBG.Tbl Z "DigitOnes" dst da1 DC1) (tb2 : Jvm.Free.SBG.Tbl Z "DigitTens" dst da2 DC2) (O0 : Old Z n0 h0) (hj : 16 < ((9 : Int32) + (Jvm.Free.SBG.strSizeOfL x1)).toInt) :
    OMet l (⟨"java/lang/AbstractStringBuilder", "append", "(J)Ljava/lang/AbstractStringBuilder;"⟩ : MethodName) jdk_68_method_33_code 5 (some (.object "java/lang/AbstractStringBuilder")) ws ({ frames := 4, cells := 1, slots := 34, locals := 102 } : Room) Z #[(.ref a1), (.long x1)] h0 (fun v h L => v = some (.ref a1) ∧ (∃ b : Addr, h0.size ≤ b ∧ n0 ≤ b ∧ OBy Z h b (34 : Int32) ∧ Exa Z h b "[B" ∧ Exa Z h a1 "java/lang/StringBuilder" ∧ Fld Z h a1 "java/lang/AbstractStringBuilder" "value" "[B" (.ref b) ∧ Fld Z h a1 "java/lang/AbstractStringBuilder" "coder" "B" (.int (0 : Int32)) ∧ Fld Z h a1 "java/lang/AbstractStringBuilder" "count" "I" (.int ((9 : Int32) + (Jvm.Free.SBG.strSizeOfL x1)))) ∧ Fr n0 L ∧ Keep h0 h [a1]) := by
  refine own_body (plainFor_of_name pn_35) ?_
  intro p e s m below meth cdx T0 X0 hx hZ hby hml hown hnm hret hlk e0
  have N0 := Fr.nil n0
  refine own_entry (g' := (mkF m 0 #[.val (.ref a1), .val (.long x1), .second, .unset, .unset] [])) (by first | rfl | (simp [entryFrame, mkF, argsToLocals, Value.category, maxLocals]; done)) ?_
  have KC0 := Keep.refl h0 [a1]
  have ne_a1_ar : a1 ≠ ar := own_neB E1 Bar (hw _ (List.mem_of_getElem? (i := 18) rfl))
  refine own_step (g' := (mkF m 1 #[.val (.ref a1), .val (.long x1), .second, .unset, .unset] [(.ref a1)])) (fun _ kont => XS.aloadN X0.here hx rfl (hb hby d14_0) rfl rfl kont) ?_
  obtain ⟨T1, X1, e1, st1⟩ := getF X0 hx hZ hown (host := "") (Or.inl (hw _ (List.mem_of_getElem? (i := 61) rfl))) Via.refl e0 Fn (g := (mkF m 1 #[.val (.ref a1), .val (.long x1), .second, .unset, .unset] [(.ref a1)])) rfl rfl (hb hby d14_1)
  refine own_via (g' := (mkF m 4 #[.val (.ref a1), .val (.long x1), .second, .unset, .unset] [(.int (9 : Int32))])) st1 ?_
  refine own_step (g' := (mkF m 5 #[.val (.ref a1), .val (.long x1), .second, .val (.int (9 : Int32)), .unset] [])) (fun _ kont => XS.istoreN X1.here hx rfl (hb hby d14_4) rfl (l' := #[.val (.ref a1), .val (.long x1), .second, .val (.int (9 : Int32)), .unset]) rfl kont) ?_
  refine own_step (g' := (mkF m 6 #[.val (.ref a1), .val (.long x1), .second, .val (.int (9 : Int32)), .unset] [(.int (9 : Int32))])) (fun _ kont => XS.iloadN X1.here hx rfl (hb hby d14_5) rfl kont) ?_
  refine own_step (g' := (mkF m 7 #[.val (.ref a1), .val (.long x1), .second, .val (.int (9 : Int32)), .unset] [(.long x1), (.int (9 : Int32))])) (fun _ kont => XS.lloadN X1.here hx rfl (hb hby d14_6) rfl kont) ?_
  refine own_strSize X1 hx hZ (W := 1) hown e1 (hw _ (List.mem_of_getElem? (i := 97) rfl)) (hw _ (List.mem_of_getElem? (i := 98) rfl)) (hw _ (List.mem_of_getElem? (i := 99) rfl)) (hw _ (List.mem_of_getElem? (i := 100) rfl)) (hw _ (List.mem_of_getElem? (i := 101) rfl)) (hw _ (List.mem_of_getElem? (i := 222) rfl)) (by decide) (by decide) (by decide) (by decide) (g := (mkF m 7 #[.val (.ref a1), .val (.long x1), .second, .val (.int (9 : Int32)), .unset] [(.long x1), (.int (9 : Int32))])) rfl (by rw [hml]; rfl) (x := x1) (rest := [(.int (9 : Int32))]) rfl (by show 2 * 0 + _ ≤ _; exact Nat.le_of_eq rfl) (hb hby d14_7) ?_
  intro T2 X2 e2
  show OGo p e below _ T2 (mkF m 10 #[.val (.ref a1), .val (.long x1), .second, .val (.int (9 : Int32)), .unset] [(.int (Jvm.Free.SBG.strSizeOfL x1)), (.int (9 : Int32))])
  refine own_step (g' := (mkF m 11 #[.val (.ref a1), .val (.long x1), .second, .val (.int (9 : Int32)), .unset] [(.int ((9 : Int32) + (Jvm.Free.SBG.strSizeOfL x1)))])) (fun _ kont => XS.iadd X2.here hx rfl (hb hby d14_10) rfl kont) ?_
  refine own_step (g' := (mkF m 13 #[.val (.ref a1), .val (.long x1), .second, .val (.int (9 : Int32)), .val (.int ((9 : Int32) + (Jvm.Free.SBG.strSizeOfL x1)))] [])) (fun _ kont => XS.istore X2.here hx rfl (hb hby d14_11) rfl (l' := #[.val (.ref a1), .val (.long x1), .second, .val (.int (9 : Int32)), .val (.int ((9 : Int32) + (Jvm.Free.SBG.strSizeOfL x1)))]) rfl kont) ?_
  refine own_step (g' := (mkF m 14 #[.val (.ref a1), .val (.long x1), .second, .val (.int (9 : Int32)), .val (.int ((9 : Int32) + (Jvm.Free.SBG.strSizeOfL x1)))] [(.ref a1)])) (fun _ kont => XS.aloadN X2.here hx rfl (hb hby d14_13) rfl rfl kont) ?_
  refine own_step (g' := (mkF m 16 #[.val (.ref a1), .val (.long x1), .second, .val (.int (9 : Int32)), .val (.int ((9 : Int32) + (Jvm.Free.SBG.strSizeOfL x1)))] [(.int ((9 : Int32) + (Jvm.Free.SBG.strSizeOfL x1))), (.ref a1)])) (fun _ kont => XS.iload X2.here hx rfl (hb hby d14_14) rfl kont) ?_
  refine own_callV X2 hx hZ (W := 0) hown e2 (rmEnsG l Z a0 hw [] a1 ar (9 : Int32) ((9 : Int32) + (Jvm.Free.SBG.strSizeOfL x1)) h0 n0 Z0 g_a1 E1 Fv Fc Fn Bar hj (by rw [(own_add (x := (9 : Int32)) (y := (Jvm.Free.SBG.strSizeOfL x1)) (by decide) (by have := own_ssz x1; omega) (by have := own_ssz x1; rw [own_i9]; omega)), own_i9]; have := own_ssz x1; omega)) E1 (hw _ (List.mem_of_getElem? (i := 63) rfl)) (own_declares (hw _ (List.mem_of_getElem? (i := 64) rfl)) (hw _ (List.mem_of_getElem? (i := 67) rfl))) (notFace_of_selects (args := #[]) (mvT hZ (hw _ (List.mem_of_getElem? (i := 66) rfl)))) (hw _ (List.mem_of_getElem? (i := 66) rfl)) (hw _ (List.mem_of_getElem? (i := 64) rfl)) (hw _ (List.mem_of_getElem? (i := 67) rfl)) (hw _ (List.mem_of_getElem? (i := 27) rfl)) (by decide) (by decide) (by decide) (g := (mkF m 16 #[.val (.ref a1), .val (.long x1), .second, .val (.int (9 : Int32)), .val (.int ((9 : Int32) + (Jvm.Free.SBG.strSizeOfL x1)))] [(.int ((9 : Int32) + (Jvm.Free.SBG.strSizeOfL x1))), (.ref a1)])) rfl (by rw [hml]; rfl) (argsL := [(.int ((9 : Int32) + (Jvm.Free.SBG.strSizeOfL x1)))]) (rest := []) rfl (lenOf pd_8 rfl) rfl (by show 2 * 0 + _ ≤ _; exact Nat.le_of_eq rfl) (hb hby d14_16) (by decide) (by decide) ?_
  intro v3 T3 L3 X3 hQ3
  obtain ⟨rfl, ⟨bb, szb, g_bb, Bbb, Ebb, Ea1, Gv, Gc, Gn⟩, Nq3, Kq3⟩ := hQ3
  have N3 := Fr.app N0 Nq3
  have K3 : Keep h0 T3.heap [a1] := KC0.trans Kq3 (allS (Or.inl (List.mem_of_getElem? (i := 0) rfl)) all0)
  have sz_bb : h0.size ≤ bb := Nat.le_trans KC0.1 szb
  show OGo p e below _ T3 (mkF m 19 #[.val (.ref a1), .val (.long x1), .second, .val (.int (9 : Int32)), .val (.int ((9 : Int32) + (Jvm.Free.SBG.strSizeOfL x1)))] [])
  have ne_a1_bb : a1 ≠ bb := Nat.ne_of_lt (Nat.lt_of_lt_of_le E1.lt szb)
  have ne_ar_bb : ar ≠ bb := Nat.ne_of_lt (Nat.lt_of_lt_of_le Bar.lt szb)
  refine own_step (g' := (mkF m 20 #[.val (.ref a1), .val (.long x1), .second, .val (.int (9 : Int32)), .val (.int ((9 : Int32) + (Jvm.Free.SBG.strSizeOfL x1)))] [(.ref a1)])) (fun _ kont => XS.aloadN X3.here hx rfl (hb hby d14_19) rfl rfl kont) ?_
  have S_4 : Sta Z T3.heap "java/lang/String" "COMPACT_STRINGS" "Z" (.int z) := (own_sta_keep S_CS Kq3 (allS (own_nsE E1) all0))
  refine own_callV X3 hx hZ (W := 0) hown rfl (rmLa l Z a0 hw [] a1 bb (9 : Int32) z T3.heap n0 (Nat.le_trans Z0 Kq3.1) S_4 hz Ea1 Gv Gc Gn) Ea1 (hw _ (List.mem_of_getElem? (i := 102) rfl)) (hw _ (List.mem_of_getElem? (i := 103) rfl)) (notFace_of_selects (args := #[]) (mvT hZ (hw _ (List.mem_of_getElem? (i := 105) rfl)))) (hw _ (List.mem_of_getElem? (i := 105) rfl)) (hw _ (List.mem_of_getElem? (i := 104) rfl)) (hw _ (List.mem_of_getElem? (i := 106) rfl)) (hw _ (List.mem_of_getElem? (i := 27) rfl)) (by decide) (by decide) (by decide) (g := (mkF m 20 #[.val (.ref a1), .val (.long x1), .second, .val (.int (9 : Int32)), .val (.int ((9 : Int32) + (Jvm.Free.SBG.strSizeOfL x1)))] [(.ref a1)])) rfl (by rw [hml]; rfl) (argsL := []) (rest := []) rfl (lenOf pd_11 rfl) rfl (by show 2 * 0 + _ ≤ _; exact Nat.le_of_eq rfl) (hb hby d14_20) (by decide) (by decide) ?_
  intro v5 T5 L5 X5 hQ5
  obtain ⟨rfl, rfl, e5⟩ := hQ5
  replace X5 := own_pureX X5
  show OGo p e below _ T5 (mkF m 23 #[.val (.ref a1), .val (.long x1), .second, .val (.int (9 : Int32)), .val (.int ((9 : Int32) + (Jvm.Free.SBG.strSizeOfL x1)))] [(.int (1 : Int32))])
  refine own_step (g' := (mkF m 26 #[.val (.ref a1), .val (.long x1), .second, .val (.int (9 : Int32)), .val (.int ((9 : Int32) + (Jvm.Free.SBG.strSizeOfL x1)))] [])) (fun _ kont => XS.ifNo X5.here hx rfl (hb hby d14_23) rfl ((if0 _ _).trans (feq (by decide : ¬ ((1 : Int32) = (0 : Int32)))).1) kont) ?_
  refine own_step (g' := (mkF m 27 #[.val (.ref a1), .val (.long x1), .second, .val (.int (9 : Int32)), .val (.int ((9 : Int32) + (Jvm.Free.SBG.strSizeOfL x1)))] [(.long x1)])) (fun _ kont => XS.lloadN X5.here hx rfl (hb hby d14_26) rfl kont) ?_
  refine own_step (g' := (mkF m 29 #[.val (.ref a1), .val (.long x1), .second, .val (.int (9 : Int32)), .val (.int ((9 : Int32) + (Jvm.Free.SBG.strSizeOfL x1)))] [(.int ((9 : Int32) + (Jvm.Free.SBG.strSizeOfL x1))), (.long x1)])) (fun _ kont => XS.iload X5.here hx rfl (hb hby d14_27) rfl kont) ?_
  refine own_step (g' := (mkF m 30 #[.val (.ref a1), .val (.long x1), .second, .val (.int (9 : Int32)), .val (.int ((9 : Int32) + (Jvm.Free.SBG.strSizeOfL x1)))] [(.ref a1), (.int ((9 : Int32) + (Jvm.Free.SBG.strSizeOfL x1))), (.long x1)])) (fun _ kont => XS.aloadN X5.here hx rfl (hb hby d14_29) rfl rfl kont) ?_
  obtain ⟨T6, X6, e6, st6⟩ := getF X5 hx hZ hown (host := "") (Or.inl (hw _ (List.mem_of_getElem? (i := 33) rfl))) Via.refl e5 Gv (g := (mkF m 30 #[.val (.ref a1), .val (.long x1), .second, .val (.int (9 : Int32)), .val (.int ((9 : Int32) + (Jvm.Free.SBG.strSizeOfL x1)))] [(.ref a1), (.int ((9 : Int32) + (Jvm.Free.SBG.strSizeOfL x1))), (.long x1)])) rfl rfl (hb hby d14_30)
  refine own_via (g' := (mkF m 33 #[.val (.ref a1), .val (.long x1), .second, .val (.int (9 : Int32)), .val (.int ((9 : Int32) + (Jvm.Free.SBG.strSizeOfL x1)))] [(.ref bb), (.int ((9 : Int32) + (Jvm.Free.SBG.strSizeOfL x1))), (.long x1)])) st6 ?_
  have O_8 : Old Z n0 T3.heap := (O0.keep Kq3 (allS g_a1 all0))
  refine own_getC X6 hx hZ (W := 0) hown e6 (hw _ (List.mem_of_getElem? (i := 107) rfl)) (hw _ (List.mem_of_getElem? (i := 108) rfl)) (hw _ (List.mem_of_getElem? (i := 99) rfl)) (hw _ (List.mem_of_getElem? (i := 109) rfl)) (hw _ (List.mem_of_getElem? (i := 111) rfl)) (hw _ (List.mem_of_getElem? (i := 241) rfl)) (hw _ (List.mem_of_getElem? (i := 110) rfl)) (hw _ (List.mem_of_getElem? (i := 240) rfl)) tb1 tb2 O_8 g_bb Bbb (x := x1) (by rw [own_add (by decide) (by have := own_ssz x1; omega) (by have := own_ssz x1; rw [own_i9]; omega), own_i9]; omega) (by rw [(own_add (x := (9 : Int32)) (y := (Jvm.Free.SBG.strSizeOfL x1)) (by decide) (by have := own_ssz x1; omega) (by have := own_ssz x1; rw [own_i9]; omega)), own_i9, own_i34]; have := own_ssz x1; omega) N3 (by decide) (by decide) (by decide) (by decide) (g := (mkF m 33 #[.val (.ref a1), .val (.long x1), .second, .val (.int (9 : Int32)), .val (.int ((9 : Int32) + (Jvm.Free.SBG.strSizeOfL x1)))] [(.ref bb), (.int ((9 : Int32) + (Jvm.Free.SBG.strSizeOfL x1))), (.long x1)])) rfl (by rw [hml]; rfl) (rest := []) rfl (by show 2 * 0 + _ ≤ _; exact Nat.le_of_eq rfl) (hb hby d14_33) ?_
  intro v7 T7 L7 X7 N7 Kq7 By7
  have K7 : Keep h0 T7.heap [a1] := K3.trans Kq7 (allS (Or.inr sz_bb) all0)
  show OGo p e below _ T7 (mkF m 36 #[.val (.ref a1), .val (.long x1), .second, .val (.int (9 : Int32)), .val (.int ((9 : Int32) + (Jvm.Free.SBG.strSizeOfL x1)))] [(.int v7)])
  refine own_step (g' := (mkF m 37 #[.val (.ref a1), .val (.long x1), .second, .val (.int (9 : Int32)), .val (.int ((9 : Int32) + (Jvm.Free.SBG.strSizeOfL x1)))] [])) (fun _ kont => XS.pop X7.here hx rfl (hb hby d14_36) rfl rfl kont) ?_
  refine own_step (g' := (mkF m 52 #[.val (.ref a1), .val (.long x1), .second, .val (.int (9 : Int32)), .val (.int ((9 : Int32) + (Jvm.Free.SBG.strSizeOfL x1)))] [])) (fun _ kont => XS.goto X7.here hx rfl (pc0 := 37) (pc' := 52) rfl (hb hby d14_37) (by decide) (by decide) kont) ?_
  refine own_step (g' := (mkF m 53 #[.val (.ref a1), .val (.long x1), .second, .val (.int (9 : Int32)), .val (.int ((9 : Int32) + (Jvm.Free.SBG.strSizeOfL x1)))] [(.ref a1)])) (fun _ kont => XS.aloadN X7.here hx rfl (hb hby d14_52) rfl rfl kont) ?_
  refine own_step (g' := (mkF m 55 #[.val (.ref a1), .val (.long x1), .second, .val (.int (9 : Int32)), .val (.int ((9 : Int32) + (Jvm.Free.SBG.strSizeOfL x1)))] [(.int ((9 : Int32) + (Jvm.Free.SBG.strSizeOfL x1))), (.ref a1)])) (fun _ kont => XS.iload X7.here hx rfl (hb hby d14_53) rfl kont) ?_
  have F_9 : Fld Z T7.heap a1 "java/lang/AbstractStringBuilder" "count" "I" (.int (9 : Int32)) := (Gn.keep Kq7 (ninS ne_a1_bb nin0))
  have C_10 : Exa Z T7.heap a1 "java/lang/StringBuilder" := (Ea1.keep Kq7)
  obtain ⟨T11, h11, X11, e11, W11, st11⟩ := putF X7 hx hZ hown (host := "") (Or.inl (hw _ (List.mem_of_getElem? (i := 61) rfl))) Via.refl rfl F_9 C_10 (Or.inl (hw _ (List.mem_of_getElem? (i := 62) rfl))) (hw _ (List.mem_of_getElem? (i := 18) rfl)) (ty := .int) (by decide) rfl rfl (g := (mkF m 55 #[.val (.ref a1), .val (.long x1), .second, .val (.int (9 : Int32)), .val (.int ((9 : Int32) + (Jvm.Free.SBG.strSizeOfL x1)))] [(.int ((9 : Int32) + (Jvm.Free.SBG.strSizeOfL x1))), (.ref a1)])) rfl rfl (hb hby d14_55)
  have Fw11 := Fld.same W11 F_9
  have N11 := Fr.snoc X11 N7 g_a1
  have K11 : Keep h0 h11 [a1] := K7.wr W11 (Or.inl (List.mem_of_getElem? (i := 0) rfl))
  refine own_via (g' := (mkF m 58 #[.val (.ref a1), .val (.long x1), .second, .val (.int (9 : Int32)), .val (.int ((9 : Int32) + (Jvm.Free.SBG.strSizeOfL x1)))] [])) st11 ?_
  refine own_step (g' := (mkF m 59 #[.val (.ref a1), .val (.long x1), .second, .val (.int (9 : Int32)), .val (.int ((9 : Int32) + (Jvm.Free.SBG.strSizeOfL x1)))] [(.ref a1)])) (fun _ kont => XS.aloadN X11.here hx rfl (hb hby d14_58) rfl rfl kont) ?_
  have By_12 : OBy Z h11 bb (34 : Int32) := (By7.other W11 (Ne.symm ne_a1_bb))
  have C_13 : Exa Z h11 bb "[B" := (Exa.wr W11 (Ebb.keep Kq7))
  have C_14 : Exa Z h11 a1 "java/lang/StringBuilder" := (Exa.wr W11 C_10)
  have F_15 : Fld Z h11 a1 "java/lang/AbstractStringBuilder" "value" "[B" (.ref bb) := (Fld.other W11 (Gv.keep Kq7 (ninS ne_a1_bb nin0)) (Or.inr (slot_ne (Or.inl (hw _ (List.mem_of_getElem? (i := 34) rfl))) (Or.inl (hw _ (List.mem_of_getElem? (i := 62) rfl))) (by decide) (t := (.array .byte)) (t' := .int) (by decide) (by decide))))
  have F_16 : Fld Z h11 a1 "java/lang/AbstractStringBuilder" "coder" "B" (.int (0 : Int32)) := (Fld.other W11 (Gc.keep Kq7 (ninS ne_a1_bb nin0)) (Or.inr (slot_ne (Or.inl (hw _ (List.mem_of_getElem? (i := 36) rfl))) (Or.inl (hw _ (List.mem_of_getElem? (i := 62) rfl))) (by decide) (t := .byte) (t' := .int) (by decide) (by decide))))
  exact own_retA X11 hx hret rfl rfl hlk (hb hby d14_59) e11 (by exact ⟨rfl, ⟨_, sz_bb, g_bb, By_12, C_13, C_14, F_15, F_16, Fw11⟩, N11, K11⟩) (by decide) (by decide)
theorem d13_0 : decode jdk_67_method_16_code 0 = .ok (.aload_n 0, 1) := by decide +kernel
theorem d13_1 : decode jdk_67_method_16_code 1 = .ok (.lload_n 1, 1) := by decide +kernel
theorem d13_2 : decode jdk_67_method_16_code 2 = .ok (.invokespecial 56, 3) := by decide +kernel
theorem d13_5 : decode jdk_67_method_16_code 5 = .ok (.pop, 1) := by decide +kernel
theorem d13_6 : decode jdk_67_method_16_code 6 = .ok (.aload_n 0, 1) := by decide +kernel
theorem d13_7 : decode jdk_67_method_16_code 7 = .ok (.areturn, 1) := by decide +kernel
theorem pd_12 : parseMethodDescriptor "(J)Ljava/lang/AbstractStringBuilder;" = some ⟨[.long], some (.object "java/lang/AbstractStringBuilder")⟩ := by decide +kernel
set_option maxRecDepth 65536 in
set_option maxHeartbeats 40000000 in
theorem rmSJN (l : Launch) (Z : State) (a0 : Array Value) (hw : ∀ d ∈ tables_1, d.before a0 Z = true) (ws : List Jvm.Cond) (a1 ar : Addr) (z : Int32) (x1 : Int64) (dst da1 da2 : Addr) (DC1 DC2 : Cell) (h0 : Heap) (n0 : Nat) (Z0 : n0 ≤ h0.size) (S_CS : Sta Z h0 "java/lang/String" "COMPACT_STRINGS" "Z" (.int z)) (hz : ¬ (z = (0 : Int32))) (g_a1 : n0 ≤ a1) (g_ar : n0 ≤ ar) (E1 : Exa Z h0 a1 "java/lang/StringBuilder") (Fv : Fld Z h0 a1 "java/lang/AbstractStringBuilder" "value" "[B" (.ref ar)) (Fc : Fld Z h0 a1 "java/lang/AbstractStringBuilder" "coder" "B" (.int (0 : Int32))) (Fn : Fld Z h0 a1 "java/lang/AbstractStringBuilder" "count" "I" (.int (9 : Int32))) (Bar : OBy Z h0 ar (16 : Int32)) (tb1 : Jvm.Free.SBG.Tbl Z "DigitOnes" dst da1 DC1) (tb2 : Jvm.Free.SBG.Tbl Z "DigitTens" dst da2 DC2) (O0 : Old Z n0 h0) (hj : ((9 : Int32) + (Jvm.Free.SBG.strSizeOfL x1)).toInt ≤ 16) :
    OMet l (⟨"java/lang/StringBuilder", "append", "(J)Ljava/lang/StringBuilder;"⟩ : MethodName) jdk_67_method_16_code 3 (some (.object "java/lang/StringBuilder")) ws ({ frames := 3, cells := 0, slots := 0, locals := 118 } : Room) Z #[(.ref a1), (.long x1)] h0 (fun v h L => v = some (.ref a1) ∧ Fr n0 L ∧ Keep h0 h [a1, ar] ∧ OBy Z h ar (16 : Int32) ∧ Exa Z h a1 "java/lang/StringBuilder" ∧ Fld Z h a1 "java/lang/AbstractStringBuilder" "value" "[B" (.ref ar) ∧ Fld Z h a1 "java/lang/AbstractStringBuilder" "coder" "B" (.int (0 : Int32)) ∧ Fld Z h a1 "java/lang/AbstractStringBuilder" "count" "I" (.int ((9 : Int32) + (Jvm.Free.SBG.strSizeOfL x1)))) := by
  refine own_body (plainFor_of_name pn_5) ?_
  intro p e s m below meth cdx T0 X0 hx hZ hby hml hown hnm hret hlk e0
  have N0 := Fr.nil n0
  refine own_entry (g' := (mkF m 0 #[.val (.ref a1), .val (.long x1), .second] [])) (by first | rfl | (simp [entryFrame, mkF, argsToLocals, Value.category, maxLocals]; done)) ?_
  have KC0 := Keep.refl h0 [a1, ar]
  have ne_a1_ar : a1 ≠ ar := own_neB E1 Bar (hw _ (List.mem_of_getElem? (i := 18) rfl))
  refine own_step (g' := (mkF m 1 #[.val (.ref a1), .val (.long x1), .second] [(.ref a1)])) (fun _ kont => XS.aloadN X0.here hx rfl (hb hby d13_0) rfl rfl kont) ?_
  refine own_step (g' := (mkF m 2 #[.val (.ref a1), .val (.long x1), .second] [(.long x1), (.ref a1)])) (fun _ kont => XS.lloadN X0.here hx rfl (hb hby d13_1) rfl kont) ?_
  refine own_superB X0 hx hZ (W := 0) hown e0 (rmJN l Z a0 hw [] a1 ar z x1 dst da1 da2 DC1 DC2 h0 n0 Z0 S_CS hz g_a1 g_ar E1 Fv Fc Fn Bar tb1 tb2 O0 hj) (Ins.self E1) (by decide) (hw _ (List.mem_of_getElem? (i := 93) rfl)) (own_sameSelf (own_nfSib (notFace_of_selects (hw _ (List.mem_of_getElem? (i := 66) rfl))) rfl (hw _ (List.mem_of_getElem? (i := 67) rfl))) (by decide) (hw _ (List.mem_of_getElem? (i := 96) rfl))) (hw _ (List.mem_of_getElem? (i := 94) rfl)) (hw _ (List.mem_of_getElem? (i := 45) rfl)) (hw _ (List.mem_of_getElem? (i := 96) rfl)) (hw _ (List.mem_of_getElem? (i := 27) rfl)) (by decide) (by decide) (g := (mkF m 2 #[.val (.ref a1), .val (.long x1), .second] [(.long x1), (.ref a1)])) rfl (by rw [hml]; rfl) (argsL := [(.long x1)]) (rest := []) rfl (lenOf pd_12 rfl) rfl (by show 2 * 0 + _ ≤ _; exact Nat.le_of_eq rfl) (hb hby d13_2) (by decide) (by decide) ?_
  intro v1 T1 L1 X1 hQ1
  obtain ⟨rfl, Nq1, Kq1, Bq, Ea1, Gv, Gc, Gn⟩ := hQ1
  have N1 := Fr.app N0 Nq1
  have K1 : Keep h0 T1.heap [a1, ar] := KC0.trans Kq1 (allS (Or.inl (List.mem_of_getElem? (i := 0) rfl)) (allS (Or.inl (List.mem_of_getElem? (i := 1) rfl)) all0))
  show OGo p e below _ T1 (mkF m 5 #[.val (.ref a1), .val (.long x1), .second] [(.ref a1)])
  refine own_step (g' := (mkF m 6 #[.val (.ref a1), .val (.long x1), .second] [])) (fun _ kont => XS.pop X1.here hx rfl (hb hby d13_5) rfl rfl kont) ?_
  refine own_step (g' := (mkF m 7 #[.val (.ref a1), .val (.long x1), .second] [(.ref a1)])) (fun _ kont => XS.aloadN X1.here hx rfl (hb hby d13_6) rfl rfl kont) ?_
  exact own_retA X1 hx hret rfl rfl hlk (hb hby d13_7) rfl (by exact ⟨rfl, N1, K1, Bq, Ea1, Gv, Gc, Gn⟩) (by decide) (by decide)
set_option maxRecDepth 65536 in
set_option maxHeartbeats 40000000 in
theorem rmSJG (l : Launch) (Z : State) (a0 : Array Value) (hw : ∀ d ∈ tables_1, d.before a0 Z = true) (ws : List Jvm.Cond) (a1 ar : Addr) (z : Int32) (x1 : Int64) (dst da1 da2 : Addr) (DC1 DC2 : Cell) (h0 : Heap) (n0 : Nat) (Z0 : n0 ≤ h0.size) (S_CS : Sta Z h0 "java/lang/String" "COMPACT_STRINGS" "Z" (.int z)) (hz : ¬ (z = (0 : Int32))) (g_a1 : n0 ≤ a1) (g_ar : n0 ≤ ar) (E1 : Exa Z h0 a1 "java/lang/StringBuilder") (Fv : Fld Z h0 a1 "java/lang/AbstractStringBuilder" "value" "[B" (.ref ar)) (Fc : Fld Z h0 a1 "java/lang/AbstractStringBuilder" "coder" "B" (.int (0 : Int32))) (Fn : Fld Z h0 a1 "java/lang/AbstractStringBuilder" "count" "I" (.int (9 : Int32))) (Bar : OBy Z h0 ar (16 : Int32)) (tb1 : Jvm.Free.SBG.Tbl Z "DigitOnes" dst da1 DC1) (tb2 : Jvm.Free.SBG.Tbl Z "DigitTens" dst da2 DC2) (O0 : Old Z n0 h0) (hj : 16 < ((9 : Int32) + (Jvm.Free.SBG.strSizeOfL x1)).toInt) :
    OMet l (⟨"java/lang/StringBuilder", "append", "(J)Ljava/lang/StringBuilder;"⟩ : MethodName) jdk_67_method_16_code 3 (some (.object "java/lang/StringBuilder")) ws ({ frames := 5, cells := 1, slots := 34, locals := 118 } : Room) Z #[(.ref a1), (.long x1)] h0 (fun v h L => v = some (.ref a1) ∧ (∃ b : Addr, h0.size ≤ b ∧ n0 ≤ b ∧ OBy Z h b (34 : Int32) ∧ Exa Z h b "[B" ∧ Exa Z h a1 "java/lang/StringBuilder" ∧ Fld Z h a1 "java/lang/AbstractStringBuilder" "value" "[B" (.ref b) ∧ Fld Z h a1 "java/lang/AbstractStringBuilder" "coder" "B" (.int (0 : Int32)) ∧ Fld Z h a1 "java/lang/AbstractStringBuilder" "count" "I" (.int ((9 : Int32) + (Jvm.Free.SBG.strSizeOfL x1)))) ∧ Fr n0 L ∧ Keep h0 h [a1]) := by
  refine own_body (plainFor_of_name pn_5) ?_
  intro p e s m below meth cdx T0 X0 hx hZ hby hml hown hnm hret hlk e0
  have N0 := Fr.nil n0
  refine own_entry (g' := (mkF m 0 #[.val (.ref a1), .val (.long x1), .second] [])) (by first | rfl | (simp [entryFrame, mkF, argsToLocals, Value.category, maxLocals]; done)) ?_
  have KC0 := Keep.refl h0 [a1]
  have ne_a1_ar : a1 ≠ ar := own_neB E1 Bar (hw _ (List.mem_of_getElem? (i := 18) rfl))
  refine own_step (g' := (mkF m 1 #[.val (.ref a1), .val (.long x1), .second] [(.ref a1)])) (fun _ kont => XS.aloadN X0.here hx rfl (hb hby d13_0) rfl rfl kont) ?_
  refine own_step (g' := (mkF m 2 #[.val (.ref a1), .val (.long x1), .second] [(.long x1), (.ref a1)])) (fun _ kont => XS.lloadN X0.here hx rfl (hb hby d13_1) rfl kont) ?_
  refine own_superB X0 hx hZ (W := 0) hown e0 (rmJG l Z a0 hw [] a1 ar z x1 dst da1 da2 DC1 DC2 h0 n0 Z0 S_CS hz g_a1 g_ar E1 Fv Fc Fn Bar tb1 tb2 O0 hj) (Ins.self E1) (by decide) (hw _ (List.mem_of_getElem? (i := 93) rfl)) (own_sameSelf (own_nfSib (notFace_of_selects (hw _ (List.mem_of_getElem? (i := 66) rfl))) rfl (hw _ (List.mem_of_getElem? (i := 67) rfl))) (by decide) (hw _ (List.mem_of_getElem? (i := 96) rfl))) (hw _ (List.mem_of_getElem? (i := 94) rfl)) (hw _ (List.mem_of_getElem? (i := 45) rfl)) (hw _ (List.mem_of_getElem? (i := 96) rfl)) (hw _ (List.mem_of_getElem? (i := 27) rfl)) (by decide) (by decide) (g := (mkF m 2 #[.val (.ref a1), .val (.long x1), .second] [(.long x1), (.ref a1)])) rfl (by rw [hml]; rfl) (argsL := [(.long x1)]) (rest := []) rfl (lenOf pd_12 rfl) rfl (by show 2 * 0 + _ ≤ _; exact Nat.le_of_eq rfl) (hb hby d13_2) (by decide) (by decide) ?_
  intro v1 T1 L1 X1 hQ1
  obtain ⟨rfl, ⟨bb, szb, g_bb, Bbb, Ebb, Ea1, Gv, Gc, Gn⟩, Nq1, Kq1⟩ := hQ1
  have N1 := Fr.app N0 Nq1
  have K1 : Keep h0 T1.heap [a1] := KC0.trans Kq1 (allS (Or.inl (List.mem_of_getElem? (i := 0) rfl)) all0)
  have sz_bb : h0.size ≤ bb := Nat.le_trans KC0.1 szb
  show OGo p e below _ T1 (mkF m 5 #[.val (.ref a1), .val (.long x1), .second] [(.ref a1)])
  refine own_step (g' := (mkF m 6 #[.val (.ref a1), .val (.long x1), .second] [])) (fun _ kont => XS.pop X1.here hx rfl (hb hby d13_5) rfl rfl kont) ?_
  refine own_step (g' := (mkF m 7 #[.val (.ref a1), .val (.long x1), .second] [(.ref a1)])) (fun _ kont => XS.aloadN X1.here hx rfl (hb hby d13_6) rfl rfl kont) ?_
  exact own_retA X1 hx hret rfl rfl hlk (hb hby d13_7) rfl (by exact ⟨rfl, ⟨_, sz_bb, g_bb, Bbb, Ebb, Ea1, Gv, Gc, Gn⟩, N1, K1⟩) (by decide) (by decide)
theorem d3_0 : decode jdk_68_method_2_code 0 = .ok (.aload_n 0, 1) := by decide +kernel
theorem d3_1 : decode jdk_68_method_2_code 1 = .ok (.invokespecial 3, 3) := by decide +kernel
theorem d3_4 : decode jdk_68_method_2_code 4 = .ok (.getstatic 18, 3) := by decide +kernel
theorem d3_7 : decode jdk_68_method_2_code 7 = .ok (.ifCond .eq 18, 3) := by decide +kernel
theorem d3_10 : decode jdk_68_method_2_code 10 = .ok (.aload_n 0, 1) := by decide +kernel
theorem d3_11 : decode jdk_68_method_2_code 11 = .ok (.iload_n 1, 1) := by decide +kernel
theorem d3_12 : decode jdk_68_method_2_code 12 = .ok (.newarray .byte, 2) := by decide +kernel
theorem d3_14 : decode jdk_68_method_2_code 14 = .ok (.putfield 15, 3) := by decide +kernel
theorem d3_17 : decode jdk_68_method_2_code 17 = .ok (.aload_n 0, 1) := by decide +kernel
theorem d3_18 : decode jdk_68_method_2_code 18 = .ok (.iconst 0, 1) := by decide +kernel
theorem d3_19 : decode jdk_68_method_2_code 19 = .ok (.putfield 22, 3) := by decide +kernel
theorem d3_22 : decode jdk_68_method_2_code 22 = .ok (.goto 16, 3) := by decide +kernel
theorem d3_38 : decode jdk_68_method_2_code 38 = .ok (.return_, 1) := by decide +kernel
set_option maxRecDepth 65536 in
set_option maxHeartbeats 40000000 in
theorem rmAi (l : Launch) (Z : State) (a0 : Array Value) (hw : ∀ d ∈ tables_1, d.before a0 Z = true) (ws : List Jvm.Cond) (a1 : Addr) (z : Int32) (h0 : Heap) (n0 : Nat) (Z0 : n0 ≤ h0.size) (S_CS : Sta Z h0 "java/lang/String" "COMPACT_STRINGS" "Z" (.int z)) (hz : ¬ (z = (0 : Int32))) (g_a1 : n0 ≤ a1) (E1 : Exa Z h0 a1 "java/lang/StringBuilder") (Fv : Fld Z h0 a1 "java/lang/AbstractStringBuilder" "value" "[B" .null) (Fc : Fld Z h0 a1 "java/lang/AbstractStringBuilder" "coder" "B" (.int (0 : Int32))) (Fn : Fld Z h0 a1 "java/lang/AbstractStringBuilder" "count" "I" (.int (0 : Int32))) :
    OMet l (⟨"java/lang/AbstractStringBuilder", "<init>", "(I)V"⟩ : MethodName) jdk_68_method_2_code 2 none ws ({ frames := 1, cells := 1, slots := 16, locals := 12 } : Room) Z #[(.ref a1), (.int (16 : Int32))] h0 (fun v h L => v = none ∧ (∃ b : Addr, h0.size ≤ b ∧ n0 ≤ b ∧ OBy Z h b (16 : Int32) ∧ Exa Z h b "[B" ∧ Exa Z h a1 "java/lang/StringBuilder" ∧ Fld Z h a1 "java/lang/AbstractStringBuilder" "value" "[B" (.ref b) ∧ Fld Z h a1 "java/lang/AbstractStringBuilder" "coder" "B" (.int (0 : Int32)) ∧ Fld Z h a1 "java/lang/AbstractStringBuilder" "count" "I" (.int (0 : Int32))) ∧ Fr n0 L ∧ Keep h0 h [a1]) := by
  refine own_body (plainFor_of_name pn_35) ?_
  intro p e s m below meth cdx T0 X0 hx hZ hby hml hown hnm hret hlk e0
  have N0 := Fr.nil n0
  refine own_entry (g' := (mkF m 0 #[.val (.ref a1), .val (.int (16 : Int32))] [])) (by first | rfl | (simp [entryFrame, mkF, argsToLocals, Value.category, maxLocals]; done)) ?_
  have KC0 := Keep.refl h0 [a1]
  refine own_step (g' := (mkF m 1 #[.val (.ref a1), .val (.int (16 : Int32))] [(.ref a1)])) (fun _ kont => XS.aloadN X0.here hx rfl (hb hby d3_0) rfl rfl kont) ?_
  obtain ⟨T1, X1, e1, st1⟩ := initO X0 hx hZ hown (hw _ (List.mem_of_getElem? (i := 29) rfl)) (hw _ (List.mem_of_getElem? (i := 30) rfl)) (hw _ (List.mem_of_getElem? (i := 31) rfl)) e0 (g := (mkF m 1 #[.val (.ref a1), .val (.int (16 : Int32))] [(.ref a1)])) rfl (by rw [hml]; rfl) rfl (hb hby d3_1) (by decide) (W := 0) (by show 2 * 0 + _ ≤ _; exact Nat.le_of_eq rfl) (by decide)
  refine own_via (g' := (mkF m 4 #[.val (.ref a1), .val (.int (16 : Int32))] [])) st1 ?_
  obtain ⟨T2, X2, e2, st2⟩ := getS2 X1 hx hZ hown (host := "") (Or.inl (hw _ (List.mem_of_getElem? (i := 32) rfl))) Via.refl e1 S_CS (g := (mkF m 4 #[.val (.ref a1), .val (.int (16 : Int32))] [])) rfl (hb hby d3_4)
  refine own_via (g' := (mkF m 7 #[.val (.ref a1), .val (.int (16 : Int32))] [(.int z)])) st2 ?_
  refine own_step (g' := (mkF m 10 #[.val (.ref a1), .val (.int (16 : Int32))] [])) (fun _ kont => XS.ifNo X2.here hx rfl (hb hby d3_7) rfl ((if0 _ _).trans (feq hz).1) kont) ?_
  refine own_step (g' := (mkF m 11 #[.val (.ref a1), .val (.int (16 : Int32))] [(.ref a1)])) (fun _ kont => XS.aloadN X2.here hx rfl (hb hby d3_10) rfl rfl kont) ?_
  refine own_step (g' := (mkF m 12 #[.val (.ref a1), .val (.int (16 : Int32))] [(.int (16 : Int32)), (.ref a1)])) (fun _ kont => XS.iloadN X2.here hx rfl (hb hby d3_11) rfl kont) ?_
  obtain ⟨T3, h3, k3, X3, e3, Ex3, A3, C3, st3⟩ := newPE X2 hx hZ (hw _ (List.mem_of_getElem? (i := 12) rfl)) e2 (g := (mkF m 12 #[.val (.ref a1), .val (.int (16 : Int32))] [(.int (16 : Int32)), (.ref a1)])) rfl (hb hby d3_12) rfl (by decide) (cap := 16) (by decide) (by decide) (by decide) (by decide) (ad := "[B") (by decide)
  obtain ⟨nb3, g3⟩ : ∃ z, z = h0.size := ⟨_, rfl⟩
  rw [← g3] at A3 C3 st3
  have V3 : OBy Z h3 nb3 (16 : Int32) := own_by_new A3 (by decide)
  have g_nb3 : n0 ≤ nb3 := Nat.le_trans Z0 (Nat.le_of_eq g3.symm)
  have ne_a1_nb3 : a1 ≠ nb3 := Nat.ne_of_lt (Nat.lt_of_lt_of_le E1.lt (Nat.le_of_eq g3.symm))
  have sz_nb3 : h0.size ≤ nb3 := Nat.le_trans KC0.1 (Nat.le_of_eq g3.symm)
  have K3 : Keep h0 h3 [a1] := KC0.ext Ex3
  refine own_via (g' := (mkF m 14 #[.val (.ref a1), .val (.int (16 : Int32))] [(.ref nb3), (.ref a1)])) st3 ?_
  have F_4 : Fld Z h3 a1 "java/lang/AbstractStringBuilder" "value" "[B" .null := (Fld.ext Ex3 Fv)
  have C_5 : Exa Z h3 a1 "java/lang/StringBuilder" := (Exa.ext Ex3 E1)
  obtain ⟨T6, h6, X6, e6, W6, st6⟩ := putF X3 hx hZ hown (host := "") (Or.inl (hw _ (List.mem_of_getElem? (i := 33) rfl))) Via.refl e3 F_4 C_5 (Or.inl (hw _ (List.mem_of_getElem? (i := 34) rfl))) (hw _ (List.mem_of_getElem? (i := 18) rfl)) (ty := (.array .byte)) (by decide) rfl rfl (g := (mkF m 14 #[.val (.ref a1), .val (.int (16 : Int32))] [(.ref nb3), (.ref a1)])) rfl rfl (hb hby d3_14)
  have Fw6 := Fld.same W6 F_4
  have N6 := Fr.snoc X6 N0 g_a1
  have K6 : Keep h0 h6 [a1] := K3.wr W6 (Or.inl (List.mem_of_getElem? (i := 0) rfl))
  refine own_via (g' := (mkF m 17 #[.val (.ref a1), .val (.int (16 : Int32))] [])) st6 ?_
  refine own_step (g' := (mkF m 18 #[.val (.ref a1), .val (.int (16 : Int32))] [(.ref a1)])) (fun _ kont => XS.aloadN X6.here hx rfl (hb hby d3_17) rfl rfl kont) ?_
  refine own_step (g' := (mkF m 19 #[.val (.ref a1), .val (.int (16 : Int32))] [(.int (0 : Int32)), (.ref a1)])) (fun _ kont => XS.iconst X6.here hx rfl (hb hby d3_18) kont) ?_
  have F_7 : Fld Z h6 a1 "java/lang/AbstractStringBuilder" "coder" "B" (.int (0 : Int32)) := (Fld.other W6 (Fld.ext Ex3 Fc) (Or.inr (slot_ne (Or.inl (hw _ (List.mem_of_getElem? (i := 36) rfl))) (Or.inl (hw _ (List.mem_of_getElem? (i := 34) rfl))) (by decide) (t := .byte) (t' := (.array .byte)) (by decide) (by decide))))
  have C_8 : Exa Z h6 a1 "java/lang/StringBuilder" := (Exa.wr W6 C_5)
  obtain ⟨T9, h9, X9, e9, W9, st9⟩ := putF X6 hx hZ hown (host := "") (Or.inl (hw _ (List.mem_of_getElem? (i := 35) rfl))) Via.refl e6 F_7 C_8 (Or.inl (hw _ (List.mem_of_getElem? (i := 36) rfl))) (hw _ (List.mem_of_getElem? (i := 18) rfl)) (ty := .byte) (by decide) rfl rfl (g := (mkF m 19 #[.val (.ref a1), .val (.int (16 : Int32))] [(.int (0 : Int32)), (.ref a1)])) rfl rfl (hb hby d3_19)
  have Fw9 := Fld.same W9 F_7
  have N9 := Fr.snoc X9 N6 g_a1
  have K9 : Keep h0 h9 [a1] := K6.wr W9 (Or.inl (List.mem_of_getElem? (i := 0) rfl))
  refine own_via (g' := (mkF m 22 #[.val (.ref a1), .val (.int (16 : Int32))] [])) st9 ?_
  refine own_step (g' := (mkF m 38 #[.val (.ref a1), .val (.int (16 : Int32))] [])) (fun _ kont => XS.goto X9.here hx rfl (pc0 := 22) (pc' := 38) rfl (hb hby d3_22) (by decide) (by decide) kont) ?_
  have By_10 : OBy Z h9 nb3 (16 : Int32) := ((V3.other W6 (Ne.symm ne_a1_nb3)).other W9 (Ne.symm ne_a1_nb3))
  have C_11 : Exa Z h9 nb3 "[B" := (Exa.wr W9 (Exa.wr W6 C3))
  have C_12 : Exa Z h9 a1 "java/lang/StringBuilder" := (Exa.wr W9 C_8)
  have F_13 : Fld Z h9 a1 "java/lang/AbstractStringBuilder" "value" "[B" (.ref nb3) := (Fld.other W9 Fw6 (Or.inr (slot_ne (Or.inl (hw _ (List.mem_of_getElem? (i := 34) rfl))) (Or.inl (hw _ (List.mem_of_getElem? (i := 36) rfl))) (by decide) (t := (.array .byte)) (t' := .byte) (by decide) (by decide))))
  have F_14 : Fld Z h9 a1 "java/lang/AbstractStringBuilder" "count" "I" (.int (0 : Int32)) := (Fld.other W9 (Fld.other W6 (Fld.ext Ex3 Fn) (Or.inr (slot_ne (Or.inl (hw _ (List.mem_of_getElem? (i := 62) rfl))) (Or.inl (hw _ (List.mem_of_getElem? (i := 34) rfl))) (by decide) (t := .int) (t' := (.array .byte)) (by decide) (by decide)))) (Or.inr (slot_ne (Or.inl (hw _ (List.mem_of_getElem? (i := 62) rfl))) (Or.inl (hw _ (List.mem_of_getElem? (i := 36) rfl))) (by decide) (t := .int) (t' := .byte) (by decide) (by decide))))
  exact own_retV X9 hx hret hlk (hb hby d3_38) e9 (by exact ⟨rfl, ⟨_, sz_nb3, g_nb3, By_10, C_11, C_12, F_13, Fw9, F_14⟩, N9, K9⟩) (by decide) (by decide)
theorem d2_0 : decode jdk_67_method_1_code 0 = .ok (.aload_n 0, 1) := by decide +kernel
theorem d2_1 : decode jdk_67_method_1_code 1 = .ok (.bipush 16, 2) := by decide +kernel
theorem d2_3 : decode jdk_67_method_1_code 3 = .ok (.invokespecial 1, 3) := by decide +kernel
theorem d2_6 : decode jdk_67_method_1_code 6 = .ok (.return_, 1) := by decide +kernel
set_option maxRecDepth 65536 in
set_option maxHeartbeats 40000000 in
theorem rmSi (l : Launch) (Z : State) (a0 : Array Value) (hw : ∀ d ∈ tables_1, d.before a0 Z = true) (ws : List Jvm.Cond) (a1 : Addr) (z : Int32) (h0 : Heap) (n0 : Nat) (Z0 : n0 ≤ h0.size) (S_CS : Sta Z h0 "java/lang/String" "COMPACT_STRINGS" "Z" (.int z)) (hz : ¬ (z = (0 : Int32))) (g_a1 : n0 ≤ a1) (E1 : Exa Z h0 a1 "java/lang/StringBuilder") (Fv : Fld Z h0 a1 "java/lang/AbstractStringBuilder" "value" "[B" .null) (Fc : Fld Z h0 a1 "java/lang/AbstractStringBuilder" "coder" "B" (.int (0 : Int32))) (Fn : Fld Z h0 a1 "java/lang/AbstractStringBuilder" "count" "I" (.int (0 : Int32))) :
    OMet l (⟨"java/lang/StringBuilder", "<init>", "()V"⟩ : MethodName) jdk_67_method_1_code 1 none ws ({ frames := 2, cells := 1, slots := 16, locals := 25 } : Room) Z #[(.ref a1)] h0 (fun v h L => v = none ∧ (∃ b : Addr, h0.size ≤ b ∧ n0 ≤ b ∧ OBy Z h b (16 : Int32) ∧ Exa Z h b "[B" ∧ Exa Z h a1 "java/lang/StringBuilder" ∧ Fld Z h a1 "java/lang/AbstractStringBuilder" "value" "[B" (.ref b) ∧ Fld Z h a1 "java/lang/AbstractStringBuilder" "coder" "B" (.int (0 : Int32)) ∧ Fld Z h a1 "java/lang/AbstractStringBuilder" "count" "I" (.int (0 : Int32))) ∧ Fr n0 L ∧ Keep h0 h [a1]) := by
  refine own_body (plainFor_of_name pn_5) ?_
  intro p e s m below meth cdx T0 X0 hx hZ hby hml hown hnm hret hlk e0
  have N0 := Fr.nil n0
  refine own_entry (g' := (mkF m 0 #[.val (.ref a1)] [])) (by first | rfl | (simp [entryFrame, mkF, argsToLocals, Value.category, maxLocals]; done)) ?_
  have KC0 := Keep.refl h0 [a1]
  refine own_step (g' := (mkF m 1 #[.val (.ref a1)] [(.ref a1)])) (fun _ kont => XS.aloadN X0.here hx rfl (hb hby d2_0) rfl rfl kont) ?_
  refine own_step (g' := (mkF m 3 #[.val (.ref a1)] [(.int (16 : Int32)), (.ref a1)])) (fun _ kont => XS.bipush X0.here hx rfl (hb hby d2_1) kont) ?_
  refine own_init X0 hx hZ (W := 0) hown e0 (rmAi l Z a0 hw [] a1 z h0 n0 Z0 S_CS hz g_a1 E1 Fv Fc Fn) rfl (hw _ (List.mem_of_getElem? (i := 23) rfl)) (hw _ (List.mem_of_getElem? (i := 24) rfl)) (hw _ (List.mem_of_getElem? (i := 28) rfl)) (hw _ (List.mem_of_getElem? (i := 27) rfl)) (by decide) (by decide) (by decide) (g := (mkF m 3 #[.val (.ref a1)] [(.int (16 : Int32)), (.ref a1)])) rfl (by rw [hml]; rfl) (argsL := [(.int (16 : Int32))]) (rest := []) rfl (lenOf pd_8 rfl) rfl (by show 2 * 0 + _ ≤ _; exact Nat.le_of_eq rfl) (hb hby d2_3) (by decide) (by decide) ?_
  intro v2 T2 L2 X2 hQ2
  obtain ⟨rfl, ⟨bb, szbq1, g_bb, Bq1, Eq1, Sq1, Vq1, Kq1, Mq1⟩, Nq2, Kq2⟩ := hQ2
  have N2 := Fr.app N0 Nq2
  have K2 : Keep h0 T2.heap [a1] := KC0.trans Kq2 (allS (Or.inl (List.mem_of_getElem? (i := 0) rfl)) all0)
  have sz_bb : h0.size ≤ bb := Nat.le_trans KC0.1 szbq1
  show OGo p e below _ T2 (mkF m 6 #[.val (.ref a1)] [])
  have ne_a1_bb : a1 ≠ bb := Nat.ne_of_lt (Nat.lt_of_lt_of_le E1.lt szbq1)
  exact own_retV X2 hx hret hlk (hb hby d2_6) rfl (by exact ⟨rfl, ⟨_, sz_bb, g_bb, Bq1, Eq1, Sq1, Vq1, Kq1, Mq1⟩, N2, K2⟩) (by decide) (by decide)
theorem d21_0 : decode jdk_68_method_64_code 0 = .ok (.aload_n 0, 1) := by decide +kernel
theorem d21_1 : decode jdk_68_method_64_code 1 = .ok (.getfield 15, 3) := by decide +kernel
theorem d21_4 : decode jdk_68_method_64_code 4 = .ok (.areturn, 1) := by decide +kernel
set_option maxRecDepth 65536 in
set_option maxHeartbeats 40000000 in
theorem rmGV (l : Launch) (Z : State) (a0 : Array Value) (hw : ∀ d ∈ tables_1, d.before a0 Z = true) (ws : List Jvm.Cond) (a1 ar : Addr) (c : Int32) (h0 : Heap) (n0 : Nat) (Z0 : n0 ≤ h0.size) (E1 : Exa Z h0 a1 "java/lang/StringBuilder") (Fv : Fld Z h0 a1 "java/lang/AbstractStringBuilder" "value" "[B" (.ref ar)) (Fc : Fld Z h0 a1 "java/lang/AbstractStringBuilder" "coder" "B" (.int (0 : Int32))) (Fn : Fld Z h0 a1 "java/lang/AbstractStringBuilder" "count" "I" (.int c)) :
    OMet l (⟨"java/lang/AbstractStringBuilder", "getValue", "()[B"⟩ : MethodName) jdk_68_method_64_code 1 (some (.array .byte)) ws ({ frames := 0, cells := 0, slots := 0, locals := 0 } : Room) Z #[(.ref a1)] h0 (fun v h L => v = some (.ref ar) ∧ L = [] ∧ h = h0) := by
  refine own_body (plainFor_of_name pn_35) ?_
  intro p e s m below meth cdx T0 X0 hx hZ hby hml hown hnm hret hlk e0
  have N0 := Fr.nil n0
  refine own_entry (g' := (mkF m 0 #[.val (.ref a1)] [])) (by first | rfl | (simp [entryFrame, mkF, argsToLocals, Value.category, maxLocals]; done)) ?_
  refine own_step (g' := (mkF m 1 #[.val (.ref a1)] [(.ref a1)])) (fun _ kont => XS.aloadN X0.here hx rfl (hb hby d21_0) rfl rfl kont) ?_
  obtain ⟨T1, X1, e1, st1⟩ := getF X0 hx hZ hown (host := "") (Or.inl (hw _ (List.mem_of_getElem? (i := 33) rfl))) Via.refl e0 Fv (g := (mkF m 1 #[.val (.ref a1)] [(.ref a1)])) rfl rfl (hb hby d21_1)
  refine own_via (g' := (mkF m 4 #[.val (.ref a1)] [(.ref ar)])) st1 ?_
  exact own_retA X1 hx hret rfl rfl hlk (hb hby d21_4) e1 (by exact ⟨rfl, rfl, rfl⟩) (by decide) (by decide)
theorem d23_0 : decode jdk_68_method_6_code 0 = .ok (.aload_n 0, 1) := by decide +kernel
theorem d23_1 : decode jdk_68_method_6_code 1 = .ok (.getfield 79, 3) := by decide +kernel
theorem d23_4 : decode jdk_68_method_6_code 4 = .ok (.ireturn, 1) := by decide +kernel
set_option maxRecDepth 65536 in
set_option maxHeartbeats 40000000 in
theorem rmAL (l : Launch) (Z : State) (a0 : Array Value) (hw : ∀ d ∈ tables_1, d.before a0 Z = true) (ws : List Jvm.Cond) (a1 ar : Addr) (c : Int32) (h0 : Heap) (n0 : Nat) (Z0 : n0 ≤ h0.size) (E1 : Exa Z h0 a1 "java/lang/StringBuilder") (Fv : Fld Z h0 a1 "java/lang/AbstractStringBuilder" "value" "[B" (.ref ar)) (Fc : Fld Z h0 a1 "java/lang/AbstractStringBuilder" "coder" "B" (.int (0 : Int32))) (Fn : Fld Z h0 a1 "java/lang/AbstractStringBuilder" "count" "I" (.int c)) :
    OMet l (⟨"java/lang/AbstractStringBuilder", "length", "()I"⟩ : MethodName) jdk_68_method_6_code 1 (some .int) ws ({ frames := 0, cells := 0, slots := 0, locals := 0 } : Room) Z #[(.ref a1)] h0 (fun v h L => v = some (.int c) ∧ L = [] ∧ h = h0) := by
  refine own_body (plainFor_of_name pn_35) ?_
  intro p e s m below meth cdx T0 X0 hx hZ hby hml hown hnm hret hlk e0
  have N0 := Fr.nil n0
  refine own_entry (g' := (mkF m 0 #[.val (.ref a1)] [])) (by first | rfl | (simp [entryFrame, mkF, argsToLocals, Value.category, maxLocals]; done)) ?_
  refine own_step (g' := (mkF m 1 #[.val (.ref a1)] [(.ref a1)])) (fun _ kont => XS.aloadN X0.here hx rfl (hb hby d23_0) rfl rfl kont) ?_
  obtain ⟨T1, X1, e1, st1⟩ := getF X0 hx hZ hown (host := "") (Or.inl (hw _ (List.mem_of_getElem? (i := 61) rfl))) Via.refl e0 Fn (g := (mkF m 1 #[.val (.ref a1)] [(.ref a1)])) rfl rfl (hb hby d23_1)
  refine own_via (g' := (mkF m 4 #[.val (.ref a1)] [(.int c)])) st1 ?_
  exact own_retI X1 hx hret hlk (hb hby d23_4) e1 (by exact ⟨rfl, rfl, rfl⟩) (by decide) (by decide)
theorem d22_0 : decode jdk_67_method_93_code 0 = .ok (.aload_n 0, 1) := by decide +kernel
theorem d22_1 : decode jdk_67_method_93_code 1 = .ok (.invokespecial 343, 3) := by decide +kernel
theorem d22_4 : decode jdk_67_method_93_code 4 = .ok (.ireturn, 1) := by decide +kernel
set_option maxRecDepth 65536 in
set_option maxHeartbeats 40000000 in
theorem rmSL (l : Launch) (Z : State) (a0 : Array Value) (hw : ∀ d ∈ tables_1, d.before a0 Z = true) (ws : List Jvm.Cond) (a1 ar : Addr) (c : Int32) (h0 : Heap) (n0 : Nat) (Z0 : n0 ≤ h0.size) (E1 : Exa Z h0 a1 "java/lang/StringBuilder") (Fv : Fld Z h0 a1 "java/lang/AbstractStringBuilder" "value" "[B" (.ref ar)) (Fc : Fld Z h0 a1 "java/lang/AbstractStringBuilder" "coder" "B" (.int (0 : Int32))) (Fn : Fld Z h0 a1 "java/lang/AbstractStringBuilder" "count" "I" (.int c)) :
    OMet l (⟨"java/lang/StringBuilder", "length", "()I"⟩ : MethodName) jdk_67_method_93_code 1 (some .int) ws ({ frames := 1, cells := 0, slots := 0, locals := 12 } : Room) Z #[(.ref a1)] h0 (fun v h L => v = some (.int c) ∧ L = [] ∧ h = h0) := by
  refine own_body (plainFor_of_name pn_5) ?_
  intro p e s m below meth cdx T0 X0 hx hZ hby hml hown hnm hret hlk e0
  have N0 := Fr.nil n0
  refine own_entry (g' := (mkF m 0 #[.val (.ref a1)] [])) (by first | rfl | (simp [entryFrame, mkF, argsToLocals, Value.category, maxLocals]; done)) ?_
  refine own_step (g' := (mkF m 1 #[.val (.ref a1)] [(.ref a1)])) (fun _ kont => XS.aloadN X0.here hx rfl (hb hby d22_0) rfl rfl kont) ?_
  refine own_superB X0 hx hZ (W := 0) hown e0 (rmAL l Z a0 hw [] a1 ar c h0 n0 Z0 E1 Fv Fc Fn) (Ins.self E1) (by decide) (hw _ (List.mem_of_getElem? (i := 138) rfl)) (own_sameSelf (own_nfSib (notFace_of_selects (hw _ (List.mem_of_getElem? (i := 66) rfl))) rfl (hw _ (List.mem_of_getElem? (i := 67) rfl))) (by decide) (hw _ (List.mem_of_getElem? (i := 139) rfl))) (hw _ (List.mem_of_getElem? (i := 134) rfl)) (hw _ (List.mem_of_getElem? (i := 45) rfl)) (hw _ (List.mem_of_getElem? (i := 139) rfl)) (hw _ (List.mem_of_getElem? (i := 27) rfl)) (by decide) (by decide) (g := (mkF m 1 #[.val (.ref a1)] [(.ref a1)])) rfl (by rw [hml]; rfl) (argsL := []) (rest := []) rfl (lenOf pd_7 rfl) rfl (by show 2 * 0 + _ ≤ _; exact Nat.le_of_eq rfl) (hb hby d22_1) (by decide) (by decide) ?_
  intro v1 T1 L1 X1 hQ1
  obtain ⟨rfl, rfl, e1⟩ := hQ1
  replace X1 := own_pureX X1
  show OGo p e below _ T1 (mkF m 4 #[.val (.ref a1)] [(.int c)])
  exact own_retI X1 hx hret hlk (hb hby d22_4) e1 (by exact ⟨rfl, rfl, rfl⟩) (by decide) (by decide)
theorem d26_0 : decode jdk_65_method_131_code 0 = .ok (.iload_n 1, 1) := by decide +kernel
theorem d26_1 : decode jdk_65_method_131_code 1 = .ok (.iload_n 0, 1) := by decide +kernel
theorem d26_2 : decode jdk_65_method_131_code 2 = .ok (.if_icmp .ge 35, 3) := by decide +kernel
theorem d26_37 : decode jdk_65_method_131_code 37 = .ok (.return_, 1) := by decide +kernel
set_option maxRecDepth 65536 in
set_option maxHeartbeats 40000000 in
theorem rmCL (l : Launch) (Z : State) (a0 : Array Value) (hw : ∀ d ∈ tables_1, d.before a0 Z = true) (ws : List Jvm.Cond) (k : Int32) (h0 : Heap) (n0 : Nat) (Z0 : n0 ≤ h0.size) (hk0 : 0 ≤ k.toInt) :
    OMet l (⟨"java/util/Arrays", "checkLength", "(II)V"⟩ : MethodName) jdk_65_method_131_code 2 none ws ({ frames := 0, cells := 0, slots := 0, locals := 0 } : Room) Z #[(.int (0 : Int32)), (.int k)] h0 (fun v h L => v = none ∧ L = [] ∧ h = h0) := by
  refine own_body (plainFor_of_name pn_38) ?_
  intro p e s m below meth cdx T0 X0 hx hZ hby hml hown hnm hret hlk e0
  have N0 := Fr.nil n0
  refine own_entry (g' := (mkF m 0 #[.val (.int (0 : Int32)), .val (.int k)] [])) (by first | rfl | (simp [entryFrame, mkF, argsToLocals, Value.category, maxLocals]; done)) ?_
  refine own_step (g' := (mkF m 1 #[.val (.int (0 : Int32)), .val (.int k)] [(.int k)])) (fun _ kont => XS.iloadN X0.here hx rfl (hb hby d26_0) rfl kont) ?_
  refine own_step (g' := (mkF m 2 #[.val (.int (0 : Int32)), .val (.int k)] [(.int (0 : Int32)), (.int k)])) (fun _ kont => XS.iloadN X0.here hx rfl (hb hby d26_1) rfl kont) ?_
  refine own_step (g' := (mkF m 37 #[.val (.int (0 : Int32)), .val (.int k)] [])) (fun _ kont => XS.icmpYes X0.here hx rfl (pc0 := 2) (pc' := 37) rfl (hb hby d26_2) rfl (flt (own_nlt hk0)).2.1 (by decide) (by decide) kont) ?_
  exact own_retV X0 hx hret hlk (hb hby d26_37) e0 (by exact ⟨rfl, rfl, rfl⟩) (by decide) (by decide)
theorem d25_0 : decode jdk_65_method_133_code 0 = .ok (.iload_n 1, 1) := by decide +kernel
theorem d25_1 : decode jdk_65_method_133_code 1 = .ok (.iload_n 2, 1) := by decide +kernel
theorem d25_2 : decode jdk_65_method_133_code 2 = .ok (.invokestatic 343, 3) := by decide +kernel
theorem d25_5 : decode jdk_65_method_133_code 5 = .ok (.iload_n 2, 1) := by decide +kernel
theorem d25_6 : decode jdk_65_method_133_code 6 = .ok (.iload_n 1, 1) := by decide +kernel
theorem d25_7 : decode jdk_65_method_133_code 7 = .ok (.isub, 1) := by decide +kernel
theorem d25_8 : decode jdk_65_method_133_code 8 = .ok (.istore_n 3, 1) := by decide +kernel
theorem d25_9 : decode jdk_65_method_133_code 9 = .ok (.iload_n 3, 1) := by decide +kernel
theorem d25_10 : decode jdk_65_method_133_code 10 = .ok (.newarray .byte, 2) := by decide +kernel
theorem d25_12 : decode jdk_65_method_133_code 12 = .ok (.astore 4, 2) := by decide +kernel
theorem d25_14 : decode jdk_65_method_133_code 14 = .ok (.aload_n 0, 1) := by decide +kernel
theorem d25_15 : decode jdk_65_method_133_code 15 = .ok (.iload_n 1, 1) := by decide +kernel
theorem d25_16 : decode jdk_65_method_133_code 16 = .ok (.aload 4, 2) := by decide +kernel
theorem d25_18 : decode jdk_65_method_133_code 18 = .ok (.iconst 0, 1) := by decide +kernel
theorem d25_19 : decode jdk_65_method_133_code 19 = .ok (.aload_n 0, 1) := by decide +kernel
theorem d25_20 : decode jdk_65_method_133_code 20 = .ok (.arraylength, 1) := by decide +kernel
theorem d25_21 : decode jdk_65_method_133_code 21 = .ok (.iload_n 1, 1) := by decide +kernel
theorem d25_22 : decode jdk_65_method_133_code 22 = .ok (.isub, 1) := by decide +kernel
theorem d25_23 : decode jdk_65_method_133_code 23 = .ok (.iload_n 3, 1) := by decide +kernel
theorem d25_24 : decode jdk_65_method_133_code 24 = .ok (.invokestatic 304, 3) := by decide +kernel
theorem d25_27 : decode jdk_65_method_133_code 27 = .ok (.invokestatic 150, 3) := by decide +kernel
theorem d25_30 : decode jdk_65_method_133_code 30 = .ok (.aload 4, 2) := by decide +kernel
theorem d25_32 : decode jdk_65_method_133_code 32 = .ok (.areturn, 1) := by decide +kernel
theorem pd_13 : parseMethodDescriptor "(II)V" = some ⟨[.int, .int], none⟩ := by decide +kernel
set_option maxRecDepth 65536 in
set_option maxHeartbeats 40000000 in
theorem rmCB (l : Launch) (Z : State) (a0 : Array Value) (hw : ∀ d ∈ tables_1, d.before a0 Z = true) (ws : List Jvm.Cond) (ar : Addr) (k zz : Int32) (h0 : Heap) (n0 : Nat) (Z0 : n0 ≤ h0.size) (Bar : OBy Z h0 ar zz) (hk0 : 0 ≤ k.toInt) (hkz : k.toInt ≤ zz.toInt) (hz34 : zz.toInt ≤ 34) :
    OMet l (⟨"java/util/Arrays", "copyOfRangeByte", "([BII)[B"⟩ : MethodName) jdk_65_method_133_code 5 (some (.array .byte)) ws ({ frames := 1, cells := 1, slots := 34, locals := 40 } : Room) Z #[(.ref ar), (.int (0 : Int32)), (.int k)] h0 (fun v h L => (∃ b, v = some (.ref b) ∧ h0.size ≤ b ∧ n0 ≤ b ∧ OBy Z h b k ∧ Exa Z h b "[B") ∧ Fr n0 L ∧ Keep h0 h []) := by
  refine own_body (plainFor_of_name pn_38) ?_
  intro p e s m below meth cdx T0 X0 hx hZ hby hml hown hnm hret hlk e0
  have N0 := Fr.nil n0
  refine own_entry (g' := (mkF m 0 #[.val (.ref ar), .val (.int (0 : Int32)), .val (.int k), .unset, .unset] [])) (by first | rfl | (simp [entryFrame, mkF, argsToLocals, Value.category, maxLocals]; done)) ?_
  have KC0 := Keep.refl h0 []
  refine own_step (g' := (mkF m 1 #[.val (.ref ar), .val (.int (0 : Int32)), .val (.int k), .unset, .unset] [(.int (0 : Int32))])) (fun _ kont => XS.iloadN X0.here hx rfl (hb hby d25_0) rfl kont) ?_
  refine own_step (g' := (mkF m 2 #[.val (.ref ar), .val (.int (0 : Int32)), .val (.int k), .unset, .unset] [(.int k), (.int (0 : Int32))])) (fun _ kont => XS.iloadN X0.here hx rfl (hb hby d25_1) rfl kont) ?_
  refine own_callS X0 hx hZ (W := 0) hown e0 (rmCL l Z a0 hw [] k h0 n0 Z0 hk0) (hw _ (List.mem_of_getElem? (i := 148) rfl)) (hw _ (List.mem_of_getElem? (i := 149) rfl)) (hw _ (List.mem_of_getElem? (i := 143) rfl)) (hw _ (List.mem_of_getElem? (i := 150) rfl)) (by decide) (by decide) (by decide) (g := (mkF m 2 #[.val (.ref ar), .val (.int (0 : Int32)), .val (.int k), .unset, .unset] [(.int k), (.int (0 : Int32))])) rfl (by rw [hml]; rfl) (argsL := [(.int (0 : Int32)), (.int k)]) (rest := []) rfl (lenOf pd_13 rfl) rfl (by show 2 * 0 + _ ≤ _; exact Nat.le_of_eq rfl) (hb hby d25_2) (by decide) (by decide) ?_
  intro v1 T1 L1 X1 hQ1
  obtain ⟨rfl, rfl, e1⟩ := hQ1
  replace X1 := own_pureX X1
  show OGo p e below _ T1 (mkF m 5 #[.val (.ref ar), .val (.int (0 : Int32)), .val (.int k), .unset, .unset] [])
  refine own_step (g' := (mkF m 6 #[.val (.ref ar), .val (.int (0 : Int32)), .val (.int k), .unset, .unset] [(.int k)])) (fun _ kont => XS.iloadN X1.here hx rfl (hb hby d25_5) rfl kont) ?_
  refine own_step (g' := (mkF m 7 #[.val (.ref ar), .val (.int (0 : Int32)), .val (.int k), .unset, .unset] [(.int (0 : Int32)), (.int k)])) (fun _ kont => XS.iloadN X1.here hx rfl (hb hby d25_6) rfl kont) ?_
  refine own_step (g' := (mkF m 8 #[.val (.ref ar), .val (.int (0 : Int32)), .val (.int k), .unset, .unset] [(.int (k - (0 : Int32)))])) (fun _ kont => XS.isub X1.here hx rfl (hb hby d25_7) rfl kont) ?_
  refine own_entry (g' := (mkF m 8 #[.val (.ref ar), .val (.int (0 : Int32)), .val (.int k), .unset, .unset] [(.int k)])) (by rw [own_sub0]) ?_
  refine own_step (g' := (mkF m 9 #[.val (.ref ar), .val (.int (0 : Int32)), .val (.int k), .val (.int k), .unset] [])) (fun _ kont => XS.istoreN X1.here hx rfl (hb hby d25_8) rfl (l' := #[.val (.ref ar), .val (.int (0 : Int32)), .val (.int k), .val (.int k), .unset]) rfl kont) ?_
  refine own_step (g' := (mkF m 10 #[.val (.ref ar), .val (.int (0 : Int32)), .val (.int k), .val (.int k), .unset] [(.int k)])) (fun _ kont => XS.iloadN X1.here hx rfl (hb hby d25_9) rfl kont) ?_
  obtain ⟨T2, h2, k2, X2, e2, Ex2, A2, C2, st2⟩ := newPE X1 hx hZ (hw _ (List.mem_of_getElem? (i := 12) rfl)) e1 (g := (mkF m 10 #[.val (.ref ar), .val (.int (0 : Int32)), .val (.int k), .val (.int k), .unset] [(.int k)])) rfl (hb hby d25_10) rfl (own_nlt hk0) (cap := 34) (own_cap (by omega)) (by decide) (by decide) (by decide) (ad := "[B") (by decide)
  obtain ⟨nb2, g2⟩ : ∃ z, z = h0.size := ⟨_, rfl⟩
  rw [← g2] at A2 C2 st2
  have V2 : OBy Z h2 nb2 k := own_by_new A2 (own_nlt hk0)
  have g_nb2 : n0 ≤ nb2 := Nat.le_trans Z0 (Nat.le_of_eq g2.symm)
  have ne_ar_nb2 : ar ≠ nb2 := Nat.ne_of_lt (Nat.lt_of_lt_of_le Bar.lt (Nat.le_of_eq g2.symm))
  have sz_nb2 : h0.size ≤ nb2 := Nat.le_trans KC0.1 (Nat.le_of_eq g2.symm)
  have K2 : Keep h0 h2 [] := KC0.ext Ex2
  refine own_via (g' := (mkF m 12 #[.val (.ref ar), .val (.int (0 : Int32)), .val (.int k), .val (.int k), .unset] [(.ref nb2)])) st2 ?_
  refine own_step (g' := (mkF m 14 #[.val (.ref ar), .val (.int (0 : Int32)), .val (.int k), .val (.int k), .val (.ref nb2)] [])) (fun _ kont => XS.astore X2.here hx rfl (hb hby d25_12) rfl rfl (l' := #[.val (.ref ar), .val (.int (0 : Int32)), .val (.int k), .val (.int k), .val (.ref nb2)]) rfl kont) ?_
  refine own_step (g' := (mkF m 15 #[.val (.ref ar), .val (.int (0 : Int32)), .val (.int k), .val (.int k), .val (.ref nb2)] [(.ref ar)])) (fun _ kont => XS.aloadN X2.here hx rfl (hb hby d25_14) rfl rfl kont) ?_
  refine own_step (g' := (mkF m 16 #[.val (.ref ar), .val (.int (0 : Int32)), .val (.int k), .val (.int k), .val (.ref nb2)] [(.int (0 : Int32)), (.ref ar)])) (fun _ kont => XS.iloadN X2.here hx rfl (hb hby d25_15) rfl kont) ?_
  refine own_step (g' := (mkF m 18 #[.val (.ref ar), .val (.int (0 : Int32)), .val (.int k), .val (.int k), .val (.ref nb2)] [(.ref nb2), (.int (0 : Int32)), (.ref ar)])) (fun _ kont => XS.aload X2.here hx rfl (hb hby d25_16) rfl rfl kont) ?_
  refine own_step (g' := (mkF m 19 #[.val (.ref ar), .val (.int (0 : Int32)), .val (.int k), .val (.int k), .val (.ref nb2)] [(.int (0 : Int32)), (.ref nb2), (.int (0 : Int32)), (.ref ar)])) (fun _ kont => XS.iconst X2.here hx rfl (hb hby d25_18) kont) ?_
  refine own_step (g' := (mkF m 20 #[.val (.ref ar), .val (.int (0 : Int32)), .val (.int k), .val (.int k), .val (.ref nb2)] [(.ref ar), (.int (0 : Int32)), (.ref nb2), (.int (0 : Int32)), (.ref ar)])) (fun _ kont => XS.aloadN X2.here hx rfl (hb hby d25_19) rfl rfl kont) ?_
  have By_3 : OBy Z h2 ar zz := (Bar.ext Ex2)
  obtain ⟨-, -, ⟨cl4, Ar4, q4, S4, M4, H4, G4⟩, -⟩ := id By_3
  refine own_step (g' := (mkF m 21 #[.val (.ref ar), .val (.int (0 : Int32)), .val (.int k), .val (.int k), .val (.ref nb2)] [(.int zz), (.int (0 : Int32)), (.ref nb2), (.int (0 : Int32)), (.ref ar)])) (own_len (len_of S4 M4) (X2.arraylength hx (by rw [e2]; exact Ar4.1) (State.isArrayOf_alike hZ.alike Ar4.2.1) (g := (mkF m 20 #[.val (.ref ar), .val (.int (0 : Int32)), .val (.int k), .val (.int k), .val (.ref nb2)] [(.ref ar), (.int (0 : Int32)), (.ref nb2), (.int (0 : Int32)), (.ref ar)])) rfl rfl (hb hby d25_20))) ?_
  refine own_step (g' := (mkF m 22 #[.val (.ref ar), .val (.int (0 : Int32)), .val (.int k), .val (.int k), .val (.ref nb2)] [(.int (0 : Int32)), (.int zz), (.int (0 : Int32)), (.ref nb2), (.int (0 : Int32)), (.ref ar)])) (fun _ kont => XS.iloadN X2.here hx rfl (hb hby d25_21) rfl kont) ?_
  refine own_step (g' := (mkF m 23 #[.val (.ref ar), .val (.int (0 : Int32)), .val (.int k), .val (.int k), .val (.ref nb2)] [(.int (zz - (0 : Int32))), (.int (0 : Int32)), (.ref nb2), (.int (0 : Int32)), (.ref ar)])) (fun _ kont => XS.isub X2.here hx rfl (hb hby d25_22) rfl kont) ?_
  refine own_entry (g' := (mkF m 23 #[.val (.ref ar), .val (.int (0 : Int32)), .val (.int k), .val (.int k), .val (.ref nb2)] [(.int zz), (.int (0 : Int32)), (.ref nb2), (.int (0 : Int32)), (.ref ar)])) (by rw [own_sub0]) ?_
  refine own_step (g' := (mkF m 24 #[.val (.ref ar), .val (.int (0 : Int32)), .val (.int k), .val (.int k), .val (.ref nb2)] [(.int k), (.int zz), (.int (0 : Int32)), (.ref nb2), (.int (0 : Int32)), (.ref ar)])) (fun _ kont => XS.iloadN X2.here hx rfl (hb hby d25_23) rfl kont) ?_
  refine own_callS X2 hx hZ (W := 4) hown e2 (rmMinB l Z a0 hw [] zz k h2 n0 (Nat.le_trans Z0 Ex2.1) hkz) (hw _ (List.mem_of_getElem? (i := 151) rfl)) (hw _ (List.mem_of_getElem? (i := 152) rfl)) (hw _ (List.mem_of_getElem? (i := 153) rfl)) (hw _ (List.mem_of_getElem? (i := 154) rfl)) (by decide) (by decide) (by decide) (g := (mkF m 24 #[.val (.ref ar), .val (.int (0 : Int32)), .val (.int k), .val (.int k), .val (.ref nb2)] [(.int k), (.int zz), (.int (0 : Int32)), (.ref nb2), (.int (0 : Int32)), (.ref ar)])) rfl (by rw [hml]; rfl) (argsL := [(.int zz), (.int k)]) (rest := [(.int (0 : Int32)), (.ref nb2), (.int (0 : Int32)), (.ref ar)]) rfl (lenOf pd_0 rfl) rfl (by show 2 * 0 + _ ≤ _; exact Nat.le_of_eq rfl) (hb hby d25_24) (by decide) (by decide) ?_
  intro v5 T5 L5 X5 hQ5
  obtain ⟨rfl, rfl, e5⟩ := hQ5
  replace X5 := own_pureX X5
  show OGo p e below _ T5 (mkF m 27 #[.val (.ref ar), .val (.int (0 : Int32)), .val (.int k), .val (.int k), .val (.ref nb2)] [(.int k), (.int (0 : Int32)), (.ref nb2), (.int (0 : Int32)), (.ref ar)])
  obtain ⟨T6, h6, L6, X6, e6, N6, Kq6, By6, st6⟩ := own_cpB X5 hx hZ (W := 0) hown (hw _ (List.mem_of_getElem? (i := 155) rfl)) (hw _ (List.mem_of_getElem? (i := 87) rfl)) (hw _ (List.mem_of_getElem? (i := 85) rfl)) (hw _ (List.mem_of_getElem? (i := 86) rfl)) e5 By_3 V2 (by decide) (by decide) (own_nlt hk0) (by rw [own_i0]; omega) (by rw [own_i0]; omega) N0 g_nb2 (g := (mkF m 27 #[.val (.ref ar), .val (.int (0 : Int32)), .val (.int k), .val (.int k), .val (.ref nb2)] [(.int k), (.int (0 : Int32)), (.ref nb2), (.int (0 : Int32)), (.ref ar)])) rfl (by rw [hml]; rfl) rfl (hb hby d25_27) (by decide) (by show 2 * 0 + _ ≤ _; exact Nat.le_of_eq rfl) (by decide +kernel)
  have K6 : Keep h0 h6 [] := K2.trans Kq6 (allS (Or.inr sz_nb2) all0)
  refine own_via (g' := (mkF m 30 #[.val (.ref ar), .val (.int (0 : Int32)), .val (.int k), .val (.int k), .val (.ref nb2)] [])) st6 ?_
  refine own_step (g' := (mkF m 32 #[.val (.ref ar), .val (.int (0 : Int32)), .val (.int k), .val (.int k), .val (.ref nb2)] [(.ref nb2)])) (fun _ kont => XS.aload X6.here hx rfl (hb hby d25_30) rfl rfl kont) ?_
  have C_7 : Exa Z h6 nb2 "[B" := (C2.keep Kq6)
  exact own_retA X6 hx hret rfl rfl hlk (hb hby d25_32) e6 (by exact ⟨⟨_, rfl, sz_nb2, g_nb2, By6, C_7⟩, N6, K6⟩) (by decide) (by decide)
theorem d24_0 : decode jdk_65_method_132_code 0 = .ok (.iload_n 1, 1) := by decide +kernel
theorem d24_1 : decode jdk_65_method_132_code 1 = .ok (.ifCond .ne 9, 3) := by decide +kernel
theorem d24_4 : decode jdk_65_method_132_code 4 = .ok (.iload_n 2, 1) := by decide +kernel
theorem d24_5 : decode jdk_65_method_132_code 5 = .ok (.aload_n 0, 1) := by decide +kernel
theorem d24_6 : decode jdk_65_method_132_code 6 = .ok (.arraylength, 1) := by decide +kernel
theorem d24_7 : decode jdk_65_method_132_code 7 = .ok (.if_icmp .eq 10, 3) := by decide +kernel
theorem d24_10 : decode jdk_65_method_132_code 10 = .ok (.aload_n 0, 1) := by decide +kernel
theorem d24_11 : decode jdk_65_method_132_code 11 = .ok (.iload_n 1, 1) := by decide +kernel
theorem d24_12 : decode jdk_65_method_132_code 12 = .ok (.iload_n 2, 1) := by decide +kernel
theorem d24_13 : decode jdk_65_method_132_code 13 = .ok (.invokestatic 339, 3) := by decide +kernel
theorem d24_16 : decode jdk_65_method_132_code 16 = .ok (.areturn, 1) := by decide +kernel
theorem d24_17 : decode jdk_65_method_132_code 17 = .ok (.aload_n 0, 1) := by decide +kernel
theorem d24_18 : decode jdk_65_method_132_code 18 = .ok (.invokevirtual 310, 3) := by decide +kernel
theorem d24_21 : decode jdk_65_method_132_code 21 = .ok (.checkcast 311, 3) := by decide +kernel
theorem d24_24 : decode jdk_65_method_132_code 24 = .ok (.areturn, 1) := by decide +kernel
theorem pd_14 : parseMethodDescriptor "([BII)[B" = some ⟨[(.array .byte), .int, .int], some (.array .byte)⟩ := by decide +kernel
set_option maxRecDepth 65536 in
set_option maxHeartbeats 40000000 in
theorem rmCR (l : Launch) (Z : State) (a0 : Array Value) (hw : ∀ d ∈ tables_1, d.before a0 Z = true) (ws : List Jvm.Cond) (ar : Addr) (k zz : Int32) (h0 : Heap) (n0 : Nat) (Z0 : n0 ≤ h0.size) (Bar : OBy Z h0 ar zz) (Ear : Exa Z h0 ar "[B") (hk0 : 0 ≤ k.toInt) (hkz : k.toInt ≤ zz.toInt) (hz34 : zz.toInt ≤ 34) :
    OMet l (⟨"java/util/Arrays", "copyOfRange", "([BII)[B"⟩ : MethodName) jdk_65_method_132_code 3 (some (.array .byte)) ws ({ frames := 2, cells := 1, slots := 34, locals := 56 } : Room) Z #[(.ref ar), (.int (0 : Int32)), (.int k)] h0 (fun v h L => (∃ b, v = some (.ref b) ∧ h0.size ≤ b ∧ n0 ≤ b ∧ OBy Z h b k ∧ Exa Z h b "[B") ∧ Fr n0 L ∧ Keep h0 h []) := by
  refine own_body (plainFor_of_name pn_38) ?_
  intro p e s m below meth cdx T0 X0 hx hZ hby hml hown hnm hret hlk e0
  have N0 := Fr.nil n0
  refine own_entry (g' := (mkF m 0 #[.val (.ref ar), .val (.int (0 : Int32)), .val (.int k)] [])) (by first | rfl | (simp [entryFrame, mkF, argsToLocals, Value.category, maxLocals]; done)) ?_
  have KC0 := Keep.refl h0 []
  refine own_step (g' := (mkF m 1 #[.val (.ref ar), .val (.int (0 : Int32)), .val (.int k)] [(.int (0 : Int32))])) (fun _ kont => XS.iloadN X0.here hx rfl (hb hby d24_0) rfl kont) ?_
  refine own_step (g' := (mkF m 4 #[.val (.ref ar), .val (.int (0 : Int32)), .val (.int k)] [])) (fun _ kont => XS.ifNo X0.here hx rfl (hb hby d24_1) rfl ((if0 _ _).trans (teq (by decide : (0 : Int32) = (0 : Int32))).2) kont) ?_
  refine own_step (g' := (mkF m 5 #[.val (.ref ar), .val (.int (0 : Int32)), .val (.int k)] [(.int k)])) (fun _ kont => XS.iloadN X0.here hx rfl (hb hby d24_4) rfl kont) ?_
  refine own_step (g' := (mkF m 6 #[.val (.ref ar), .val (.int (0 : Int32)), .val (.int k)] [(.ref ar), (.int k)])) (fun _ kont => XS.aloadN X0.here hx rfl (hb hby d24_5) rfl rfl kont) ?_
  obtain ⟨-, -, ⟨cl1, Ar1, q1, S1, M1, H1, G1⟩, -⟩ := id Bar
  refine own_step (g' := (mkF m 7 #[.val (.ref ar), .val (.int (0 : Int32)), .val (.int k)] [(.int zz), (.int k)])) (own_len (len_of S1 M1) (X0.arraylength hx (by rw [e0]; exact Ar1.1) (State.isArrayOf_alike hZ.alike Ar1.2.1) (g := (mkF m 6 #[.val (.ref ar), .val (.int (0 : Int32)), .val (.int k)] [(.ref ar), (.int k)])) rfl rfl (hb hby d24_6))) ?_
  by_cases hc2 : k = zz
  · refine own_step (g' := (mkF m 17 #[.val (.ref ar), .val (.int (0 : Int32)), .val (.int k)] [])) (fun _ kont => XS.icmpYes X0.here hx rfl (pc0 := 7) (pc' := 17) rfl (hb hby d24_7) rfl (teq hc2).1 (by decide) (by decide) kont) ?_
    refine own_step (g' := (mkF m 18 #[.val (.ref ar), .val (.int (0 : Int32)), .val (.int k)] [(.ref ar)])) (fun _ kont => XS.aloadN X0.here hx rfl (hb hby d24_17) rfl rfl kont) ?_
    obtain ⟨T3, h3, X3, e3, Ex3, V3, C3, st3⟩ := own_clB X0 hx hZ (W := 0) hown (hw _ (List.mem_of_getElem? (i := 242) rfl)) (hw _ (List.mem_of_getElem? (i := 243) rfl)) (hw _ (List.mem_of_getElem? (i := 247) rfl)) (hw _ (List.mem_of_getElem? (i := 245) rfl)) (hw _ (List.mem_of_getElem? (i := 246) rfl)) (hw _ (List.mem_of_getElem? (i := 248) rfl)) e0 Bar Ear (own_cap hz34) (g := (mkF m 18 #[.val (.ref ar), .val (.int (0 : Int32)), .val (.int k)] [(.ref ar)])) rfl (by rw [hml]; rfl) rfl (hb hby d24_18) (by decide) (by show 2 * 0 + _ ≤ _; exact Nat.le_of_eq rfl) (by decide) (by decide) (by decide)
    obtain ⟨nb3, g3⟩ : ∃ z, z = h0.size := ⟨_, rfl⟩
    rw [← g3] at V3 C3 st3
    have g_nb3 : n0 ≤ nb3 := Nat.le_trans Z0 (Nat.le_of_eq g3.symm)
    have ne_ar_nb3 : ar ≠ nb3 := Nat.ne_of_lt (Nat.lt_of_lt_of_le Bar.lt (Nat.le_of_eq g3.symm))
    have sz_nb3 : h0.size ≤ nb3 := Nat.le_trans KC0.1 (Nat.le_of_eq g3.symm)
    have K3 : Keep h0 h3 [] := KC0.ext Ex3
    refine own_via (g' := (mkF m 21 #[.val (.ref ar), .val (.int (0 : Int32)), .val (.int k)] [(.ref nb3)])) st3 ?_
    obtain ⟨T4, X4, e4, st4⟩ := castY X3 hx hZ hown (hw _ (List.mem_of_getElem? (i := 249) rfl)) e3 (Ins.self C3) (g := (mkF m 21 #[.val (.ref ar), .val (.int (0 : Int32)), .val (.int k)] [(.ref nb3)])) rfl rfl (hb hby d24_21)
    refine own_via (g' := (mkF m 24 #[.val (.ref ar), .val (.int (0 : Int32)), .val (.int k)] [(.ref nb3)])) st4 ?_
    exact own_retA X4 hx hret rfl rfl hlk (hb hby d24_24) e4 (by exact ⟨⟨_, rfl, sz_nb3, g_nb3, (by rw [hc2]; exact V3), C3⟩, N0, K3⟩) (by decide) (by decide)
  · refine own_step (g' := (mkF m 10 #[.val (.ref ar), .val (.int (0 : Int32)), .val (.int k)] [])) (fun _ kont => XS.icmpNo X0.here hx rfl (hb hby d24_7) rfl (feq hc2).1 kont) ?_
    refine own_step (g' := (mkF m 11 #[.val (.ref ar), .val (.int (0 : Int32)), .val (.int k)] [(.ref ar)])) (fun _ kont => XS.aloadN X0.here hx rfl (hb hby d24_10) rfl rfl kont) ?_
    refine own_step (g' := (mkF m 12 #[.val (.ref ar), .val (.int (0 : Int32)), .val (.int k)] [(.int (0 : Int32)), (.ref ar)])) (fun _ kont => XS.iloadN X0.here hx rfl (hb hby d24_11) rfl kont) ?_
    refine own_step (g' := (mkF m 13 #[.val (.ref ar), .val (.int (0 : Int32)), .val (.int k)] [(.int k), (.int (0 : Int32)), (.ref ar)])) (fun _ kont => XS.iloadN X0.here hx rfl (hb hby d24_12) rfl kont) ?_
    refine own_callS X0 hx hZ (W := 0) hown e0 (rmCB l Z a0 hw [] ar k zz h0 n0 Z0 Bar hk0 hkz hz34) (hw _ (List.mem_of_getElem? (i := 145) rfl)) (hw _ (List.mem_of_getElem? (i := 146) rfl)) (hw _ (List.mem_of_getElem? (i := 143) rfl)) (hw _ (List.mem_of_getElem? (i := 147) rfl)) (by decide) (by decide) (by decide) (g := (mkF m 13 #[.val (.ref ar), .val (.int (0 : Int32)), .val (.int k)] [(.int k), (.int (0 : Int32)), (.ref ar)])) rfl (by rw [hml]; rfl) (argsL := [(.ref ar), (.int (0 : Int32)), (.int k)]) (rest := []) rfl (lenOf pd_14 rfl) rfl (by show 2 * 0 + _ ≤ _; exact Nat.le_of_eq rfl) (hb hby d24_13) (by decide) (by decide) ?_
    intro v5 T5 L5 X5 hQ5
    obtain ⟨⟨bb, rfl, szb, g_bb, Bbb, Ebb⟩, Nq5, Kq5⟩ := hQ5
    have N5 := Fr.app N0 Nq5
    have K5 : Keep h0 T5.heap [] := KC0.trans Kq5 all0
    have sz_bb : h0.size ≤ bb := Nat.le_trans KC0.1 szb
    show OGo p e below _ T5 (mkF m 16 #[.val (.ref ar), .val (.int (0 : Int32)), .val (.int k)] [(.ref bb)])
    exact own_retA X5 hx hret rfl rfl hlk (hb hby d24_16) rfl (by exact ⟨⟨_, rfl, sz_bb, g_bb, Bbb, Ebb⟩, N5, K5⟩) (by decide) (by decide)
theorem d20_0 : decode jdk_42_method_150_code 0 = .ok (.aload_n 0, 1) := by decide +kernel
theorem d20_1 : decode jdk_42_method_150_code 1 = .ok (.invokespecial 1, 3) := by decide +kernel
theorem d20_4 : decode jdk_42_method_150_code 4 = .ok (.aload_n 1, 1) := by decide +kernel
theorem d20_5 : decode jdk_42_method_150_code 5 = .ok (.invokevirtual 552, 3) := by decide +kernel
theorem d20_8 : decode jdk_42_method_150_code 8 = .ok (.astore_n 3, 1) := by decide +kernel
theorem d20_9 : decode jdk_42_method_150_code 9 = .ok (.aload_n 1, 1) := by decide +kernel
theorem d20_10 : decode jdk_42_method_150_code 10 = .ok (.invokevirtual 549, 3) := by decide +kernel
theorem d20_13 : decode jdk_42_method_150_code 13 = .ok (.istore 4, 2) := by decide +kernel
theorem d20_15 : decode jdk_42_method_150_code 15 = .ok (.aload_n 1, 1) := by decide +kernel
theorem d20_16 : decode jdk_42_method_150_code 16 = .ok (.invokevirtual 1047, 3) := by decide +kernel
theorem d20_19 : decode jdk_42_method_150_code 19 = .ok (.ifCond .eq 22, 3) := by decide +kernel
theorem d20_22 : decode jdk_42_method_150_code 22 = .ok (.aload_n 0, 1) := by decide +kernel
theorem d20_23 : decode jdk_42_method_150_code 23 = .ok (.iconst 0, 1) := by decide +kernel
theorem d20_24 : decode jdk_42_method_150_code 24 = .ok (.putfield 15, 3) := by decide +kernel
theorem d20_27 : decode jdk_42_method_150_code 27 = .ok (.aload_n 0, 1) := by decide +kernel
theorem d20_28 : decode jdk_42_method_150_code 28 = .ok (.aload_n 3, 1) := by decide +kernel
theorem d20_29 : decode jdk_42_method_150_code 29 = .ok (.iconst 0, 1) := by decide +kernel
theorem d20_30 : decode jdk_42_method_150_code 30 = .ok (.iload 4, 2) := by decide +kernel
theorem d20_32 : decode jdk_42_method_150_code 32 = .ok (.invokestatic 54, 3) := by decide +kernel
theorem d20_35 : decode jdk_42_method_150_code 35 = .ok (.putfield 9, 3) := by decide +kernel
theorem d20_38 : decode jdk_42_method_150_code 38 = .ok (.goto 59, 3) := by decide +kernel
theorem d20_97 : decode jdk_42_method_150_code 97 = .ok (.return_, 1) := by decide +kernel
theorem pd_15 : parseMethodDescriptor "()[B" = some ⟨[], some (.array .byte)⟩ := by decide +kernel
set_option maxRecDepth 65536 in
set_option maxHeartbeats 40000000 in
theorem rmST (l : Launch) (Z : State) (a0 : Array Value) (hw : ∀ d ∈ tables_1, d.before a0 Z = true) (ws : List Jvm.Cond) (sa a1 ar : Addr) (k zz z : Int32) (h0 : Heap) (n0 : Nat) (Z0 : n0 ≤ h0.size) (S_CS : Sta Z h0 "java/lang/String" "COMPACT_STRINGS" "Z" (.int z)) (hz : ¬ (z = (0 : Int32))) (E1 : Exa Z h0 a1 "java/lang/StringBuilder") (Fv : Fld Z h0 a1 "java/lang/AbstractStringBuilder" "value" "[B" (.ref ar)) (Fc : Fld Z h0 a1 "java/lang/AbstractStringBuilder" "coder" "B" (.int (0 : Int32))) (Fn : Fld Z h0 a1 "java/lang/AbstractStringBuilder" "count" "I" (.int k)) (Bar : OBy Z h0 ar zz) (Ear : Exa Z h0 ar "[B") (hk0 : 0 ≤ k.toInt) (hkz : k.toInt ≤ zz.toInt) (hz34 : zz.toInt ≤ 34) (g_sa : n0 ≤ sa) (Es : Exa Z h0 sa "java/lang/String") (Fsv : Fld Z h0 sa "java/lang/String" "value" "[B" .null) (Fsc : Fld Z h0 sa "java/lang/String" "coder" "B" (.int (0 : Int32))) :
    OMet l (⟨"java/lang/String", "<init>", "(Ljava/lang/AbstractStringBuilder;Ljava/lang/Void;)V"⟩ : MethodName) jdk_42_method_150_code 5 none ws ({ frames := 3, cells := 1, slots := 34, locals := 71 } : Room) Z #[(.ref sa), (.ref a1), .null] h0 (fun v h L => v = none ∧ (∃ b : Addr, h0.size ≤ b ∧ n0 ≤ b ∧ OBy Z h b k ∧ Exa Z h sa "java/lang/String" ∧ Fld Z h sa "java/lang/String" "value" "[B" (.ref b) ∧ Fld Z h sa "java/lang/String" "coder" "B" (.int (0 : Int32))) ∧ Fr n0 L ∧ Keep h0 h [sa]) := by
  refine own_body (plainFor_of_name pn_8) ?_
  intro p e s m below meth cdx T0 X0 hx hZ hby hml hown hnm hret hlk e0
  have N0 := Fr.nil n0
  refine own_entry (g' := (mkF m 0 #[.val (.ref sa), .val (.ref a1), .val .null, .unset, .unset] [])) (by first | rfl | (simp [entryFrame, mkF, argsToLocals, Value.category, maxLocals]; done)) ?_
  have KC0 := Keep.refl h0 [sa]
  have ne_a1_sa : a1 ≠ sa := Exa.ne E1 Es (by decide)
  have ne_sa_ar : sa ≠ ar := own_neB Es Bar (hw _ (List.mem_of_getElem? (i := 11) rfl))
  refine own_step (g' := (mkF m 1 #[.val (.ref sa), .val (.ref a1), .val .null, .unset, .unset] [(.ref sa)])) (fun _ kont => XS.aloadN X0.here hx rfl (hb hby d20_0) rfl rfl kont) ?_
  obtain ⟨T1, X1, e1, st1⟩ := initO X0 hx hZ hown (hw _ (List.mem_of_getElem? (i := 126) rfl)) (hw _ (List.mem_of_getElem? (i := 30) rfl)) (hw _ (List.mem_of_getElem? (i := 31) rfl)) e0 (g := (mkF m 1 #[.val (.ref sa), .val (.ref a1), .val .null, .unset, .unset] [(.ref sa)])) rfl (by rw [hml]; rfl) rfl (hb hby d20_1) (by decide) (W := 0) (by show 2 * 0 + _ ≤ _; exact Nat.le_of_eq rfl) (by decide)
  refine own_via (g' := (mkF m 4 #[.val (.ref sa), .val (.ref a1), .val .null, .unset, .unset] [])) st1 ?_
  refine own_step (g' := (mkF m 5 #[.val (.ref sa), .val (.ref a1), .val .null, .unset, .unset] [(.ref a1)])) (fun _ kont => XS.aloadN X1.here hx rfl (hb hby d20_4) rfl rfl kont) ?_
  refine own_callV X1 hx hZ (W := 0) hown e1 (rmGV l Z a0 hw [] a1 ar k h0 n0 Z0 E1 Fv Fc Fn) E1 (hw _ (List.mem_of_getElem? (i := 127) rfl)) (hw _ (List.mem_of_getElem? (i := 128) rfl)) (notFace_of_selects (args := #[]) (mvT hZ (hw _ (List.mem_of_getElem? (i := 130) rfl)))) (hw _ (List.mem_of_getElem? (i := 130) rfl)) (hw _ (List.mem_of_getElem? (i := 129) rfl)) (hw _ (List.mem_of_getElem? (i := 131) rfl)) (hw _ (List.mem_of_getElem? (i := 27) rfl)) (by decide) (by decide) (by decide) (g := (mkF m 5 #[.val (.ref sa), .val (.ref a1), .val .null, .unset, .unset] [(.ref a1)])) rfl (by rw [hml]; rfl) (argsL := []) (rest := []) rfl (lenOf pd_15 rfl) rfl (by show 2 * 0 + _ ≤ _; exact Nat.le_of_eq rfl) (hb hby d20_5) (by decide) (by decide) ?_
  intro v2 T2 L2 X2 hQ2
  obtain ⟨rfl, rfl, e2⟩ := hQ2
  replace X2 := own_pureX X2
  show OGo p e below _ T2 (mkF m 8 #[.val (.ref sa), .val (.ref a1), .val .null, .unset, .unset] [(.ref ar)])
  refine own_step (g' := (mkF m 9 #[.val (.ref sa), .val (.ref a1), .val .null, .val (.ref ar), .unset] [])) (fun _ kont => XS.astoreN X2.here hx rfl (hb hby d20_8) rfl rfl (l' := #[.val (.ref sa), .val (.ref a1), .val .null, .val (.ref ar), .unset]) rfl kont) ?_
  refine own_step (g' := (mkF m 10 #[.val (.ref sa), .val (.ref a1), .val .null, .val (.ref ar), .unset] [(.ref a1)])) (fun _ kont => XS.aloadN X2.here hx rfl (hb hby d20_9) rfl rfl kont) ?_
  refine own_callV X2 hx hZ (W := 0) hown e2 (rmSL l Z a0 hw [] a1 ar k h0 n0 Z0 E1 Fv Fc Fn) E1 (hw _ (List.mem_of_getElem? (i := 132) rfl)) (hw _ (List.mem_of_getElem? (i := 133) rfl)) (own_nfSib (notFace_of_selects (args := #[]) (mvT hZ (hw _ (List.mem_of_getElem? (i := 66) rfl)))) rfl (mvT (args := #[]) hZ (hw _ (List.mem_of_getElem? (i := 67) rfl)))) (hw _ (List.mem_of_getElem? (i := 135) rfl)) (hw _ (List.mem_of_getElem? (i := 136) rfl)) (hw _ (List.mem_of_getElem? (i := 137) rfl)) (hw _ (List.mem_of_getElem? (i := 19) rfl)) (by decide) (by decide) (by decide) (g := (mkF m 10 #[.val (.ref sa), .val (.ref a1), .val .null, .val (.ref ar), .unset] [(.ref a1)])) rfl (by rw [hml]; rfl) (argsL := []) (rest := []) rfl (lenOf pd_7 rfl) rfl (by show 2 * 0 + _ ≤ _; exact Nat.le_of_eq rfl) (hb hby d20_10) (by decide) (by decide) ?_
  intro v3 T3 L3 X3 hQ3
  obtain ⟨rfl, rfl, e3⟩ := hQ3
  replace X3 := own_pureX X3
  show OGo p e below _ T3 (mkF m 13 #[.val (.ref sa), .val (.ref a1), .val .null, .val (.ref ar), .unset] [(.int k)])
  refine own_step (g' := (mkF m 15 #[.val (.ref sa), .val (.ref a1), .val .null, .val (.ref ar), .val (.int k)] [])) (fun _ kont => XS.istore X3.here hx rfl (hb hby d20_13) rfl (l' := #[.val (.ref sa), .val (.ref a1), .val .null, .val (.ref ar), .val (.int k)]) rfl kont) ?_
  refine own_step (g' := (mkF m 16 #[.val (.ref sa), .val (.ref a1), .val .null, .val (.ref ar), .val (.int k)] [(.ref a1)])) (fun _ kont => XS.aloadN X3.here hx rfl (hb hby d20_15) rfl rfl kont) ?_
  refine own_callV X3 hx hZ (W := 0) hown e3 (rmLa l Z a0 hw [] a1 ar k z h0 n0 Z0 S_CS hz E1 Fv Fc Fn) E1 (hw _ (List.mem_of_getElem? (i := 140) rfl)) (hw _ (List.mem_of_getElem? (i := 103) rfl)) (notFace_of_selects (args := #[]) (mvT hZ (hw _ (List.mem_of_getElem? (i := 105) rfl)))) (hw _ (List.mem_of_getElem? (i := 105) rfl)) (hw _ (List.mem_of_getElem? (i := 104) rfl)) (hw _ (List.mem_of_getElem? (i := 106) rfl)) (hw _ (List.mem_of_getElem? (i := 27) rfl)) (by decide) (by decide) (by decide) (g := (mkF m 16 #[.val (.ref sa), .val (.ref a1), .val .null, .val (.ref ar), .val (.int k)] [(.ref a1)])) rfl (by rw [hml]; rfl) (argsL := []) (rest := []) rfl (lenOf pd_11 rfl) rfl (by show 2 * 0 + _ ≤ _; exact Nat.le_of_eq rfl) (hb hby d20_16) (by decide) (by decide) ?_
  intro v4 T4 L4 X4 hQ4
  obtain ⟨rfl, rfl, e4⟩ := hQ4
  replace X4 := own_pureX X4
  show OGo p e below _ T4 (mkF m 19 #[.val (.ref sa), .val (.ref a1), .val .null, .val (.ref ar), .val (.int k)] [(.int (1 : Int32))])
  refine own_step (g' := (mkF m 22 #[.val (.ref sa), .val (.ref a1), .val .null, .val (.ref ar), .val (.int k)] [])) (fun _ kont => XS.ifNo X4.here hx rfl (hb hby d20_19) rfl ((if0 _ _).trans (feq (by decide : ¬ ((1 : Int32) = (0 : Int32)))).1) kont) ?_
  refine own_step (g' := (mkF m 23 #[.val (.ref sa), .val (.ref a1), .val .null, .val (.ref ar), .val (.int k)] [(.ref sa)])) (fun _ kont => XS.aloadN X4.here hx rfl (hb hby d20_22) rfl rfl kont) ?_
  refine own_step (g' := (mkF m 24 #[.val (.ref sa), .val (.ref a1), .val .null, .val (.ref ar), .val (.int k)] [(.int (0 : Int32)), (.ref sa)])) (fun _ kont => XS.iconst X4.here hx rfl (hb hby d20_23) kont) ?_
  obtain ⟨T5, h5, X5, e5, W5, st5⟩ := putF X4 hx hZ hown (host := "") (Or.inl (hw _ (List.mem_of_getElem? (i := 60) rfl))) Via.refl e4 Fsc Es (Or.inr ⟨(hw _ (List.mem_of_getElem? (i := 14) rfl)), rfl, hnm⟩) (hw _ (List.mem_of_getElem? (i := 11) rfl)) (ty := .byte) (by decide) rfl rfl (g := (mkF m 24 #[.val (.ref sa), .val (.ref a1), .val .null, .val (.ref ar), .val (.int k)] [(.int (0 : Int32)), (.ref sa)])) rfl rfl (hb hby d20_24)
  have Fw5 := Fld.same W5 Fsc
  have N5 := Fr.snoc X5 N0 g_sa
  have K5 : Keep h0 h5 [sa] := KC0.wr W5 (Or.inl (List.mem_of_getElem? (i := 0) rfl))
  refine own_via (g' := (mkF m 27 #[.val (.ref sa), .val (.ref a1), .val .null, .val (.ref ar), .val (.int k)] [])) st5 ?_
  refine own_step (g' := (mkF m 28 #[.val (.ref sa), .val (.ref a1), .val .null, .val (.ref ar), .val (.int k)] [(.ref sa)])) (fun _ kont => XS.aloadN X5.here hx rfl (hb hby d20_27) rfl rfl kont) ?_
  refine own_step (g' := (mkF m 29 #[.val (.ref sa), .val (.ref a1), .val .null, .val (.ref ar), .val (.int k)] [(.ref ar), (.ref sa)])) (fun _ kont => XS.aloadN X5.here hx rfl (hb hby d20_28) rfl rfl kont) ?_
  refine own_step (g' := (mkF m 30 #[.val (.ref sa), .val (.ref a1), .val .null, .val (.ref ar), .val (.int k)] [(.int (0 : Int32)), (.ref ar), (.ref sa)])) (fun _ kont => XS.iconst X5.here hx rfl (hb hby d20_29) kont) ?_
  refine own_step (g' := (mkF m 32 #[.val (.ref sa), .val (.ref a1), .val .null, .val (.ref ar), .val (.int k)] [(.int k), (.int (0 : Int32)), (.ref ar), (.ref sa)])) (fun _ kont => XS.iload X5.here hx rfl (hb hby d20_30) rfl kont) ?_
  have C_6 : Exa Z h5 a1 "java/lang/StringBuilder" := (Exa.wr W5 E1)
  have By_7 : OBy Z h5 ar zz := (Bar.other W5 (Ne.symm ne_sa_ar))
  have C_8 : Exa Z h5 sa "java/lang/String" := (Exa.wr W5 Es)
  have C_9 : Exa Z h5 ar "[B" := (Exa.wr W5 Ear)
  refine own_callS X5 hx hZ (W := 1) hown e5 (rmCR l Z a0 hw [] ar k zz h5 n0 (Nat.le_trans Z0 (Nat.le_of_eq W5.size.symm)) By_7 C_9 hk0 hkz hz34) (hw _ (List.mem_of_getElem? (i := 141) rfl)) (hw _ (List.mem_of_getElem? (i := 142) rfl)) (hw _ (List.mem_of_getElem? (i := 143) rfl)) (hw _ (List.mem_of_getElem? (i := 144) rfl)) (by decide) (by decide) (by decide) (g := (mkF m 32 #[.val (.ref sa), .val (.ref a1), .val .null, .val (.ref ar), .val (.int k)] [(.int k), (.int (0 : Int32)), (.ref ar), (.ref sa)])) rfl (by rw [hml]; rfl) (argsL := [(.ref ar), (.int (0 : Int32)), (.int k)]) (rest := [(.ref sa)]) rfl (lenOf pd_14 rfl) rfl (by show 2 * 0 + _ ≤ _; exact Nat.le_of_eq rfl) (hb hby d20_32) (by decide) (by decide) ?_
  intro v10 T10 L10 X10 hQ10
  obtain ⟨⟨bb, rfl, szb, g_bb, Bbb, Ebb⟩, Nq10, Kq10⟩ := hQ10
  have N10 := Fr.app N5 Nq10
  have K10 : Keep h0 T10.heap [sa] := K5.trans Kq10 all0
  have sz_bb : h0.size ≤ bb := Nat.le_trans K5.1 szb
  show OGo p e below _ T10 (mkF m 35 #[.val (.ref sa), .val (.ref a1), .val .null, .val (.ref ar), .val (.int k)] [(.ref bb), (.ref sa)])
  have ne_a1_bb : a1 ≠ bb := Nat.ne_of_lt (Nat.lt_of_lt_of_le C_6.lt szb)
  have ne_ar_bb : ar ≠ bb := Nat.ne_of_lt (Nat.lt_of_lt_of_le By_7.lt szb)
  have ne_sa_bb : sa ≠ bb := Nat.ne_of_lt (Nat.lt_of_lt_of_le C_8.lt szb)
  have F_11 : Fld Z T10.heap sa "java/lang/String" "value" "[B" .null := ((Fld.other W5 Fsv (Or.inr (slot_ne (Or.inr (hw _ (List.mem_of_getElem? (i := 13) rfl))) (Or.inr (hw _ (List.mem_of_getElem? (i := 14) rfl))) (by decide) (t := (.array .byte)) (t' := .byte) (by decide) (by decide)))).keep Kq10 nin0)
  have C_12 : Exa Z T10.heap sa "java/lang/String" := (C_8.keep Kq10)
  obtain ⟨T13, h13, X13, e13, W13, st13⟩ := putF X10 hx hZ hown (host := "") (Or.inl (hw _ (List.mem_of_getElem? (i := 53) rfl))) Via.refl rfl F_11 C_12 (Or.inr ⟨(hw _ (List.mem_of_getElem? (i := 13) rfl)), rfl, hnm⟩) (hw _ (List.mem_of_getElem? (i := 11) rfl)) (ty := (.array .byte)) (by decide) rfl rfl (g := (mkF m 35 #[.val (.ref sa), .val (.ref a1), .val .null, .val (.ref ar), .val (.int k)] [(.ref bb), (.ref sa)])) rfl rfl (hb hby d20_35)
  have Fw13 := Fld.same W13 F_11
  have N13 := Fr.snoc X13 N10 g_sa
  have K13 : Keep h0 h13 [sa] := K10.wr W13 (Or.inl (List.mem_of_getElem? (i := 0) rfl))
  refine own_via (g' := (mkF m 38 #[.val (.ref sa), .val (.ref a1), .val .null, .val (.ref ar), .val (.int k)] [])) st13 ?_
  refine own_step (g' := (mkF m 97 #[.val (.ref sa), .val (.ref a1), .val .null, .val (.ref ar), .val (.int k)] [])) (fun _ kont => XS.goto X13.here hx rfl (pc0 := 38) (pc' := 97) rfl (hb hby d20_38) (by decide) (by decide) kont) ?_
  have By_14 : OBy Z h13 bb k := (Bbb.other W13 (Ne.symm ne_sa_bb))
  have C_15 : Exa Z h13 sa "java/lang/String" := (Exa.wr W13 C_12)
  have F_16 : Fld Z h13 sa "java/lang/String" "coder" "B" (.int (0 : Int32)) := (Fld.other W13 (Fw5.keep Kq10 nin0) (Or.inr (slot_ne (Or.inr (hw _ (List.mem_of_getElem? (i := 14) rfl))) (Or.inr (hw _ (List.mem_of_getElem? (i := 13) rfl))) (by decide) (t := .byte) (t' := (.array .byte)) (by decide) (by decide))))
  exact own_retV X13 hx hret hlk (hb hby d20_97) e13 (by exact ⟨rfl, ⟨_, sz_bb, g_bb, By_14, C_15, Fw13, F_16⟩, N13, K13⟩) (by decide) (by decide)
theorem d19_0 : decode jdk_42_method_53_code 0 = .ok (.aload_n 0, 1) := by decide +kernel
theorem d19_1 : decode jdk_42_method_53_code 1 = .ok (.aload_n 1, 1) := by decide +kernel
theorem d19_2 : decode jdk_42_method_53_code 2 = .ok (.aconst_null, 1) := by decide +kernel
theorem d19_3 : decode jdk_42_method_53_code 3 = .ok (.invokespecial 489, 3) := by decide +kernel
theorem d19_6 : decode jdk_42_method_53_code 6 = .ok (.return_, 1) := by decide +kernel
theorem pd_16 : parseMethodDescriptor "(Ljava/lang/AbstractStringBuilder;Ljava/lang/Void;)V" = some ⟨[(.object "java/lang/AbstractStringBuilder"), (.object "java/lang/Void")], none⟩ := by decide +kernel
set_option maxRecDepth 65536 in
set_option maxHeartbeats 40000000 in
theorem rmSS (l : Launch) (Z : State) (a0 : Array Value) (hw : ∀ d ∈ tables_1, d.before a0 Z = true) (ws : List Jvm.Cond) (sa a1 ar : Addr) (k zz z : Int32) (h0 : Heap) (n0 : Nat) (Z0 : n0 ≤ h0.size) (S_CS : Sta Z h0 "java/lang/String" "COMPACT_STRINGS" "Z" (.int z)) (hz : ¬ (z = (0 : Int32))) (E1 : Exa Z h0 a1 "java/lang/StringBuilder") (Fv : Fld Z h0 a1 "java/lang/AbstractStringBuilder" "value" "[B" (.ref ar)) (Fc : Fld Z h0 a1 "java/lang/AbstractStringBuilder" "coder" "B" (.int (0 : Int32))) (Fn : Fld Z h0 a1 "java/lang/AbstractStringBuilder" "count" "I" (.int k)) (Bar : OBy Z h0 ar zz) (Ear : Exa Z h0 ar "[B") (hk0 : 0 ≤ k.toInt) (hkz : k.toInt ≤ zz.toInt) (hz34 : zz.toInt ≤ 34) (g_sa : n0 ≤ sa) (Es : Exa Z h0 sa "java/lang/String") (Fsv : Fld Z h0 sa "java/lang/String" "value" "[B" .null) (Fsc : Fld Z h0 sa "java/lang/String" "coder" "B" (.int (0 : Int32))) :
    OMet l (⟨"java/lang/String", "<init>", "(Ljava/lang/StringBuilder;)V"⟩ : MethodName) jdk_42_method_53_code 2 none ws ({ frames := 4, cells := 1, slots := 34, locals := 87 } : Room) Z #[(.ref sa), (.ref a1)] h0 (fun v h L => v = none ∧ (∃ b : Addr, h0.size ≤ b ∧ n0 ≤ b ∧ OBy Z h b k ∧ Exa Z h sa "java/lang/String" ∧ Fld Z h sa "java/lang/String" "value" "[B" (.ref b) ∧ Fld Z h sa "java/lang/String" "coder" "B" (.int (0 : Int32))) ∧ Fr n0 L ∧ Keep h0 h [sa]) := by
  refine own_body (plainFor_of_name pn_8) ?_
  intro p e s m below meth cdx T0 X0 hx hZ hby hml hown hnm hret hlk e0
  have N0 := Fr.nil n0
  refine own_entry (g' := (mkF m 0 #[.val (.ref sa), .val (.ref a1)] [])) (by first | rfl | (simp [entryFrame, mkF, argsToLocals, Value.category, maxLocals]; done)) ?_
  have KC0 := Keep.refl h0 [sa]
  have ne_a1_sa : a1 ≠ sa := Exa.ne E1 Es (by decide)
  have ne_sa_ar : sa ≠ ar := own_neB Es Bar (hw _ (List.mem_of_getElem? (i := 11) rfl))
  refine own_step (g' := (mkF m 1 #[.val (.ref sa), .val (.ref a1)] [(.ref sa)])) (fun _ kont => XS.aloadN X0.here hx rfl (hb hby d19_0) rfl rfl kont) ?_
  refine own_step (g' := (mkF m 2 #[.val (.ref sa), .val (.ref a1)] [(.ref a1), (.ref sa)])) (fun _ kont => XS.aloadN X0.here hx rfl (hb hby d19_1) rfl rfl kont) ?_
  refine own_step (g' := (mkF m 3 #[.val (.ref sa), .val (.ref a1)] [.null, (.ref a1), (.ref sa)])) (fun _ kont => XS.aconstNull X0.here hx rfl (hb hby d19_2) kont) ?_
  refine own_init X0 hx hZ (W := 0) hown e0 (rmST l Z a0 hw [] sa a1 ar k zz z h0 n0 Z0 S_CS hz E1 Fv Fc Fn Bar Ear hk0 hkz hz34 g_sa Es Fsv Fsc) rfl (hw _ (List.mem_of_getElem? (i := 123) rfl)) (hw _ (List.mem_of_getElem? (i := 124) rfl)) (hw _ (List.mem_of_getElem? (i := 125) rfl)) (hw _ (List.mem_of_getElem? (i := 10) rfl)) (by decide) (by decide) (by decide) (g := (mkF m 3 #[.val (.ref sa), .val (.ref a1)] [.null, (.ref a1), (.ref sa)])) rfl (by rw [hml]; rfl) (argsL := [(.ref a1), .null]) (rest := []) rfl (lenOf pd_16 rfl) rfl (by show 2 * 0 + _ ≤ _; exact Nat.le_of_eq rfl) (hb hby d19_3) (by decide) (by decide) ?_
  intro v2 T2 L2 X2 hQ2
  obtain ⟨rfl, ⟨bb, szbq1, g_bb, Bq1, Sq1, Vq1, Kq1⟩, Nq2, Kq2⟩ := hQ2
  have N2 := Fr.app N0 Nq2
  have K2 : Keep h0 T2.heap [sa] := KC0.trans Kq2 (allS (Or.inl (List.mem_of_getElem? (i := 0) rfl)) all0)
  have sz_bb : h0.size ≤ bb := Nat.le_trans KC0.1 szbq1
  show OGo p e below _ T2 (mkF m 6 #[.val (.ref sa), .val (.ref a1)] [])
  have ne_a1_bb : a1 ≠ bb := Nat.ne_of_lt (Nat.lt_of_lt_of_le E1.lt szbq1)
  have ne_ar_bb : ar ≠ bb := Nat.ne_of_lt (Nat.lt_of_lt_of_le Bar.lt szbq1)
  have ne_sa_bb : sa ≠ bb := Nat.ne_of_lt (Nat.lt_of_lt_of_le Es.lt szbq1)
  exact own_retV X2 hx hret hlk (hb hby d19_6) rfl (by exact ⟨rfl, ⟨_, sz_bb, g_bb, Bq1, Sq1, Vq1, Kq1⟩, N2, K2⟩) (by decide) (by decide)
theorem d18_0 : decode jdk_67_method_42_code 0 = .ok (.new 18, 3) := by decide +kernel
theorem d18_3 : decode jdk_67_method_42_code 3 = .ok (.dup, 1) := by decide +kernel
theorem d18_4 : decode jdk_67_method_42_code 4 = .ok (.aload_n 0, 1) := by decide +kernel
theorem d18_5 : decode jdk_67_method_42_code 5 = .ok (.invokespecial 137, 3) := by decide +kernel
theorem d18_8 : decode jdk_67_method_42_code 8 = .ok (.areturn, 1) := by decide +kernel
theorem pd_17 : parseMethodDescriptor "(Ljava/lang/StringBuilder;)V" = some ⟨[(.object "java/lang/StringBuilder")], none⟩ := by decide +kernel
set_option maxRecDepth 65536 in
set_option maxHeartbeats 40000000 in
theorem rmTS (l : Launch) (Z : State) (a0 : Array Value) (hw : ∀ d ∈ tables_1, d.before a0 Z = true) (ws : List Jvm.Cond) (a1 ar : Addr) (k zz z : Int32) (h0 : Heap) (n0 : Nat) (Z0 : n0 ≤ h0.size) (S_CS : Sta Z h0 "java/lang/String" "COMPACT_STRINGS" "Z" (.int z)) (hz : ¬ (z = (0 : Int32))) (E1 : Exa Z h0 a1 "java/lang/StringBuilder") (Fv : Fld Z h0 a1 "java/lang/AbstractStringBuilder" "value" "[B" (.ref ar)) (Fc : Fld Z h0 a1 "java/lang/AbstractStringBuilder" "coder" "B" (.int (0 : Int32))) (Fn : Fld Z h0 a1 "java/lang/AbstractStringBuilder" "count" "I" (.int k)) (Bar : OBy Z h0 ar zz) (Ear : Exa Z h0 ar "[B") (hk0 : 0 ≤ k.toInt) (hkz : k.toInt ≤ zz.toInt) (hz34 : zz.toInt ≤ 34) :
    OMet l (⟨"java/lang/StringBuilder", "toString", "()Ljava/lang/String;"⟩ : MethodName) jdk_67_method_42_code 1 (some (.object "java/lang/String")) ws ({ frames := 5, cells := 2, slots := 38, locals := 101 } : Room) Z #[(.ref a1)] h0 (fun v h L => (∃ sa va : Addr, v = some (.ref sa) ∧ h0.size ≤ sa ∧ h0.size ≤ va ∧ Exa Z h sa "java/lang/String" ∧ Fld Z h sa "java/lang/String" "value" "[B" (.ref va) ∧ Fld Z h sa "java/lang/String" "coder" "B" (.int (0 : Int32)) ∧ OBy Z h va k) ∧ Fr n0 L ∧ Keep h0 h []) := by
  refine own_body (plainFor_of_name pn_5) ?_
  intro p e s m below meth cdx T0 X0 hx hZ hby hml hown hnm hret hlk e0
  have N0 := Fr.nil n0
  refine own_entry (g' := (mkF m 0 #[.val (.ref a1)] [])) (by first | rfl | (simp [entryFrame, mkF, argsToLocals, Value.category, maxLocals]; done)) ?_
  have KC0 := Keep.refl h0 []
  obtain ⟨T1, h1, X1, e1, Ex1, A1, D1, Un1, st1⟩ := newO X0 hx hZ hown (hw _ (List.mem_of_getElem? (i := 118) rfl)) (hw _ (List.mem_of_getElem? (i := 11) rfl)) (hw _ (List.mem_of_getElem? (i := 10) rfl)) e0 (g := (mkF m 0 #[.val (.ref a1)] [])) rfl (hb hby d18_0) (by decide) (by decide)
  obtain ⟨nb1, g1⟩ : ∃ z, z = h0.size := ⟨_, rfl⟩
  rw [← g1] at A1 D1 Un1 st1
  have g_nb1 : n0 ≤ nb1 := Nat.le_trans Z0 (Nat.le_of_eq g1.symm)
  have ne_a1_nb1 : a1 ≠ nb1 := Nat.ne_of_lt (Nat.lt_of_lt_of_le E1.lt (Nat.le_of_eq g1.symm))
  have ne_ar_nb1 : ar ≠ nb1 := Nat.ne_of_lt (Nat.lt_of_lt_of_le Bar.lt (Nat.le_of_eq g1.symm))
  have sz_nb1 : h0.size ≤ nb1 := Nat.le_trans KC0.1 (Nat.le_of_eq g1.symm)
  have K1 : Keep h0 h1 [] := KC0.ext Ex1
  have F1_value : Fld Z h1 nb1 "java/lang/String" "value" "[B" .null := D1 (Or.inr (hw _ (List.mem_of_getElem? (i := 13) rfl))) (ty := (.array .byte)) (by decide)
  have F1_coder : Fld Z h1 nb1 "java/lang/String" "coder" "B" (.int (0 : Int32)) := D1 (Or.inr (hw _ (List.mem_of_getElem? (i := 14) rfl))) (ty := .byte) (by decide)
  refine own_via (g' := (mkF m 3 #[.val (.ref a1)] [(.ref nb1)])) st1 ?_
  refine own_step (g' := (mkF m 4 #[.val (.ref a1)] [(.ref nb1), (.ref nb1)])) (fun _ kont => XS.dup X1.here hx rfl (hb hby d18_3) rfl rfl kont) ?_
  refine own_step (g' := (mkF m 5 #[.val (.ref a1)] [(.ref a1), (.ref nb1), (.ref nb1)])) (fun _ kont => XS.aloadN X1.here hx rfl (hb hby d18_4) rfl rfl kont) ?_
  have C_3 : Exa Z h1 a1 "java/lang/StringBuilder" := (Exa.ext Ex1 E1)
  have By_4 : OBy Z h1 ar zz := (Bar.ext Ex1)
  have S_5 : Sta Z h1 "java/lang/String" "COMPACT_STRINGS" "Z" (.int z) := (Sta.ext Ex1 S_CS)
  have F_6 : Fld Z h1 a1 "java/lang/AbstractStringBuilder" "value" "[B" (.ref ar) := (Fld.ext Ex1 Fv)
  have F_7 : Fld Z h1 a1 "java/lang/AbstractStringBuilder" "coder" "B" (.int (0 : Int32)) := (Fld.ext Ex1 Fc)
  have F_8 : Fld Z h1 a1 "java/lang/AbstractStringBuilder" "count" "I" (.int k) := (Fld.ext Ex1 Fn)
  have C_9 : Exa Z h1 ar "[B" := (Exa.ext Ex1 Ear)
  refine own_init X1 hx hZ (W := 1) hown e1 (rmSS l Z a0 hw [] nb1 a1 ar k zz z h1 n0 (Nat.le_trans Z0 Ex1.1) S_5 hz C_3 F_6 F_7 F_8 By_4 C_9 hk0 hkz hz34 g_nb1 A1 F1_value F1_coder) rfl (hw _ (List.mem_of_getElem? (i := 119) rfl)) (hw _ (List.mem_of_getElem? (i := 120) rfl)) (hw _ (List.mem_of_getElem? (i := 122) rfl)) (hw _ (List.mem_of_getElem? (i := 10) rfl)) (by decide) (by decide) (by decide) (g := (mkF m 5 #[.val (.ref a1)] [(.ref a1), (.ref nb1), (.ref nb1)])) rfl (by rw [hml]; rfl) (argsL := [(.ref a1)]) (rest := [(.ref nb1)]) rfl (lenOf pd_17 rfl) rfl (by show 2 * 0 + _ ≤ _; exact Nat.le_of_eq rfl) (hb hby d18_5) (by decide) (by decide) ?_
  intro v10 T10 L10 X10 hQ10
  obtain ⟨rfl, ⟨bb, szbq2, g_bb, Bq2, Sq2, Vq2, Kq2⟩, Nq10, Kq10⟩ := hQ10
  have N10 := Fr.app N0 Nq10
  have K10 : Keep h0 T10.heap [] := K1.trans Kq10 (allS (Or.inr sz_nb1) all0)
  have sz_bb : h0.size ≤ bb := Nat.le_trans K1.1 szbq2
  show OGo p e below _ T10 (mkF m 8 #[.val (.ref a1)] [(.ref nb1)])
  have ne_a1_bb : a1 ≠ bb := Nat.ne_of_lt (Nat.lt_of_lt_of_le C_3.lt szbq2)
  have ne_ar_bb : ar ≠ bb := Nat.ne_of_lt (Nat.lt_of_lt_of_le By_4.lt szbq2)
  have ne_nb1_bb : nb1 ≠ bb := Nat.ne_of_lt (Nat.lt_of_lt_of_le A1.lt szbq2)
  exact own_retA X10 hx hret rfl rfl hlk (hb hby d18_8) rfl (by exact ⟨⟨_, _, rfl, sz_nb1, sz_bb, Sq2, Vq2, Kq2, Bq2⟩, N10, K10⟩) (by decide) (by decide)
theorem d31_0 : decode jdk_78_method_2_code 0 = .ok (.aload_n 0, 1) := by decide +kernel
theorem d31_1 : decode jdk_78_method_2_code 1 = .ok (.invokespecial 1, 3) := by decide +kernel
theorem d31_4 : decode jdk_78_method_2_code 4 = .ok (.aload_n 0, 1) := by decide +kernel
theorem d31_5 : decode jdk_78_method_2_code 5 = .ok (.aload_n 0, 1) := by decide +kernel
theorem d31_6 : decode jdk_78_method_2_code 6 = .ok (.putfield 7, 3) := by decide +kernel
theorem d31_9 : decode jdk_78_method_2_code 9 = .ok (.aload_n 0, 1) := by decide +kernel
theorem d31_10 : decode jdk_78_method_2_code 10 = .ok (.getstatic 13, 3) := by decide +kernel
theorem d31_13 : decode jdk_78_method_2_code 13 = .ok (.putfield 17, 3) := by decide +kernel
theorem d31_16 : decode jdk_78_method_2_code 16 = .ok (.aload_n 0, 1) := by decide +kernel
theorem d31_17 : decode jdk_78_method_2_code 17 = .ok (.getstatic 20, 3) := by decide +kernel
theorem d31_20 : decode jdk_78_method_2_code 20 = .ok (.putfield 24, 3) := by decide +kernel
theorem d31_23 : decode jdk_78_method_2_code 23 = .ok (.aload_n 0, 1) := by decide +kernel
theorem d31_24 : decode jdk_78_method_2_code 24 = .ok (.invokevirtual 27, 3) := by decide +kernel
theorem d31_27 : decode jdk_78_method_2_code 27 = .ok (.pop, 1) := by decide +kernel
theorem d31_28 : decode jdk_78_method_2_code 28 = .ok (.aload_n 0, 1) := by decide +kernel
theorem d31_29 : decode jdk_78_method_2_code 29 = .ok (.aload_n 1, 1) := by decide +kernel
theorem d31_30 : decode jdk_78_method_2_code 30 = .ok (.putfield 31, 3) := by decide +kernel
theorem d31_33 : decode jdk_78_method_2_code 33 = .ok (.return_, 1) := by decide +kernel
theorem pn_31 : plainName "java/lang/Throwable" = true := by first | (simp [plainName, overriddenIn]; done) | decide +kernel
set_option maxRecDepth 65536 in
set_option maxHeartbeats 40000000 in
theorem rmTI (l : Launch) (Z : State) (a0 : Array Value) (hw : ∀ d ∈ tables_1, d.before a0 Z = true) (ws : List Jvm.Cond) (a1 sm : Addr) (uu ss : Value) (h0 : Heap) (n0 : Nat) (Z0 : n0 ≤ h0.size) (hst : l.stackTraces = true) (HT : ThS Z h0) (huu : uu.isRef = true) (hun : uu ≠ .null) (hss : ss.isRef = true) (S_UN : Sta Z h0 "java/lang/Throwable" "UNASSIGNED_STACK" "[Ljava/lang/StackTraceElement;" uu) (S_SE : Sta Z h0 "java/lang/Throwable" "SUPPRESSED_SENTINEL" "Ljava/util/List;" ss) (g_a1 : n0 ≤ a1) (E1 : Exa Z h0 a1 "com/example/dequeue/dequeue/RefusedException") (N1 : Unt h0 a1) (F1 : Fld Z h0 a1 "java/lang/Throwable" "cause" "Ljava/lang/Throwable;" .null) (F2 : Fld Z h0 a1 "java/lang/Throwable" "stackTrace" "[Ljava/lang/StackTraceElement;" .null) (F3 : Fld Z h0 a1 "java/lang/Throwable" "suppressedExceptions" "Ljava/util/List;" .null) (F4 : Fld Z h0 a1 "java/lang/Throwable" "backtrace" "Ljava/lang/Object;" .null) (F5 : Fld Z h0 a1 "java/lang/Throwable" "detailMessage" "Ljava/lang/String;" .null) :
    OMetK l (⟨"java/lang/Throwable", "<init>", "(Ljava/lang/String;)V"⟩ : MethodName) jdk_78_method_2_code 2 none ws ({ frames := 3, cells := 1, slots := 2752, locals := 42 } : Room) Z (consts_1) #[(.ref a1), (.ref sm)] h0 (fun v h L => v = none ∧ Fr n0 L ∧ Keep h0 h [a1] ∧ Exa Z h a1 "com/example/dequeue/dequeue/RefusedException") := by
  refine own_bodyK (plainFor_of_name pn_31) ?_
  intro p e s m below meth cdx T0 X0 hx hZ hby hml hown hnm hret hlk e0 hS hC hTK hBL hsh
  have N0 := Fr.nil n0
  have hk : h0.size ≤ h0.size := Nat.le_refl _
  have hwS : ∀ d ∈ Bundle.stringAtoms, d.before a0 Z = true := fun d hd => hw d ((by decide +kernel : ∀ d ∈ Bundle.stringAtoms, d ∈ tables_1) d hd)
  refine own_entry (g' := (mkF m 0 #[.val (.ref a1), .val (.ref sm)] [])) (by first | rfl | (simp [entryFrame, mkF, argsToLocals, Value.category, maxLocals]; done)) ?_
  have KC0 := Keep.refl h0 [a1]
  have hEL : EW Z a0 consts_1 := EW.cons (hw _ (List.mem_of_getElem? (i := 159) rfl)) (by decide) (EW.cons (hw _ (List.mem_of_getElem? (i := 9) rfl)) (by decide) (EW.cons (hw _ (List.mem_of_getElem? (i := 37) rfl)) (by decide) EW.nil))
  refine own_step (g' := (mkF m 1 #[.val (.ref a1), .val (.ref sm)] [(.ref a1)])) (fun _ kont => XS.aloadN X0.here hx rfl (hb hby d31_0) rfl rfl kont) ?_
  obtain ⟨T1, X1, e1, st1⟩ := initO X0 hx hZ hown (hw _ (List.mem_of_getElem? (i := 177) rfl)) (hw _ (List.mem_of_getElem? (i := 30) rfl)) (hw _ (List.mem_of_getElem? (i := 31) rfl)) e0 (g := (mkF m 1 #[.val (.ref a1), .val (.ref sm)] [(.ref a1)])) rfl (by rw [hml]; rfl) rfl (hb hby d31_1) (by decide) (W := 0) (by show 2 * 0 + _ ≤ _; exact Nat.le_of_eq rfl) (by decide)
  refine own_via (g' := (mkF m 4 #[.val (.ref a1), .val (.ref sm)] [])) st1 ?_
  refine own_step (g' := (mkF m 5 #[.val (.ref a1), .val (.ref sm)] [(.ref a1)])) (fun _ kont => XS.aloadN X1.here hx rfl (hb hby d31_4) rfl rfl kont) ?_
  refine own_step (g' := (mkF m 6 #[.val (.ref a1), .val (.ref sm)] [(.ref a1), (.ref a1)])) (fun _ kont => XS.aloadN X1.here hx rfl (hb hby d31_5) rfl rfl kont) ?_
  obtain ⟨T2, h2, X2, e2, W2, st2⟩ := putF X1 hx hZ hown (host := "") (Or.inl (hw _ (List.mem_of_getElem? (i := 178) rfl))) Via.refl e1 F1 E1 (Or.inl (hw _ (List.mem_of_getElem? (i := 179) rfl))) (hw _ (List.mem_of_getElem? (i := 5) rfl)) (ty := (.object "java/lang/Throwable")) (by decide) rfl rfl (g := (mkF m 6 #[.val (.ref a1), .val (.ref sm)] [(.ref a1), (.ref a1)])) rfl rfl (hb hby d31_6)
  have Fw2 := Fld.same W2 F1
  have N2 := Fr.snoc X2 N0 g_a1
  have K2 : Keep h0 h2 [a1] := KC0.wr W2 (Or.inl (List.mem_of_getElem? (i := 0) rfl))
  have hk := Nat.le_trans hk (Nat.le_of_eq W2.size.symm)
  have hC := hC.trans (CHr.wr W2 (Safe.exa (hZ).alike E1 (by decide) (by decide)) hC.1)
  refine own_via (g' := (mkF m 9 #[.val (.ref a1), .val (.ref sm)] [])) st2 ?_
  refine own_step (g' := (mkF m 10 #[.val (.ref a1), .val (.ref sm)] [(.ref a1)])) (fun _ kont => XS.aloadN X2.here hx rfl (hb hby d31_9) rfl rfl kont) ?_
  have S_3 : Sta Z h2 "java/lang/Throwable" "UNASSIGNED_STACK" "[Ljava/lang/StackTraceElement;" uu := (Sta.wr W2 S_UN)
  obtain ⟨T4, X4, e4, st4⟩ := getS2 X2 hx hZ hown (host := "") (Or.inl (hw _ (List.mem_of_getElem? (i := 180) rfl))) Via.refl e2 S_3 (g := (mkF m 10 #[.val (.ref a1), .val (.ref sm)] [(.ref a1)])) rfl (hb hby d31_10)
  refine own_via (g' := (mkF m 13 #[.val (.ref a1), .val (.ref sm)] [uu, (.ref a1)])) st4 ?_
  have F_5 : Fld Z h2 a1 "java/lang/Throwable" "stackTrace" "[Ljava/lang/StackTraceElement;" .null := (Fld.other W2 F2 (Or.inr (slot_ne (Or.inl (hw _ (List.mem_of_getElem? (i := 182) rfl))) (Or.inl (hw _ (List.mem_of_getElem? (i := 179) rfl))) (by decide) (t := (.array (.object "java/lang/StackTraceElement"))) (t' := (.object "java/lang/Throwable")) (by decide) (by decide))))
  have C_6 : Exa Z h2 a1 "com/example/dequeue/dequeue/RefusedException" := (Exa.wr W2 E1)
  obtain ⟨T7, h7, X7, e7, W7, st7⟩ := putF X4 hx hZ hown (host := "") (Or.inl (hw _ (List.mem_of_getElem? (i := 181) rfl))) Via.refl e4 F_5 C_6 (Or.inl (hw _ (List.mem_of_getElem? (i := 182) rfl))) (hw _ (List.mem_of_getElem? (i := 5) rfl)) (ty := (.array (.object "java/lang/StackTraceElement"))) (by decide) (own_nar_ref huu rfl) (own_fits_ref huu rfl) (g := (mkF m 13 #[.val (.ref a1), .val (.ref sm)] [uu, (.ref a1)])) rfl rfl (hb hby d31_13)
  have Fw7 := Fld.same W7 F_5
  have N7 := Fr.snoc X7 N2 g_a1
  have K7 : Keep h0 h7 [a1] := K2.wr W7 (Or.inl (List.mem_of_getElem? (i := 0) rfl))
  have hk := Nat.le_trans hk (Nat.le_of_eq W7.size.symm)
  have hC := hC.trans (CHr.wr W7 (Safe.exa (hZ).alike C_6 (by decide) (by decide)) hC.1)
  refine own_via (g' := (mkF m 16 #[.val (.ref a1), .val (.ref sm)] [])) st7 ?_
  refine own_step (g' := (mkF m 17 #[.val (.ref a1), .val (.ref sm)] [(.ref a1)])) (fun _ kont => XS.aloadN X7.here hx rfl (hb hby d31_16) rfl rfl kont) ?_
  have S_8 : Sta Z h7 "java/lang/Throwable" "SUPPRESSED_SENTINEL" "Ljava/util/List;" ss := (Sta.wr W7 (Sta.wr W2 S_SE))
  obtain ⟨T9, X9, e9, st9⟩ := getS2 X7 hx hZ hown (host := "") (Or.inl (hw _ (List.mem_of_getElem? (i := 183) rfl))) Via.refl e7 S_8 (g := (mkF m 17 #[.val (.ref a1), .val (.ref sm)] [(.ref a1)])) rfl (hb hby d31_17)
  refine own_via (g' := (mkF m 20 #[.val (.ref a1), .val (.ref sm)] [ss, (.ref a1)])) st9 ?_
  have F_10 : Fld Z h7 a1 "java/lang/Throwable" "suppressedExceptions" "Ljava/util/List;" .null := (Fld.other W7 (Fld.other W2 F3 (Or.inr (slot_ne (Or.inl (hw _ (List.mem_of_getElem? (i := 185) rfl))) (Or.inl (hw _ (List.mem_of_getElem? (i := 179) rfl))) (by decide) (t := (.object "java/util/List")) (t' := (.object "java/lang/Throwable")) (by decide) (by decide)))) (Or.inr (slot_ne (Or.inl (hw _ (List.mem_of_getElem? (i := 185) rfl))) (Or.inl (hw _ (List.mem_of_getElem? (i := 182) rfl))) (by decide) (t := (.object "java/util/List")) (t' := (.array (.object "java/lang/StackTraceElement"))) (by decide) (by decide))))
  have C_11 : Exa Z h7 a1 "com/example/dequeue/dequeue/RefusedException" := (Exa.wr W7 C_6)
  obtain ⟨T12, h12, X12, e12, W12, st12⟩ := putF X9 hx hZ hown (host := "") (Or.inl (hw _ (List.mem_of_getElem? (i := 184) rfl))) Via.refl e9 F_10 C_11 (Or.inl (hw _ (List.mem_of_getElem? (i := 185) rfl))) (hw _ (List.mem_of_getElem? (i := 5) rfl)) (ty := (.object "java/util/List")) (by decide) (own_nar_ref hss rfl) (own_fits_ref hss rfl) (g := (mkF m 20 #[.val (.ref a1), .val (.ref sm)] [ss, (.ref a1)])) rfl rfl (hb hby d31_20)
  have Fw12 := Fld.same W12 F_10
  have N12 := Fr.snoc X12 N7 g_a1
  have K12 : Keep h0 h12 [a1] := K7.wr W12 (Or.inl (List.mem_of_getElem? (i := 0) rfl))
  have hk := Nat.le_trans hk (Nat.le_of_eq W12.size.symm)
  have hC := hC.trans (CHr.wr W12 (Safe.exa (hZ).alike C_11 (by decide) (by decide)) hC.1)
  refine own_via (g' := (mkF m 23 #[.val (.ref a1), .val (.ref sm)] [])) st12 ?_
  refine own_step (g' := (mkF m 24 #[.val (.ref a1), .val (.ref sm)] [(.ref a1)])) (fun _ kont => XS.aloadN X12.here hx rfl (hb hby d31_23) rfl rfl kont) ?_
  have C_14 : Exa Z h12 a1 "com/example/dequeue/dequeue/RefusedException" := (Exa.wr W12 C_11)
  have Un_15 : Unt h12 a1 := (Unt.wr W12 (Unt.wr W7 (Unt.wr W2 N1)))
  have F_16 : Fld Z h12 a1 "java/lang/Throwable" "stackTrace" "[Ljava/lang/StackTraceElement;" uu := (Fld.other W12 Fw7 (Or.inr (slot_ne (Or.inl (hw _ (List.mem_of_getElem? (i := 182) rfl))) (Or.inl (hw _ (List.mem_of_getElem? (i := 185) rfl))) (by decide) (t := (.array (.object "java/lang/StackTraceElement"))) (t' := (.object "java/util/List")) (by decide) (by decide))))
  have F_17 : Fld Z h12 a1 "java/lang/Throwable" "backtrace" "Ljava/lang/Object;" .null := (Fld.other W12 (Fld.other W7 (Fld.other W2 F4 (Or.inr (slot_ne (Or.inl (hw _ (List.mem_of_getElem? (i := 210) rfl))) (Or.inl (hw _ (List.mem_of_getElem? (i := 179) rfl))) (by decide) (t := (.object "java/lang/Object")) (t' := (.object "java/lang/Throwable")) (by decide) (by decide)))) (Or.inr (slot_ne (Or.inl (hw _ (List.mem_of_getElem? (i := 210) rfl))) (Or.inl (hw _ (List.mem_of_getElem? (i := 182) rfl))) (by decide) (t := (.object "java/lang/Object")) (t' := (.array (.object "java/lang/StackTraceElement"))) (by decide) (by decide)))) (Or.inr (slot_ne (Or.inl (hw _ (List.mem_of_getElem? (i := 210) rfl))) (Or.inl (hw _ (List.mem_of_getElem? (i := 185) rfl))) (by decide) (t := (.object "java/lang/Object")) (t' := (.object "java/util/List")) (by decide) (by decide))))
  have S_18 : Sta Z h12 "java/lang/Throwable" "UNASSIGNED_STACK" "[Ljava/lang/StackTraceElement;" uu := (Sta.wr W12 (Sta.wr W7 S_3))
  obtain ⟨T13, h13, L13, X13, e13, Lb13, Kq13, C13, st13⟩ := own_fill (hw _ (List.mem_of_getElem? (i := 5) rfl)) X12 hx hst hZ hw hS hTK hBL (by rw [hsh]; exact HT) (W := 0) hown e12 C_14 Un_15 F_16 F_17 S_18 huu hun (g := (mkF m 24 #[.val (.ref a1), .val (.ref sm)] [(.ref a1)])) rfl (by rw [hml]; rfl) (rest := []) rfl (hb hby d31_24) (by decide) (by show 2 * 0 + _ ≤ _; exact Nat.le_of_eq rfl) (by decide) (by decide) (by decide)
  have F_19 : Fld Z h12 a1 "java/lang/Throwable" "detailMessage" "Ljava/lang/String;" .null := (Fld.other W12 (Fld.other W7 (Fld.other W2 F5 (Or.inr (slot_ne (Or.inl (hw _ (List.mem_of_getElem? (i := 209) rfl))) (Or.inl (hw _ (List.mem_of_getElem? (i := 179) rfl))) (by decide) (t := (.object "java/lang/String")) (t' := (.object "java/lang/Throwable")) (by decide) (by decide)))) (Or.inr (slot_ne (Or.inl (hw _ (List.mem_of_getElem? (i := 209) rfl))) (Or.inl (hw _ (List.mem_of_getElem? (i := 182) rfl))) (by decide) (t := (.object "java/lang/String")) (t' := (.array (.object "java/lang/StackTraceElement"))) (by decide) (by decide)))) (Or.inr (slot_ne (Or.inl (hw _ (List.mem_of_getElem? (i := 209) rfl))) (Or.inl (hw _ (List.mem_of_getElem? (i := 185) rfl))) (by decide) (t := (.object "java/lang/String")) (t' := (.object "java/util/List")) (by decide) (by decide))))
  obtain ⟨wd13, Fd13⟩ := own_fld_ex Kq13 F_19
  have N13 := Fr.app N12 (fun y hy => by rw [Lb13 y hy]; exact g_a1)
  have K13 : Keep h0 h13 [a1] := K12.trans Kq13 (allS (Or.inl (List.mem_of_getElem? (i := 0) rfl)) all0)
  have hk := Nat.le_trans hk Kq13.1
  have hC := hC.trans (CHr.keep Kq13 (sfS (Safe.exa (hZ).alike C_14 (by decide) (by decide)) sf0) hC.1)
  refine own_via (g' := (mkF m 27 #[.val (.ref a1), .val (.ref sm)] [(.ref a1)])) st13 ?_
  refine own_step (g' := (mkF m 28 #[.val (.ref a1), .val (.ref sm)] [])) (fun _ kont => XS.pop X13.here hx rfl (hb hby d31_27) rfl rfl kont) ?_
  refine own_step (g' := (mkF m 29 #[.val (.ref a1), .val (.ref sm)] [(.ref a1)])) (fun _ kont => XS.aloadN X13.here hx rfl (hb hby d31_28) rfl rfl kont) ?_
  refine own_step (g' := (mkF m 30 #[.val (.ref a1), .val (.ref sm)] [(.ref sm), (.ref a1)])) (fun _ kont => XS.aloadN X13.here hx rfl (hb hby d31_29) rfl rfl kont) ?_
  obtain ⟨T20, h20, X20, e20, W20, st20⟩ := putF X13 hx hZ hown (host := "") (Or.inl (hw _ (List.mem_of_getElem? (i := 213) rfl))) Via.refl e13 Fd13 C13 (Or.inl (hw _ (List.mem_of_getElem? (i := 209) rfl))) (hw _ (List.mem_of_getElem? (i := 5) rfl)) (ty := (.object "java/lang/String")) (by decide) rfl rfl (g := (mkF m 30 #[.val (.ref a1), .val (.ref sm)] [(.ref sm), (.ref a1)])) rfl rfl (hb hby d31_30)
  have Fw20 := Fld.same W20 Fd13
  have N20 := Fr.snoc X20 N13 g_a1
  have K20 : Keep h0 h20 [a1] := K13.wr W20 (Or.inl (List.mem_of_getElem? (i := 0) rfl))
  have hk := Nat.le_trans hk (Nat.le_of_eq W20.size.symm)
  have hC := hC.trans (CHr.wr W20 (Safe.exa (hZ).alike C13 (by decide) (by decide)) hC.1)
  refine own_via (g' := (mkF m 33 #[.val (.ref a1), .val (.ref sm)] [])) st20 ?_
  have C_21 : Exa Z h20 a1 "com/example/dequeue/dequeue/RefusedException" := (Exa.wr W20 C13)
  exact own_retVW X20 hx hZ hEL hS hk hC hret hlk (hb hby d31_33) e20 (by exact ⟨rfl, N20, K20, C_21⟩) (by decide) (by decide)
theorem d30_0 : decode jdk_59_method_2_code 0 = .ok (.aload_n 0, 1) := by decide +kernel
theorem d30_1 : decode jdk_59_method_2_code 1 = .ok (.aload_n 1, 1) := by decide +kernel
theorem d30_2 : decode jdk_59_method_2_code 2 = .ok (.invokespecial 7, 3) := by decide +kernel
theorem d30_5 : decode jdk_59_method_2_code 5 = .ok (.return_, 1) := by decide +kernel
theorem pn_30 : plainName "java/lang/Exception" = true := by first | (simp [plainName, overriddenIn]; done) | decide +kernel
set_option maxRecDepth 65536 in
set_option maxHeartbeats 40000000 in
theorem rmEI (l : Launch) (Z : State) (a0 : Array Value) (hw : ∀ d ∈ tables_1, d.before a0 Z = true) (ws : List Jvm.Cond) (a1 sm : Addr) (uu ss : Value) (h0 : Heap) (n0 : Nat) (Z0 : n0 ≤ h0.size) (hst : l.stackTraces = true) (HT : ThS Z h0) (huu : uu.isRef = true) (hun : uu ≠ .null) (hss : ss.isRef = true) (S_UN : Sta Z h0 "java/lang/Throwable" "UNASSIGNED_STACK" "[Ljava/lang/StackTraceElement;" uu) (S_SE : Sta Z h0 "java/lang/Throwable" "SUPPRESSED_SENTINEL" "Ljava/util/List;" ss) (g_a1 : n0 ≤ a1) (E1 : Exa Z h0 a1 "com/example/dequeue/dequeue/RefusedException") (N1 : Unt h0 a1) (F1 : Fld Z h0 a1 "java/lang/Throwable" "cause" "Ljava/lang/Throwable;" .null) (F2 : Fld Z h0 a1 "java/lang/Throwable" "stackTrace" "[Ljava/lang/StackTraceElement;" .null) (F3 : Fld Z h0 a1 "java/lang/Throwable" "suppressedExceptions" "Ljava/util/List;" .null) (F4 : Fld Z h0 a1 "java/lang/Throwable" "backtrace" "Ljava/lang/Object;" .null) (F5 : Fld Z h0 a1 "java/lang/Throwable" "detailMessage" "Ljava/lang/String;" .null) :
    OMetK l (⟨"java/lang/Exception", "<init>", "(Ljava/lang/String;)V"⟩ : MethodName) jdk_59_method_2_code 2 none ws ({ frames := 4, cells := 1, slots := 2752, locals := 55 } : Room) Z (consts_1) #[(.ref a1), (.ref sm)] h0 (fun v h L => v = none ∧ Fr n0 L ∧ Keep h0 h [a1] ∧ Exa Z h a1 "com/example/dequeue/dequeue/RefusedException") := by
  refine own_bodyK (plainFor_of_name pn_30) ?_
  intro p e s m below meth cdx T0 X0 hx hZ hby hml hown hnm hret hlk e0 hS hC hTK hBL hsh
  have N0 := Fr.nil n0
  have hk : h0.size ≤ h0.size := Nat.le_refl _
  have hwS : ∀ d ∈ Bundle.stringAtoms, d.before a0 Z = true := fun d hd => hw d ((by decide +kernel : ∀ d ∈ Bundle.stringAtoms, d ∈ tables_1) d hd)
  refine own_entry (g' := (mkF m 0 #[.val (.ref a1), .val (.ref sm)] [])) (by first | rfl | (simp [entryFrame, mkF, argsToLocals, Value.category, maxLocals]; done)) ?_
  have KC0 := Keep.refl h0 [a1]
  have hEL : EW Z a0 consts_1 := EW.cons (hw _ (List.mem_of_getElem? (i := 159) rfl)) (by decide) (EW.cons (hw _ (List.mem_of_getElem? (i := 9) rfl)) (by decide) (EW.cons (hw _ (List.mem_of_getElem? (i := 37) rfl)) (by decide) EW.nil))
  refine own_step (g' := (mkF m 1 #[.val (.ref a1), .val (.ref sm)] [(.ref a1)])) (fun _ kont => XS.aloadN X0.here hx rfl (hb hby d30_0) rfl rfl kont) ?_
  refine own_step (g' := (mkF m 2 #[.val (.ref a1), .val (.ref sm)] [(.ref sm), (.ref a1)])) (fun _ kont => XS.aloadN X0.here hx rfl (hb hby d30_1) rfl rfl kont) ?_
  refine own_initK X0 hx hZ hEL hS hk hC hTK hBL (W := 0) hown e0 (rmTI l Z a0 hw [] a1 sm uu ss h0 n0 Z0 hst HT huu hun hss S_UN S_SE g_a1 E1 N1 F1 F2 F3 F4 F5) rfl (hw _ (List.mem_of_getElem? (i := 171) rfl)) (hw _ (List.mem_of_getElem? (i := 172) rfl)) (hw _ (List.mem_of_getElem? (i := 176) rfl)) (hw _ (List.mem_of_getElem? (i := 175) rfl)) (by decide) (by decide) (by decide) (g := (mkF m 2 #[.val (.ref a1), .val (.ref sm)] [(.ref sm), (.ref a1)])) rfl (by rw [hml]; rfl) (argsL := [(.ref sm)]) (rest := []) rfl (lenOf pd_5 rfl) rfl (by show 2 * 0 + _ ≤ _; exact Nat.le_of_eq rfl) (hb hby d30_2) (by decide) (by decide) ?_
  intro v1 T1 L1 hB1
  obtain ⟨X1, hQ1, hS, hZ, hown, hC⟩ := hB1
  have hk := Nat.le_refl T1.heap.size
  obtain ⟨rfl, Nq1, Kq1, Cx⟩ := hQ1
  have N1 := Fr.app N0 Nq1
  have K1 : Keep h0 T1.heap [a1] := KC0.trans Kq1 (allS (Or.inl (List.mem_of_getElem? (i := 0) rfl)) all0)
  show OGo p e below _ T1 (mkF m 5 #[.val (.ref a1), .val (.ref sm)] [])
  exact own_retVW X1 hx hZ hEL hS hk hC hret hlk (hb hby d30_5) rfl (by exact ⟨rfl, N1, K1, Cx⟩) (by decide) (by decide)
theorem d29_0 : decode jdk_58_method_2_code 0 = .ok (.aload_n 0, 1) := by decide +kernel
theorem d29_1 : decode jdk_58_method_2_code 1 = .ok (.aload_n 1, 1) := by decide +kernel
theorem d29_2 : decode jdk_58_method_2_code 2 = .ok (.invokespecial 7, 3) := by decide +kernel
theorem d29_5 : decode jdk_58_method_2_code 5 = .ok (.return_, 1) := by decide +kernel
theorem pn_29 : plainName "java/lang/RuntimeException" = true := by first | (simp [plainName, overriddenIn]; done) | decide +kernel
set_option maxRecDepth 65536 in
set_option maxHeartbeats 40000000 in
theorem rmRI (l : Launch) (Z : State) (a0 : Array Value) (hw : ∀ d ∈ tables_1, d.before a0 Z = true) (ws : List Jvm.Cond) (a1 sm : Addr) (uu ss : Value) (h0 : Heap) (n0 : Nat) (Z0 : n0 ≤ h0.size) (hst : l.stackTraces = true) (HT : ThS Z h0) (huu : uu.isRef = true) (hun : uu ≠ .null) (hss : ss.isRef = true) (S_UN : Sta Z h0 "java/lang/Throwable" "UNASSIGNED_STACK" "[Ljava/lang/StackTraceElement;" uu) (S_SE : Sta Z h0 "java/lang/Throwable" "SUPPRESSED_SENTINEL" "Ljava/util/List;" ss) (g_a1 : n0 ≤ a1) (E1 : Exa Z h0 a1 "com/example/dequeue/dequeue/RefusedException") (N1 : Unt h0 a1) (F1 : Fld Z h0 a1 "java/lang/Throwable" "cause" "Ljava/lang/Throwable;" .null) (F2 : Fld Z h0 a1 "java/lang/Throwable" "stackTrace" "[Ljava/lang/StackTraceElement;" .null) (F3 : Fld Z h0 a1 "java/lang/Throwable" "suppressedExceptions" "Ljava/util/List;" .null) (F4 : Fld Z h0 a1 "java/lang/Throwable" "backtrace" "Ljava/lang/Object;" .null) (F5 : Fld Z h0 a1 "java/lang/Throwable" "detailMessage" "Ljava/lang/String;" .null) :
    OMetK l (⟨"java/lang/RuntimeException", "<init>", "(Ljava/lang/String;)V"⟩ : MethodName) jdk_58_method_2_code 2 none ws ({ frames := 5, cells := 1, slots := 2752, locals := 68 } : Room) Z (consts_1) #[(.ref a1), (.ref sm)] h0 (fun v h L => v = none ∧ Fr n0 L ∧ Keep h0 h [a1] ∧ Exa Z h a1 "com/example/dequeue/dequeue/RefusedException") := by
  refine own_bodyK (plainFor_of_name pn_29) ?_
  intro p e s m below meth cdx T0 X0 hx hZ hby hml hown hnm hret hlk e0 hS hC hTK hBL hsh
  have N0 := Fr.nil n0
  have hk : h0.size ≤ h0.size := Nat.le_refl _
  have hwS : ∀ d ∈ Bundle.stringAtoms, d.before a0 Z = true := fun d hd => hw d ((by decide +kernel : ∀ d ∈ Bundle.stringAtoms, d ∈ tables_1) d hd)
  refine own_entry (g' := (mkF m 0 #[.val (.ref a1), .val (.ref sm)] [])) (by first | rfl | (simp [entryFrame, mkF, argsToLocals, Value.category, maxLocals]; done)) ?_
  have KC0 := Keep.refl h0 [a1]
  have hEL : EW Z a0 consts_1 := EW.cons (hw _ (List.mem_of_getElem? (i := 159) rfl)) (by decide) (EW.cons (hw _ (List.mem_of_getElem? (i := 9) rfl)) (by decide) (EW.cons (hw _ (List.mem_of_getElem? (i := 37) rfl)) (by decide) EW.nil))
  refine own_step (g' := (mkF m 1 #[.val (.ref a1), .val (.ref sm)] [(.ref a1)])) (fun _ kont => XS.aloadN X0.here hx rfl (hb hby d29_0) rfl rfl kont) ?_
  refine own_step (g' := (mkF m 2 #[.val (.ref a1), .val (.ref sm)] [(.ref sm), (.ref a1)])) (fun _ kont => XS.aloadN X0.here hx rfl (hb hby d29_1) rfl rfl kont) ?_
  refine own_initK X0 hx hZ hEL hS hk hC hTK hBL (W := 0) hown e0 (rmEI l Z a0 hw [] a1 sm uu ss h0 n0 Z0 hst HT huu hun hss S_UN S_SE g_a1 E1 N1 F1 F2 F3 F4 F5) rfl (hw _ (List.mem_of_getElem? (i := 165) rfl)) (hw _ (List.mem_of_getElem? (i := 166) rfl)) (hw _ (List.mem_of_getElem? (i := 170) rfl)) (hw _ (List.mem_of_getElem? (i := 169) rfl)) (by decide) (by decide) (by decide) (g := (mkF m 2 #[.val (.ref a1), .val (.ref sm)] [(.ref sm), (.ref a1)])) rfl (by rw [hml]; rfl) (argsL := [(.ref sm)]) (rest := []) rfl (lenOf pd_5 rfl) rfl (by show 2 * 0 + _ ≤ _; exact Nat.le_of_eq rfl) (hb hby d29_2) (by decide) (by decide) ?_
  intro v1 T1 L1 hB1
  obtain ⟨X1, hQ1, hS, hZ, hown, hC⟩ := hB1
  have hk := Nat.le_refl T1.heap.size
  obtain ⟨rfl, Nq1, Kq1, Cx⟩ := hQ1
  have N1 := Fr.app N0 Nq1
  have K1 : Keep h0 T1.heap [a1] := KC0.trans Kq1 (allS (Or.inl (List.mem_of_getElem? (i := 0) rfl)) all0)
  show OGo p e below _ T1 (mkF m 5 #[.val (.ref a1), .val (.ref sm)] [])
  exact own_retVW X1 hx hZ hEL hS hk hC hret hlk (hb hby d29_5) rfl (by exact ⟨rfl, N1, K1, Cx⟩) (by decide) (by decide)
theorem d28_0 : decode prog_12_method_1_code 0 = .ok (.aload_n 0, 1) := by decide +kernel
theorem d28_1 : decode prog_12_method_1_code 1 = .ok (.new 1, 3) := by decide +kernel
theorem d28_4 : decode prog_12_method_1_code 4 = .ok (.dup, 1) := by decide +kernel
theorem d28_5 : decode prog_12_method_1_code 5 = .ok (.invokespecial 3, 3) := by decide +kernel
theorem d28_8 : decode prog_12_method_1_code 8 = .ok (.aload_n 2, 1) := by decide +kernel
theorem d28_9 : decode prog_12_method_1_code 9 = .ok (.invokevirtual 7, 3) := by decide +kernel
theorem d28_12 : decode prog_12_method_1_code 12 = .ok (.ldc 11, 2) := by decide +kernel
theorem d28_14 : decode prog_12_method_1_code 14 = .ok (.invokevirtual 7, 3) := by decide +kernel
theorem d28_17 : decode prog_12_method_1_code 17 = .ok (.aload_n 3, 1) := by decide +kernel
theorem d28_18 : decode prog_12_method_1_code 18 = .ok (.invokevirtual 7, 3) := by decide +kernel
theorem d28_21 : decode prog_12_method_1_code 21 = .ok (.invokevirtual 13, 3) := by decide +kernel
theorem d28_24 : decode prog_12_method_1_code 24 = .ok (.invokespecial 17, 3) := by decide +kernel
theorem d28_27 : decode prog_12_method_1_code 27 = .ok (.aload_n 0, 1) := by decide +kernel
theorem d28_28 : decode prog_12_method_1_code 28 = .ok (.aload_n 1, 1) := by decide +kernel
theorem d28_29 : decode prog_12_method_1_code 29 = .ok (.putfield 22, 3) := by decide +kernel
theorem d28_32 : decode prog_12_method_1_code 32 = .ok (.return_, 1) := by decide +kernel
theorem pd_18 : parseMethodDescriptor "()V" = some ⟨[], none⟩ := by decide +kernel
theorem pd_19 : parseMethodDescriptor "(Ljava/lang/String;)Ljava/lang/StringBuilder;" = some ⟨[(.object "java/lang/String")], some (.object "java/lang/StringBuilder")⟩ := by decide +kernel
theorem pd_20 : parseMethodDescriptor "()Ljava/lang/String;" = some ⟨[], some (.object "java/lang/String")⟩ := by decide +kernel
theorem pn_28 : plainName "com/example/dequeue/dequeue/RefusedException" = true := by first | (simp [plainName, overriddenIn]; done) | decide +kernel
set_option maxRecDepth 65536 in
set_option maxHeartbeats 40000000 in
theorem rmRX (l : Launch) (Z : State) (a0 : Array Value) (hw : ∀ d ∈ tables_1, d.before a0 Z = true) (ws : List Jvm.Cond) (a1 kd0 s1 s2 v1 v2 : Addr) (k z : Int32) (uu ss : Value) (h0 : Heap) (n0 : Nat) (Z0 : n0 ≤ h0.size) (S_CS : Sta Z h0 "java/lang/String" "COMPACT_STRINGS" "Z" (.int z)) (hz : ¬ (z = (0 : Int32))) (hst : l.stackTraces = true) (HT : ThS Z h0) (huu : uu.isRef = true) (hun : uu ≠ .null) (hss : ss.isRef = true) (S_UN : Sta Z h0 "java/lang/Throwable" "UNASSIGNED_STACK" "[Ljava/lang/StackTraceElement;" uu) (S_SE : Sta Z h0 "java/lang/Throwable" "SUPPRESSED_SENTINEL" "Ljava/util/List;" ss) (g_a1 : n0 ≤ a1) (E1 : Exa Z h0 a1 "com/example/dequeue/dequeue/RefusedException") (N1 : Unt h0 a1) (F1 : Fld Z h0 a1 "java/lang/Throwable" "cause" "Ljava/lang/Throwable;" .null) (F2 : Fld Z h0 a1 "java/lang/Throwable" "stackTrace" "[Ljava/lang/StackTraceElement;" .null) (F3 : Fld Z h0 a1 "java/lang/Throwable" "suppressedExceptions" "Ljava/util/List;" .null) (F4 : Fld Z h0 a1 "java/lang/Throwable" "backtrace" "Ljava/lang/Object;" .null) (F5 : Fld Z h0 a1 "java/lang/Throwable" "detailMessage" "Ljava/lang/String;" .null) (Fk : Fld Z h0 a1 "com/example/dequeue/dequeue/RefusedException" "kind" "Lcom/example/dequeue/dequeue/RefusedException$Kind;" .null) (Es1 : Exa Z h0 s1 "java/lang/String") (Gv1 : Fld Z h0 s1 "java/lang/String" "value" "[B" (.ref v1)) (Gc1 : Fld Z h0 s1 "java/lang/String" "coder" "B" (.int (0 : Int32))) (Bs1 : OBy Z h0 v1 (2 : Int32)) (Es2 : Exa Z h0 s2 "java/lang/String") (Gv2 : Fld Z h0 s2 "java/lang/String" "value" "[B" (.ref v2)) (Gc2 : Fld Z h0 s2 "java/lang/String" "coder" "B" (.int (0 : Int32))) (Bs2 : OBy Z h0 v2 k) (hk0 : 0 ≤ k.toInt) (hk30 : k.toInt ≤ 30) :
    OMetK l (⟨"com/example/dequeue/dequeue/RefusedException", "<init>", "(Lcom/example/dequeue/dequeue/RefusedException$Kind;Ljava/lang/String;Ljava/lang/String;)V"⟩ : MethodName) prog_12_method_1_code 4 none ws ({ frames := 6, cells := 8, slots := 2856, locals := 114 } : Room) Z (consts_1) #[(.ref a1), (.ref kd0), (.ref s1), (.ref s2)] h0 (fun v h L => v = none ∧ Fr n0 L ∧ Keep h0 h [a1] ∧ Exa Z h a1 "com/example/dequeue/dequeue/RefusedException" ∧ Fld Z h a1 "com/example/dequeue/dequeue/RefusedException" "kind" "Lcom/example/dequeue/dequeue/RefusedException$Kind;" (.ref kd0)) := by
  refine own_bodyK (plainFor_of_name pn_28) ?_
  intro p e s m below meth cdx T0 X0 hx hZ hby hml hown hnm hret hlk e0 hS hC hTK hBL hsh
  have N0 := Fr.nil n0
  have hk : h0.size ≤ h0.size := Nat.le_refl _
  have hwS : ∀ d ∈ Bundle.stringAtoms, d.before a0 Z = true := fun d hd => hw d ((by decide +kernel : ∀ d ∈ Bundle.stringAtoms, d ∈ tables_1) d hd)
  refine own_entry (g' := (mkF m 0 #[.val (.ref a1), .val (.ref kd0), .val (.ref s1), .val (.ref s2)] [])) (by first | rfl | (simp [entryFrame, mkF, argsToLocals, Value.category, maxLocals]; done)) ?_
  have KC0 := Keep.refl h0 [a1]
  have hEL : EW Z a0 consts_1 := EW.cons (hw _ (List.mem_of_getElem? (i := 159) rfl)) (by decide) (EW.cons (hw _ (List.mem_of_getElem? (i := 9) rfl)) (by decide) (EW.cons (hw _ (List.mem_of_getElem? (i := 37) rfl)) (by decide) EW.nil))
  have hEL : EW Z a0 consts_1 := EW.cons (hw _ (List.mem_of_getElem? (i := 159) rfl)) (by decide) (EW.cons (hw _ (List.mem_of_getElem? (i := 9) rfl)) (by decide) (EW.cons (hw _ (List.mem_of_getElem? (i := 37) rfl)) (by decide) EW.nil))
  refine own_step (g' := (mkF m 1 #[.val (.ref a1), .val (.ref kd0), .val (.ref s1), .val (.ref s2)] [(.ref a1)])) (fun _ kont => XS.aloadN X0.here hx rfl (hb hby d28_0) rfl rfl kont) ?_
  obtain ⟨T1, h1, X1, e1, Ex1, A1, D1, Un1, st1⟩ := newO X0 hx hZ hown (hw _ (List.mem_of_getElem? (i := 17) rfl)) (hw _ (List.mem_of_getElem? (i := 18) rfl)) (hw _ (List.mem_of_getElem? (i := 19) rfl)) e0 (g := (mkF m 1 #[.val (.ref a1), .val (.ref kd0), .val (.ref s1), .val (.ref s2)] [(.ref a1)])) rfl (hb hby d28_1) (by decide) (by decide)
  obtain ⟨nb1, g1⟩ : ∃ z, z = h0.size := ⟨_, rfl⟩
  rw [← g1] at A1 D1 Un1 st1
  have g_nb1 : n0 ≤ nb1 := Nat.le_trans Z0 (Nat.le_of_eq g1.symm)
  have ne_a1_nb1 : a1 ≠ nb1 := Nat.ne_of_lt (Nat.lt_of_lt_of_le E1.lt (Nat.le_of_eq g1.symm))
  have ne_s1_nb1 : s1 ≠ nb1 := Nat.ne_of_lt (Nat.lt_of_lt_of_le Es1.lt (Nat.le_of_eq g1.symm))
  have ne_v1_nb1 : v1 ≠ nb1 := Nat.ne_of_lt (Nat.lt_of_lt_of_le Bs1.lt (Nat.le_of_eq g1.symm))
  have ne_s2_nb1 : s2 ≠ nb1 := Nat.ne_of_lt (Nat.lt_of_lt_of_le Es2.lt (Nat.le_of_eq g1.symm))
  have ne_v2_nb1 : v2 ≠ nb1 := Nat.ne_of_lt (Nat.lt_of_lt_of_le Bs2.lt (Nat.le_of_eq g1.symm))
  have sz_nb1 : h0.size ≤ nb1 := Nat.le_trans KC0.1 (Nat.le_of_eq g1.symm)
  have K1 : Keep h0 h1 [a1] := KC0.ext Ex1
  have hk := Nat.le_trans hk Ex1.1
  have hC := hC.trans (CHr.ext Ex1 hC.1)
  have F1_value : Fld Z h1 nb1 "java/lang/AbstractStringBuilder" "value" "[B" .null := D1 (Or.inl (hw _ (List.mem_of_getElem? (i := 34) rfl))) (ty := (.array .byte)) (by decide)
  have F1_coder : Fld Z h1 nb1 "java/lang/AbstractStringBuilder" "coder" "B" (.int (0 : Int32)) := D1 (Or.inl (hw _ (List.mem_of_getElem? (i := 36) rfl))) (ty := .byte) (by decide)
  have F1_count : Fld Z h1 nb1 "java/lang/AbstractStringBuilder" "count" "I" (.int (0 : Int32)) := D1 (Or.inl (hw _ (List.mem_of_getElem? (i := 62) rfl))) (ty := .int) (by decide)
  refine own_via (g' := (mkF m 4 #[.val (.ref a1), .val (.ref kd0), .val (.ref s1), .val (.ref s2)] [(.ref nb1), (.ref a1)])) st1 ?_
  refine own_step (g' := (mkF m 5 #[.val (.ref a1), .val (.ref kd0), .val (.ref s1), .val (.ref s2)] [(.ref nb1), (.ref nb1), (.ref a1)])) (fun _ kont => XS.dup X1.here hx rfl (hb hby d28_4) rfl rfl kont) ?_
  have C_4 : Exa Z h1 a1 "com/example/dequeue/dequeue/RefusedException" := (Exa.ext Ex1 E1)
  have C_5 : Exa Z h1 s1 "java/lang/String" := (Exa.ext Ex1 Es1)
  have By_6 : OBy Z h1 v1 (2 : Int32) := (Bs1.ext Ex1)
  have C_7 : Exa Z h1 s2 "java/lang/String" := (Exa.ext Ex1 Es2)
  have By_8 : OBy Z h1 v2 k := (Bs2.ext Ex1)
  have S_9 : Sta Z h1 "java/lang/String" "COMPACT_STRINGS" "Z" (.int z) := (Sta.ext Ex1 S_CS)
  refine own_init X1 hx hZ (W := 2) hown e1 (rmSi l Z a0 hw [] nb1 z h1 n0 (Nat.le_trans Z0 Ex1.1) S_9 hz g_nb1 A1 F1_value F1_coder F1_count) rfl (hw _ (List.mem_of_getElem? (i := 20) rfl)) (hw _ (List.mem_of_getElem? (i := 21) rfl)) (hw _ (List.mem_of_getElem? (i := 22) rfl)) (hw _ (List.mem_of_getElem? (i := 19) rfl)) (by decide) (by decide) (by decide) (g := (mkF m 5 #[.val (.ref a1), .val (.ref kd0), .val (.ref s1), .val (.ref s2)] [(.ref nb1), (.ref nb1), (.ref a1)])) rfl (by rw [hml]; rfl) (argsL := []) (rest := [(.ref nb1), (.ref a1)]) rfl (lenOf pd_18 rfl) rfl (by show 2 * 0 + _ ≤ _; exact Nat.le_of_eq rfl) (hb hby d28_5) (by decide) (by decide) ?_
  intro v10 T10 L10 X10 hQ10
  obtain ⟨rfl, ⟨ar2, szbq3, g_ar2, Bq3, Eq3, Sq3, Vq3, Kcq3, Mq3⟩, Nq10, Kq10⟩ := hQ10
  have N10 := Fr.app N0 Nq10
  have K10 : Keep h0 T10.heap [a1] := K1.trans Kq10 (allS (Or.inr sz_nb1) all0)
  have hk := Nat.le_trans hk Kq10.1
  have SFKq10_ar2 := Safe.keep Kq10 (sfS (Safe.exa (hZ).alike A1 (by decide) (by decide)) sf0) hC.1 (Safe.new szbq3)
  have hC := hC.trans (CHr.keep Kq10 (sfS (Safe.exa (hZ).alike A1 (by decide) (by decide)) sf0) hC.1)
  have sz_ar2 : h0.size ≤ ar2 := Nat.le_trans K1.1 szbq3
  show OGo p e below _ T10 (mkF m 8 #[.val (.ref a1), .val (.ref kd0), .val (.ref s1), .val (.ref s2)] [(.ref nb1), (.ref a1)])
  have ne_a1_ar2 : a1 ≠ ar2 := Nat.ne_of_lt (Nat.lt_of_lt_of_le C_4.lt szbq3)
  have ne_s1_ar2 : s1 ≠ ar2 := Nat.ne_of_lt (Nat.lt_of_lt_of_le C_5.lt szbq3)
  have ne_v1_ar2 : v1 ≠ ar2 := Nat.ne_of_lt (Nat.lt_of_lt_of_le By_6.lt szbq3)
  have ne_s2_ar2 : s2 ≠ ar2 := Nat.ne_of_lt (Nat.lt_of_lt_of_le C_7.lt szbq3)
  have ne_v2_ar2 : v2 ≠ ar2 := Nat.ne_of_lt (Nat.lt_of_lt_of_le By_8.lt szbq3)
  have ne_nb1_ar2 : nb1 ≠ ar2 := Nat.ne_of_lt (Nat.lt_of_lt_of_le A1.lt szbq3)
  refine own_step (g' := (mkF m 9 #[.val (.ref a1), .val (.ref kd0), .val (.ref s1), .val (.ref s2)] [(.ref s1), (.ref nb1), (.ref a1)])) (fun _ kont => XS.aloadN X10.here hx rfl (hb hby d28_8) rfl rfl kont) ?_
  have S_12 : Sta Z T10.heap "java/lang/String" "COMPACT_STRINGS" "Z" (.int z) := (own_sta_keep S_9 Kq10 (allS (own_nsE A1) all0))
  have C_13 : Exa Z T10.heap s1 "java/lang/String" := (C_5.keep Kq10)
  have F_14 : Fld Z T10.heap s1 "java/lang/String" "value" "[B" (.ref v1) := ((Fld.ext Ex1 Gv1).keep Kq10 (ninS ne_s1_nb1 nin0))
  have F_15 : Fld Z T10.heap s1 "java/lang/String" "coder" "B" (.int (0 : Int32)) := ((Fld.ext Ex1 Gc1).keep Kq10 (ninS ne_s1_nb1 nin0))
  have By_16 : OBy Z T10.heap v1 (2 : Int32) := (By_6.keep Kq10 (ninS ne_v1_nb1 nin0))
  refine own_callV X10 hx hZ (W := 1) hown rfl (rmSN l Z a0 hw [] nb1 ar2 s1 v1 (0 : Int32) (2 : Int32) z T10.heap n0 (Nat.le_trans (Nat.le_trans Z0 Ex1.1) Kq10.1) S_12 hz g_nb1 g_ar2 Sq3 Vq3 Kcq3 Mq3 Bq3 C_13 F_14 F_15 By_16 (by decide) (by decide) (by decide)) Sq3 (hw _ (List.mem_of_getElem? (i := 38) rfl)) (hw _ (List.mem_of_getElem? (i := 39) rfl)) (notFace_of_selects (args := #[]) (mvT hZ (hw _ (List.mem_of_getElem? (i := 41) rfl)))) (hw _ (List.mem_of_getElem? (i := 41) rfl)) (hw _ (List.mem_of_getElem? (i := 40) rfl)) (hw _ (List.mem_of_getElem? (i := 42) rfl)) (hw _ (List.mem_of_getElem? (i := 19) rfl)) (by decide) (by decide) (by decide) (g := (mkF m 9 #[.val (.ref a1), .val (.ref kd0), .val (.ref s1), .val (.ref s2)] [(.ref s1), (.ref nb1), (.ref a1)])) rfl (by rw [hml]; rfl) (argsL := [(.ref s1)]) (rest := [(.ref a1)]) rfl (lenOf pd_19 rfl) rfl (by show 2 * 0 + _ ≤ _; exact Nat.le_of_eq rfl) (hb hby d28_9) (by decide) (by decide) ?_
  intro v17 T17 L17 X17 hQ17
  obtain ⟨rfl, Nq17, Kq17, Bq11, Eq11, Vq11, Kcq11, Mq11⟩ := hQ17
  have N17 := Fr.app N10 Nq17
  have K17 : Keep h0 T17.heap [a1] := K10.trans Kq17 (allS (Or.inr sz_nb1) (allS (Or.inr sz_ar2) all0))
  have hk := Nat.le_trans hk Kq17.1
  have SFKq17_ar2 := Safe.keep Kq17 (sfS (Safe.exa (hZ).alike Sq3 (by decide) (by decide)) (sfS SFKq10_ar2 sf0)) hC.1 SFKq10_ar2
  have hC := hC.trans (CHr.keep Kq17 (sfS (Safe.exa (hZ).alike Sq3 (by decide) (by decide)) (sfS SFKq10_ar2 sf0)) hC.1)
  show OGo p e below _ T17 (mkF m 12 #[.val (.ref a1), .val (.ref kd0), .val (.ref s1), .val (.ref s2)] [(.ref nb1), (.ref a1)])
  have C_19 : Exa Z T17.heap ar2 "[B" := (Eq3.keep Kq17)
  obtain ⟨nb18, T18, h18, kk18, d18, kd18, X18, e18, Ex18, hS, hk, hZ, hown, C18, Fc18, Fv18, Vv18, -, -, hC18, -, hne18, st18⟩ := ldcCH (vm0 := _) X17 hx hZ hown (hw _ (List.mem_of_getElem? (i := 159) rfl)) hwS rfl hS hk hEL (by simp [consts_1]) hC.1 (vs := [(.int (58 : Int32)), (.int (32 : Int32))]) (z := (2 : Int32)) (by decide +kernel) (by decide) rfl (g := (mkF m 12 #[.val (.ref a1), .val (.ref kd0), .val (.ref s1), .val (.ref s2)] [(.ref nb1), (.ref a1)])) rfl (hb hby d28_12) (n := 8) (by decide) (by decide) (by decide) (by decide)
  have SF18_ar2 := hC18.safe C_19.lt SFKq17_ar2
  have hC := hC.trans hC18
  have K18 : Keep h0 h18 [a1] := K17.ext Ex18
  have Bv18 := own_by_arv Vv18 (by decide)
  have ne_ar2_nb18 := (hne18 _ SF18_ar2).1
  have ne_ar2_d18 := (hne18 _ SF18_ar2).2
  have C_20 : Exa Z h18 a1 "com/example/dequeue/dequeue/RefusedException" := (Exa.ext Ex18 ((C_4.keep Kq10).keep Kq17))
  have ne_a1_nb18 : a1 ≠ nb18 := Exa.ne C_20 C18 (by decide)
  have ne_a1_d18 : a1 ≠ d18 := own_neB C_20 Bv18 (hw _ (List.mem_of_getElem? (i := 5) rfl))
  have C_21 : Exa Z h18 nb1 "java/lang/StringBuilder" := (Exa.ext Ex18 Eq11)
  have ne_nb1_nb18 : nb1 ≠ nb18 := Exa.ne C_21 C18 (by decide)
  have ne_nb1_d18 : nb1 ≠ d18 := own_neB C_21 Bv18 (hw _ (List.mem_of_getElem? (i := 18) rfl))
  refine own_via (g' := (mkF m 14 #[.val (.ref a1), .val (.ref kd0), .val (.ref s1), .val (.ref s2)] [(.ref nb18), (.ref nb1), (.ref a1)])) st18 ?_
  have S_23 : Sta Z h18 "java/lang/String" "COMPACT_STRINGS" "Z" (.int z) := (Sta.ext Ex18 (own_sta_keep S_12 Kq17 (allS (own_nsE Sq3) (allS (own_nsE Eq3) all0))))
  have F_24 : Fld Z h18 nb1 "java/lang/AbstractStringBuilder" "value" "[B" (.ref ar2) := (Fld.ext Ex18 Vq11)
  have F_25 : Fld Z h18 nb1 "java/lang/AbstractStringBuilder" "coder" "B" (.int (0 : Int32)) := (Fld.ext Ex18 Kcq11)
  have F_26 : Fld Z h18 nb1 "java/lang/AbstractStringBuilder" "count" "I" (.int (2 : Int32)) := (Fld.ext Ex18 Mq11)
  have By_27 : OBy Z h18 ar2 (16 : Int32) := (Bq11.ext Ex18)
  have C_28 : Exa Z h18 ar2 "[B" := (Exa.ext Ex18 C_19)
  refine own_callV X18 hx hZ (W := 1) hown e18 (rmSN l Z a0 hw [] nb1 ar2 nb18 d18 (2 : Int32) (2 : Int32) z h18 n0 (Nat.le_trans (Nat.le_trans (Nat.le_trans (Nat.le_trans Z0 Ex1.1) Kq10.1) Kq17.1) Ex18.1) S_23 hz g_nb1 g_ar2 C_21 F_24 F_25 F_26 By_27 C18 Fv18 Fc18 Bv18 (by decide) (by decide) (by decide)) C_21 (hw _ (List.mem_of_getElem? (i := 38) rfl)) (hw _ (List.mem_of_getElem? (i := 39) rfl)) (notFace_of_selects (args := #[]) (mvT hZ (hw _ (List.mem_of_getElem? (i := 41) rfl)))) (hw _ (List.mem_of_getElem? (i := 41) rfl)) (hw _ (List.mem_of_getElem? (i := 40) rfl)) (hw _ (List.mem_of_getElem? (i := 42) rfl)) (hw _ (List.mem_of_getElem? (i := 19) rfl)) (by decide) (by decide) (by decide) (g := (mkF m 14 #[.val (.ref a1), .val (.ref kd0), .val (.ref s1), .val (.ref s2)] [(.ref nb18), (.ref nb1), (.ref a1)])) rfl (by rw [hml]; rfl) (argsL := [(.ref nb18)]) (rest := [(.ref a1)]) rfl (lenOf pd_19 rfl) rfl (by show 2 * 0 + _ ≤ _; exact Nat.le_of_eq rfl) (hb hby d28_14) (by decide) (by decide) ?_
  intro v29 T29 L29 X29 hQ29
  obtain ⟨rfl, Nq29, Kq29, Bq22, Eq22, Vq22, Kcq22, Mq22⟩ := hQ29
  have N29 := Fr.app N17 Nq29
  have K29 : Keep h0 T29.heap [a1] := K18.trans Kq29 (allS (Or.inr sz_nb1) (allS (Or.inr sz_ar2) all0))
  have hk := Nat.le_trans hk Kq29.1
  have SFKq29_ar2 := Safe.keep Kq29 (sfS (Safe.exa (hZ).alike C_21 (by decide) (by decide)) (sfS SF18_ar2 sf0)) hC.1 SF18_ar2
  have hC := hC.trans (CHr.keep Kq29 (sfS (Safe.exa (hZ).alike C_21 (by decide) (by decide)) (sfS SF18_ar2 sf0)) hC.1)
  show OGo p e below _ T29 (mkF m 17 #[.val (.ref a1), .val (.ref kd0), .val (.ref s1), .val (.ref s2)] [(.ref nb1), (.ref a1)])
  refine own_step (g' := (mkF m 18 #[.val (.ref a1), .val (.ref kd0), .val (.ref s1), .val (.ref s2)] [(.ref s2), (.ref nb1), (.ref a1)])) (fun _ kont => XS.aloadN X29.here hx rfl (hb hby d28_17) rfl rfl kont) ?_
  by_cases hg4 : (4 : Int32).toInt + k.toInt ≤ 16
  · have S_31 : Sta Z T29.heap "java/lang/String" "COMPACT_STRINGS" "Z" (.int z) := (own_sta_keep S_23 Kq29 (allS (own_nsE C_21) (allS (own_nsE C_28) all0)))
    have C_32 : Exa Z T29.heap s2 "java/lang/String" := ((Exa.ext Ex18 ((C_7.keep Kq10).keep Kq17)).keep Kq29)
    have F_33 : Fld Z T29.heap s2 "java/lang/String" "value" "[B" (.ref v2) := ((Fld.ext Ex18 (((Fld.ext Ex1 Gv2).keep Kq10 (ninS ne_s2_nb1 nin0)).keep Kq17 (ninS ne_s2_nb1 (ninS ne_s2_ar2 nin0)))).keep Kq29 (ninS ne_s2_nb1 (ninS ne_s2_ar2 nin0)))
    have F_34 : Fld Z T29.heap s2 "java/lang/String" "coder" "B" (.int (0 : Int32)) := ((Fld.ext Ex18 (((Fld.ext Ex1 Gc2).keep Kq10 (ninS ne_s2_nb1 nin0)).keep Kq17 (ninS ne_s2_nb1 (ninS ne_s2_ar2 nin0)))).keep Kq29 (ninS ne_s2_nb1 (ninS ne_s2_ar2 nin0)))
    have By_35 : OBy Z T29.heap v2 k := ((((By_8.keep Kq10 (ninS ne_v2_nb1 nin0)).keep Kq17 (ninS ne_v2_nb1 (ninS ne_v2_ar2 nin0))).ext Ex18).keep Kq29 (ninS ne_v2_nb1 (ninS ne_v2_ar2 nin0)))
    have C_36 : Exa Z T29.heap ar2 "[B" := (C_28.keep Kq29)
    refine own_callV X29 hx hZ (W := 1) hown rfl (rmSN l Z a0 hw [] nb1 ar2 s2 v2 (4 : Int32) k z T29.heap n0 (Nat.le_trans (Nat.le_trans (Nat.le_trans (Nat.le_trans (Nat.le_trans Z0 Ex1.1) Kq10.1) Kq17.1) Ex18.1) Kq29.1) S_31 hz g_nb1 g_ar2 Eq22 Vq22 Kcq22 Mq22 Bq22 C_32 F_33 F_34 By_35 (by decide) hk0 hg4) Eq22 (hw _ (List.mem_of_getElem? (i := 38) rfl)) (hw _ (List.mem_of_getElem? (i := 39) rfl)) (notFace_of_selects (args := #[]) (mvT hZ (hw _ (List.mem_of_getElem? (i := 41) rfl)))) (hw _ (List.mem_of_getElem? (i := 41) rfl)) (hw _ (List.mem_of_getElem? (i := 40) rfl)) (hw _ (List.mem_of_getElem? (i := 42) rfl)) (hw _ (List.mem_of_getElem? (i := 19) rfl)) (by decide) (by decide) (by decide) (g := (mkF m 18 #[.val (.ref a1), .val (.ref kd0), .val (.ref s1), .val (.ref s2)] [(.ref s2), (.ref nb1), (.ref a1)])) rfl (by rw [hml]; rfl) (argsL := [(.ref s2)]) (rest := [(.ref a1)]) rfl (lenOf pd_19 rfl) rfl (by show 2 * 0 + _ ≤ _; exact Nat.le_of_eq rfl) (hb hby d28_18) (by decide) (by decide) ?_
    intro v37 T37 L37 X37 hQ37
    obtain ⟨rfl, Nq37, Kq37, Bq30, Eq30, Vq30, Kcq30, Mq30⟩ := hQ37
    have N37 := Fr.app N29 Nq37
    have K37 : Keep h0 T37.heap [a1] := K29.trans Kq37 (allS (Or.inr sz_nb1) (allS (Or.inr sz_ar2) all0))
    have hk := Nat.le_trans hk Kq37.1
    have SFKq37_ar2 := Safe.keep Kq37 (sfS (Safe.exa (hZ).alike Eq22 (by decide) (by decide)) (sfS SFKq29_ar2 sf0)) hC.1 SFKq29_ar2
    have hC := hC.trans (CHr.keep Kq37 (sfS (Safe.exa (hZ).alike Eq22 (by decide) (by decide)) (sfS SFKq29_ar2 sf0)) hC.1)
    show OGo p e below _ T37 (mkF m 21 #[.val (.ref a1), .val (.ref kd0), .val (.ref s1), .val (.ref s2)] [(.ref nb1), (.ref a1)])
    have C_39 : Exa Z T37.heap a1 "com/example/dequeue/dequeue/RefusedException" := ((C_20.keep Kq29).keep Kq37)
    have C_40 : Exa Z T37.heap s1 "java/lang/String" := (((Exa.ext Ex18 (C_13.keep Kq17)).keep Kq29).keep Kq37)
    have By_41 : OBy Z T37.heap v1 (2 : Int32) := ((((By_16.keep Kq17 (ninS ne_v1_nb1 (ninS ne_v1_ar2 nin0))).ext Ex18).keep Kq29 (ninS ne_v1_nb1 (ninS ne_v1_ar2 nin0))).keep Kq37 (ninS ne_v1_nb1 (ninS ne_v1_ar2 nin0)))
    have C_42 : Exa Z T37.heap s2 "java/lang/String" := (C_32.keep Kq37)
    have By_43 : OBy Z T37.heap v2 k := (By_35.keep Kq37 (ninS ne_v2_nb1 (ninS ne_v2_ar2 nin0)))
    have C_44 : Exa Z T37.heap nb18 "java/lang/String" := ((C18.keep Kq29).keep Kq37)
    have By_45 : OBy Z T37.heap d18 (2 : Int32) := ((Bv18.keep Kq29 (ninS (Ne.symm ne_nb1_d18) (ninS (Ne.symm ne_ar2_d18) nin0))).keep Kq37 (ninS (Ne.symm ne_nb1_d18) (ninS (Ne.symm ne_ar2_d18) nin0)))
    have S_46 : Sta Z T37.heap "java/lang/String" "COMPACT_STRINGS" "Z" (.int z) := (own_sta_keep S_31 Kq37 (allS (own_nsE Eq22) (allS (own_nsE C_36) all0)))
    have C_47 : Exa Z T37.heap ar2 "[B" := (C_36.keep Kq37)
    refine own_callV X37 hx hZ (W := 1) hown rfl (rmTS l Z a0 hw [] nb1 ar2 ((4 : Int32) + k) (16 : Int32) z T37.heap n0 (Nat.le_trans (Nat.le_trans (Nat.le_trans (Nat.le_trans (Nat.le_trans (Nat.le_trans Z0 Ex1.1) Kq10.1) Kq17.1) Ex18.1) Kq29.1) Kq37.1) S_46 hz Eq30 Vq30 Kcq30 Mq30 Bq30 C_47 (by rw [(own_add (x := (4 : Int32)) (y := k) (by decide) hk0 (by rw [own_i4]; omega))]; rw [own_i4]; omega) (by rw [(own_add (x := (4 : Int32)) (y := k) (by decide) hk0 (by rw [own_i4]; omega))]; rw [own_i4, own_i16]; rw [own_i4] at hg4; omega) (by decide)) Eq30 (hw _ (List.mem_of_getElem? (i := 113) rfl)) (hw _ (List.mem_of_getElem? (i := 114) rfl)) (notFace_of_selects (args := #[]) (mvT hZ (hw _ (List.mem_of_getElem? (i := 116) rfl)))) (hw _ (List.mem_of_getElem? (i := 116) rfl)) (hw _ (List.mem_of_getElem? (i := 115) rfl)) (hw _ (List.mem_of_getElem? (i := 117) rfl)) (hw _ (List.mem_of_getElem? (i := 19) rfl)) (by decide) (by decide) (by decide) (g := (mkF m 21 #[.val (.ref a1), .val (.ref kd0), .val (.ref s1), .val (.ref s2)] [(.ref nb1), (.ref a1)])) rfl (by rw [hml]; rfl) (argsL := []) (rest := [(.ref a1)]) rfl (lenOf pd_20 rfl) rfl (by show 2 * 0 + _ ≤ _; exact Nat.le_of_eq rfl) (hb hby d28_21) (by decide) (by decide) ?_
    intro v48 T48 L48 X48 hQ48
    obtain ⟨⟨saq38, vaq38, rfl, szsq38, szvq38, Eq38, Vq38, Kcq38, Bq38⟩, Nq48, Kq48⟩ := hQ48
    have N48 := Fr.app N37 Nq48
    have K48 : Keep h0 T48.heap [a1] := K37.trans Kq48 all0
    have hk := Nat.le_trans hk Kq48.1
    have SFKq48_ar2 := Safe.keep Kq48 sf0 hC.1 SFKq37_ar2
    have hC := hC.trans (CHr.keep Kq48 sf0 hC.1)
    show OGo p e below _ T48 (mkF m 24 #[.val (.ref a1), .val (.ref kd0), .val (.ref s1), .val (.ref s2)] [(.ref saq38), (.ref a1)])
    have ne_a1_saq38 : a1 ≠ saq38 := Nat.ne_of_lt (Nat.lt_of_lt_of_le C_39.lt szsq38)
    have ne_a1_vaq38 : a1 ≠ vaq38 := Nat.ne_of_lt (Nat.lt_of_lt_of_le C_39.lt szvq38)
    have ne_s1_saq38 : s1 ≠ saq38 := Nat.ne_of_lt (Nat.lt_of_lt_of_le C_40.lt szsq38)
    have ne_s1_vaq38 : s1 ≠ vaq38 := Nat.ne_of_lt (Nat.lt_of_lt_of_le C_40.lt szvq38)
    have ne_v1_saq38 : v1 ≠ saq38 := Nat.ne_of_lt (Nat.lt_of_lt_of_le By_41.lt szsq38)
    have ne_v1_vaq38 : v1 ≠ vaq38 := Nat.ne_of_lt (Nat.lt_of_lt_of_le By_41.lt szvq38)
    have ne_s2_saq38 : s2 ≠ saq38 := Nat.ne_of_lt (Nat.lt_of_lt_of_le C_42.lt szsq38)
    have ne_s2_vaq38 : s2 ≠ vaq38 := Nat.ne_of_lt (Nat.lt_of_lt_of_le C_42.lt szvq38)
    have ne_v2_saq38 : v2 ≠ saq38 := Nat.ne_of_lt (Nat.lt_of_lt_of_le By_43.lt szsq38)
    have ne_v2_vaq38 : v2 ≠ vaq38 := Nat.ne_of_lt (Nat.lt_of_lt_of_le By_43.lt szvq38)
    have ne_nb1_saq38 : nb1 ≠ saq38 := Nat.ne_of_lt (Nat.lt_of_lt_of_le Eq30.lt szsq38)
    have ne_nb1_vaq38 : nb1 ≠ vaq38 := Nat.ne_of_lt (Nat.lt_of_lt_of_le Eq30.lt szvq38)
    have ne_ar2_saq38 : ar2 ≠ saq38 := Nat.ne_of_lt (Nat.lt_of_lt_of_le Bq30.lt szsq38)
    have ne_ar2_vaq38 : ar2 ≠ vaq38 := Nat.ne_of_lt (Nat.lt_of_lt_of_le Bq30.lt szvq38)
    have ne_nb18_saq38 : nb18 ≠ saq38 := Nat.ne_of_lt (Nat.lt_of_lt_of_le C_44.lt szsq38)
    have ne_nb18_vaq38 : nb18 ≠ vaq38 := Nat.ne_of_lt (Nat.lt_of_lt_of_le C_44.lt szvq38)
    have ne_d18_saq38 : d18 ≠ saq38 := Nat.ne_of_lt (Nat.lt_of_lt_of_le By_45.lt szsq38)
    have ne_d18_vaq38 : d18 ≠ vaq38 := Nat.ne_of_lt (Nat.lt_of_lt_of_le By_45.lt szvq38)
    have F_49 : Fld Z T48.heap a1 "com/example/dequeue/dequeue/RefusedException" "kind" "Lcom/example/dequeue/dequeue/RefusedException$Kind;" .null := ((((Fld.ext Ex18 (((Fld.ext Ex1 Fk).keep Kq10 (ninS ne_a1_nb1 nin0)).keep Kq17 (ninS ne_a1_nb1 (ninS ne_a1_ar2 nin0)))).keep Kq29 (ninS ne_a1_nb1 (ninS ne_a1_ar2 nin0))).keep Kq37 (ninS ne_a1_nb1 (ninS ne_a1_ar2 nin0))).keep Kq48 nin0)
    have Th_51 : ThS Z T48.heap := (ThS.keep Kq48 all0 (ThS.keep Kq37 (allS (own_nsE Eq22) (allS (own_nsE C_36) all0)) (ThS.keep Kq29 (allS (own_nsE C_21) (allS (own_nsE C_28) all0)) (ThS.ext Ex18 (ThS.keep Kq17 (allS (own_nsE Sq3) (allS (own_nsE Eq3) all0)) (ThS.keep Kq10 (allS (own_nsE A1) all0) (ThS.ext Ex1 HT)))))))
    have S_52 : Sta Z T48.heap "java/lang/Throwable" "UNASSIGNED_STACK" "[Ljava/lang/StackTraceElement;" uu := (own_sta_keep (own_sta_keep (own_sta_keep (Sta.ext Ex18 (own_sta_keep (own_sta_keep (Sta.ext Ex1 S_UN) Kq10 (allS (own_nsE A1) all0)) Kq17 (allS (own_nsE Sq3) (allS (own_nsE Eq3) all0)))) Kq29 (allS (own_nsE C_21) (allS (own_nsE C_28) all0))) Kq37 (allS (own_nsE Eq22) (allS (own_nsE C_36) all0))) Kq48 all0)
    have S_53 : Sta Z T48.heap "java/lang/Throwable" "SUPPRESSED_SENTINEL" "Ljava/util/List;" ss := (own_sta_keep (own_sta_keep (own_sta_keep (Sta.ext Ex18 (own_sta_keep (own_sta_keep (Sta.ext Ex1 S_SE) Kq10 (allS (own_nsE A1) all0)) Kq17 (allS (own_nsE Sq3) (allS (own_nsE Eq3) all0)))) Kq29 (allS (own_nsE C_21) (allS (own_nsE C_28) all0))) Kq37 (allS (own_nsE Eq22) (allS (own_nsE C_36) all0))) Kq48 all0)
    have C_54 : Exa Z T48.heap a1 "com/example/dequeue/dequeue/RefusedException" := (C_39.keep Kq48)
    have Un_55 : Unt T48.heap a1 := (Unt.keep Kq48 nin0 (Unt.keep Kq37 (ninS ne_a1_nb1 (ninS ne_a1_ar2 nin0)) (Unt.keep Kq29 (ninS ne_a1_nb1 (ninS ne_a1_ar2 nin0)) (Unt.ext Ex18 (Unt.keep Kq17 (ninS ne_a1_nb1 (ninS ne_a1_ar2 nin0)) (Unt.keep Kq10 (ninS ne_a1_nb1 nin0) (Unt.ext Ex1 N1)))))))
    have F_56 : Fld Z T48.heap a1 "java/lang/Throwable" "cause" "Ljava/lang/Throwable;" .null := ((((Fld.ext Ex18 (((Fld.ext Ex1 F1).keep Kq10 (ninS ne_a1_nb1 nin0)).keep Kq17 (ninS ne_a1_nb1 (ninS ne_a1_ar2 nin0)))).keep Kq29 (ninS ne_a1_nb1 (ninS ne_a1_ar2 nin0))).keep Kq37 (ninS ne_a1_nb1 (ninS ne_a1_ar2 nin0))).keep Kq48 nin0)
    have F_57 : Fld Z T48.heap a1 "java/lang/Throwable" "stackTrace" "[Ljava/lang/StackTraceElement;" .null := ((((Fld.ext Ex18 (((Fld.ext Ex1 F2).keep Kq10 (ninS ne_a1_nb1 nin0)).keep Kq17 (ninS ne_a1_nb1 (ninS ne_a1_ar2 nin0)))).keep Kq29 (ninS ne_a1_nb1 (ninS ne_a1_ar2 nin0))).keep Kq37 (ninS ne_a1_nb1 (ninS ne_a1_ar2 nin0))).keep Kq48 nin0)
    have F_58 : Fld Z T48.heap a1 "java/lang/Throwable" "suppressedExceptions" "Ljava/util/List;" .null := ((((Fld.ext Ex18 (((Fld.ext Ex1 F3).keep Kq10 (ninS ne_a1_nb1 nin0)).keep Kq17 (ninS ne_a1_nb1 (ninS ne_a1_ar2 nin0)))).keep Kq29 (ninS ne_a1_nb1 (ninS ne_a1_ar2 nin0))).keep Kq37 (ninS ne_a1_nb1 (ninS ne_a1_ar2 nin0))).keep Kq48 nin0)
    have F_59 : Fld Z T48.heap a1 "java/lang/Throwable" "backtrace" "Ljava/lang/Object;" .null := ((((Fld.ext Ex18 (((Fld.ext Ex1 F4).keep Kq10 (ninS ne_a1_nb1 nin0)).keep Kq17 (ninS ne_a1_nb1 (ninS ne_a1_ar2 nin0)))).keep Kq29 (ninS ne_a1_nb1 (ninS ne_a1_ar2 nin0))).keep Kq37 (ninS ne_a1_nb1 (ninS ne_a1_ar2 nin0))).keep Kq48 nin0)
    have F_60 : Fld Z T48.heap a1 "java/lang/Throwable" "detailMessage" "Ljava/lang/String;" .null := ((((Fld.ext Ex18 (((Fld.ext Ex1 F5).keep Kq10 (ninS ne_a1_nb1 nin0)).keep Kq17 (ninS ne_a1_nb1 (ninS ne_a1_ar2 nin0)))).keep Kq29 (ninS ne_a1_nb1 (ninS ne_a1_ar2 nin0))).keep Kq37 (ninS ne_a1_nb1 (ninS ne_a1_ar2 nin0))).keep Kq48 nin0)
    refine own_initK X48 hx hZ hEL hS hk hC hTK hBL (W := 0) hown rfl (rmRI l Z a0 hw [] a1 saq38 uu ss T48.heap n0 (Nat.le_trans (Nat.le_trans (Nat.le_trans (Nat.le_trans (Nat.le_trans (Nat.le_trans (Nat.le_trans Z0 Ex1.1) Kq10.1) Kq17.1) Ex18.1) Kq29.1) Kq37.1) Kq48.1) hst Th_51 huu hun hss S_52 S_53 g_a1 C_54 Un_55 F_56 F_57 F_58 F_59 F_60) rfl (hw _ (List.mem_of_getElem? (i := 160) rfl)) (hw _ (List.mem_of_getElem? (i := 161) rfl)) (hw _ (List.mem_of_getElem? (i := 164) rfl)) (hw _ (List.mem_of_getElem? (i := 163) rfl)) (by decide) (by decide) (by decide) (g := (mkF m 24 #[.val (.ref a1), .val (.ref kd0), .val (.ref s1), .val (.ref s2)] [(.ref saq38), (.ref a1)])) rfl (by rw [hml]; rfl) (argsL := [(.ref saq38)]) (rest := []) rfl (lenOf pd_5 rfl) rfl (by show 2 * 0 + _ ≤ _; exact Nat.le_of_eq rfl) (hb hby d28_24) (by decide) (by decide) ?_
    intro v61 T61 L61 hB61
    obtain ⟨X61, hQ61, hS, hZ, hown, hC⟩ := hB61
    have hk := Nat.le_refl T61.heap.size
    obtain ⟨rfl, Nq61, Kq61, Cx⟩ := hQ61
    have N61 := Fr.app N48 Nq61
    have K61 : Keep h0 T61.heap [a1] := K48.trans Kq61 (allS (Or.inl (List.mem_of_getElem? (i := 0) rfl)) all0)
    show OGo p e below _ T61 (mkF m 27 #[.val (.ref a1), .val (.ref kd0), .val (.ref s1), .val (.ref s2)] [])
    obtain ⟨wk, Fk2⟩ := own_fld_ex Kq61 F_49
    refine own_step (g' := (mkF m 28 #[.val (.ref a1), .val (.ref kd0), .val (.ref s1), .val (.ref s2)] [(.ref a1)])) (fun _ kont => XS.aloadN X61.here hx rfl (hb hby d28_27) rfl rfl kont) ?_
    refine own_step (g' := (mkF m 29 #[.val (.ref a1), .val (.ref kd0), .val (.ref s1), .val (.ref s2)] [(.ref kd0), (.ref a1)])) (fun _ kont => XS.aloadN X61.here hx rfl (hb hby d28_28) rfl rfl kont) ?_
    obtain ⟨T62, h62, X62, e62, W62, st62⟩ := putF X61 hx hZ hown (host := "") (Or.inl (hw _ (List.mem_of_getElem? (i := 214) rfl))) Via.refl rfl Fk2 Cx (Or.inr ⟨(hw _ (List.mem_of_getElem? (i := 215) rfl)), rfl, hnm⟩) (hw _ (List.mem_of_getElem? (i := 5) rfl)) (ty := (.object "com/example/dequeue/dequeue/RefusedException$Kind")) (by decide) rfl rfl (g := (mkF m 29 #[.val (.ref a1), .val (.ref kd0), .val (.ref s1), .val (.ref s2)] [(.ref kd0), (.ref a1)])) rfl rfl (hb hby d28_29)
    have Fw62 := Fld.same W62 Fk2
    have N62 := Fr.snoc X62 N61 g_a1
    have K62 : Keep h0 h62 [a1] := K61.wr W62 (Or.inl (List.mem_of_getElem? (i := 0) rfl))
    have hk := Nat.le_trans hk (Nat.le_of_eq W62.size.symm)
    have hC := hC.trans (CHr.wr W62 (Safe.exa (hZ).alike Cx (by decide) (by decide)) hC.1)
    refine own_via (g' := (mkF m 32 #[.val (.ref a1), .val (.ref kd0), .val (.ref s1), .val (.ref s2)] [])) st62 ?_
    have C_63 : Exa Z h62 a1 "com/example/dequeue/dequeue/RefusedException" := (Exa.wr W62 Cx)
    exact own_retVW X62 hx hZ hEL hS hk hC hret hlk (hb hby d28_32) e62 (by exact ⟨rfl, N62, K62, C_63, Fw62⟩) (by decide) (by decide)
  · have S_65 : Sta Z T29.heap "java/lang/String" "COMPACT_STRINGS" "Z" (.int z) := (own_sta_keep S_23 Kq29 (allS (own_nsE C_21) (allS (own_nsE C_28) all0)))
    have C_66 : Exa Z T29.heap s2 "java/lang/String" := ((Exa.ext Ex18 ((C_7.keep Kq10).keep Kq17)).keep Kq29)
    have F_67 : Fld Z T29.heap s2 "java/lang/String" "value" "[B" (.ref v2) := ((Fld.ext Ex18 (((Fld.ext Ex1 Gv2).keep Kq10 (ninS ne_s2_nb1 nin0)).keep Kq17 (ninS ne_s2_nb1 (ninS ne_s2_ar2 nin0)))).keep Kq29 (ninS ne_s2_nb1 (ninS ne_s2_ar2 nin0)))
    have F_68 : Fld Z T29.heap s2 "java/lang/String" "coder" "B" (.int (0 : Int32)) := ((Fld.ext Ex18 (((Fld.ext Ex1 Gc2).keep Kq10 (ninS ne_s2_nb1 nin0)).keep Kq17 (ninS ne_s2_nb1 (ninS ne_s2_ar2 nin0)))).keep Kq29 (ninS ne_s2_nb1 (ninS ne_s2_ar2 nin0)))
    have By_69 : OBy Z T29.heap v2 k := ((((By_8.keep Kq10 (ninS ne_v2_nb1 nin0)).keep Kq17 (ninS ne_v2_nb1 (ninS ne_v2_ar2 nin0))).ext Ex18).keep Kq29 (ninS ne_v2_nb1 (ninS ne_v2_ar2 nin0)))
    have C_70 : Exa Z T29.heap a1 "com/example/dequeue/dequeue/RefusedException" := (C_20.keep Kq29)
    have C_71 : Exa Z T29.heap s1 "java/lang/String" := ((Exa.ext Ex18 (C_13.keep Kq17)).keep Kq29)
    have By_72 : OBy Z T29.heap v1 (2 : Int32) := (((By_16.keep Kq17 (ninS ne_v1_nb1 (ninS ne_v1_ar2 nin0))).ext Ex18).keep Kq29 (ninS ne_v1_nb1 (ninS ne_v1_ar2 nin0)))
    have C_73 : Exa Z T29.heap nb18 "java/lang/String" := (C18.keep Kq29)
    have By_74 : OBy Z T29.heap d18 (2 : Int32) := (Bv18.keep Kq29 (ninS (Ne.symm ne_nb1_d18) (ninS (Ne.symm ne_ar2_d18) nin0)))
    refine own_callV X29 hx hZ (W := 1) hown rfl (rmSG l Z a0 hw [] nb1 ar2 s2 v2 (4 : Int32) k z T29.heap n0 (Nat.le_trans (Nat.le_trans (Nat.le_trans (Nat.le_trans (Nat.le_trans Z0 Ex1.1) Kq10.1) Kq17.1) Ex18.1) Kq29.1) S_65 hz g_nb1 g_ar2 Eq22 Vq22 Kcq22 Mq22 Bq22 C_66 F_67 F_68 By_69 (by decide) hk0 (by omega) (by rw [own_i4]; omega)) Eq22 (hw _ (List.mem_of_getElem? (i := 38) rfl)) (hw _ (List.mem_of_getElem? (i := 39) rfl)) (notFace_of_selects (args := #[]) (mvT hZ (hw _ (List.mem_of_getElem? (i := 41) rfl)))) (hw _ (List.mem_of_getElem? (i := 41) rfl)) (hw _ (List.mem_of_getElem? (i := 40) rfl)) (hw _ (List.mem_of_getElem? (i := 42) rfl)) (hw _ (List.mem_of_getElem? (i := 19) rfl)) (by decide) (by decide) (by decide) (g := (mkF m 18 #[.val (.ref a1), .val (.ref kd0), .val (.ref s1), .val (.ref s2)] [(.ref s2), (.ref nb1), (.ref a1)])) rfl (by rw [hml]; rfl) (argsL := [(.ref s2)]) (rest := [(.ref a1)]) rfl (lenOf pd_19 rfl) rfl (by show 2 * 0 + _ ≤ _; exact Nat.le_of_eq rfl) (hb hby d28_18) (by decide) (by decide) ?_
    intro v75 T75 L75 X75 hQ75
    obtain ⟨rfl, ⟨brq64, szbq64, g_brq64, Bq64, Xq64, Eq64, Vq64, Kcq64, Mq64⟩, Nq75, Kq75⟩ := hQ75
    have N75 := Fr.app N29 Nq75
    have K75 : Keep h0 T75.heap [a1] := K29.trans Kq75 (allS (Or.inr sz_nb1) all0)
    have hk := Nat.le_trans hk Kq75.1
    have SFKq75_ar2 := Safe.keep Kq75 (sfS (Safe.exa (hZ).alike Eq22 (by decide) (by decide)) sf0) hC.1 SFKq29_ar2
    have SFKq75_brq64 := Safe.keep Kq75 (sfS (Safe.exa (hZ).alike Eq22 (by decide) (by decide)) sf0) hC.1 (Safe.new szbq64)
    have hC := hC.trans (CHr.keep Kq75 (sfS (Safe.exa (hZ).alike Eq22 (by decide) (by decide)) sf0) hC.1)
    have sz_brq64 : h0.size ≤ brq64 := Nat.le_trans K29.1 szbq64
    show OGo p e below _ T75 (mkF m 21 #[.val (.ref a1), .val (.ref kd0), .val (.ref s1), .val (.ref s2)] [(.ref nb1), (.ref a1)])
    have ne_a1_brq64 : a1 ≠ brq64 := Nat.ne_of_lt (Nat.lt_of_lt_of_le C_70.lt szbq64)
    have ne_s1_brq64 : s1 ≠ brq64 := Nat.ne_of_lt (Nat.lt_of_lt_of_le C_71.lt szbq64)
    have ne_v1_brq64 : v1 ≠ brq64 := Nat.ne_of_lt (Nat.lt_of_lt_of_le By_72.lt szbq64)
    have ne_s2_brq64 : s2 ≠ brq64 := Nat.ne_of_lt (Nat.lt_of_lt_of_le C_66.lt szbq64)
    have ne_v2_brq64 : v2 ≠ brq64 := Nat.ne_of_lt (Nat.lt_of_lt_of_le By_69.lt szbq64)
    have ne_nb1_brq64 : nb1 ≠ brq64 := Nat.ne_of_lt (Nat.lt_of_lt_of_le Eq22.lt szbq64)
    have ne_ar2_brq64 : ar2 ≠ brq64 := Nat.ne_of_lt (Nat.lt_of_lt_of_le Bq22.lt szbq64)
    have ne_nb18_brq64 : nb18 ≠ brq64 := Nat.ne_of_lt (Nat.lt_of_lt_of_le C_73.lt szbq64)
    have ne_d18_brq64 : d18 ≠ brq64 := Nat.ne_of_lt (Nat.lt_of_lt_of_le By_74.lt szbq64)
    have C_77 : Exa Z T75.heap a1 "com/example/dequeue/dequeue/RefusedException" := (C_70.keep Kq75)
    have C_78 : Exa Z T75.heap s1 "java/lang/String" := (C_71.keep Kq75)
    have By_79 : OBy Z T75.heap v1 (2 : Int32) := (By_72.keep Kq75 (ninS ne_v1_nb1 nin0))
    have C_80 : Exa Z T75.heap s2 "java/lang/String" := (C_66.keep Kq75)
    have By_81 : OBy Z T75.heap v2 k := (By_69.keep Kq75 (ninS ne_v2_nb1 nin0))
    have By_82 : OBy Z T75.heap ar2 (16 : Int32) := (Bq22.keep Kq75 (ninS (Ne.symm ne_nb1_ar2) nin0))
    have C_83 : Exa Z T75.heap nb18 "java/lang/String" := (C_73.keep Kq75)
    have By_84 : OBy Z T75.heap d18 (2 : Int32) := (By_74.keep Kq75 (ninS (Ne.symm ne_nb1_d18) nin0))
    have S_85 : Sta Z T75.heap "java/lang/String" "COMPACT_STRINGS" "Z" (.int z) := (own_sta_keep S_65 Kq75 (allS (own_nsE Eq22) all0))
    refine own_callV X75 hx hZ (W := 1) hown rfl (rmTS l Z a0 hw [] nb1 brq64 ((4 : Int32) + k) (34 : Int32) z T75.heap n0 (Nat.le_trans (Nat.le_trans (Nat.le_trans (Nat.le_trans (Nat.le_trans (Nat.le_trans Z0 Ex1.1) Kq10.1) Kq17.1) Ex18.1) Kq29.1) Kq75.1) S_85 hz Eq64 Vq64 Kcq64 Mq64 Bq64 Xq64 (by rw [(own_add (x := (4 : Int32)) (y := k) (by decide) hk0 (by rw [own_i4]; omega))]; rw [own_i4]; omega) (by rw [(own_add (x := (4 : Int32)) (y := k) (by decide) hk0 (by rw [own_i4]; omega))]; rw [own_i4, own_i34]; rw [own_i4] at hg4; omega) (by decide)) Eq64 (hw _ (List.mem_of_getElem? (i := 113) rfl)) (hw _ (List.mem_of_getElem? (i := 114) rfl)) (notFace_of_selects (args := #[]) (mvT hZ (hw _ (List.mem_of_getElem? (i := 116) rfl)))) (hw _ (List.mem_of_getElem? (i := 116) rfl)) (hw _ (List.mem_of_getElem? (i := 115) rfl)) (hw _ (List.mem_of_getElem? (i := 117) rfl)) (hw _ (List.mem_of_getElem? (i := 19) rfl)) (by decide) (by decide) (by decide) (g := (mkF m 21 #[.val (.ref a1), .val (.ref kd0), .val (.ref s1), .val (.ref s2)] [(.ref nb1), (.ref a1)])) rfl (by rw [hml]; rfl) (argsL := []) (rest := [(.ref a1)]) rfl (lenOf pd_20 rfl) rfl (by show 2 * 0 + _ ≤ _; exact Nat.le_of_eq rfl) (hb hby d28_21) (by decide) (by decide) ?_
    intro v86 T86 L86 X86 hQ86
    obtain ⟨⟨saq76, vaq76, rfl, szsq76, szvq76, Eq76, Vq76, Kcq76, Bq76⟩, Nq86, Kq86⟩ := hQ86
    have N86 := Fr.app N75 Nq86
    have K86 : Keep h0 T86.heap [a1] := K75.trans Kq86 all0
    have hk := Nat.le_trans hk Kq86.1
    have SFKq86_ar2 := Safe.keep Kq86 sf0 hC.1 SFKq75_ar2
    have SFKq86_brq64 := Safe.keep Kq86 sf0 hC.1 SFKq75_brq64
    have hC := hC.trans (CHr.keep Kq86 sf0 hC.1)
    show OGo p e below _ T86 (mkF m 24 #[.val (.ref a1), .val (.ref kd0), .val (.ref s1), .val (.ref s2)] [(.ref saq76), (.ref a1)])
    have ne_a1_saq76 : a1 ≠ saq76 := Nat.ne_of_lt (Nat.lt_of_lt_of_le C_77.lt szsq76)
    have ne_a1_vaq76 : a1 ≠ vaq76 := Nat.ne_of_lt (Nat.lt_of_lt_of_le C_77.lt szvq76)
    have ne_s1_saq76 : s1 ≠ saq76 := Nat.ne_of_lt (Nat.lt_of_lt_of_le C_78.lt szsq76)
    have ne_s1_vaq76 : s1 ≠ vaq76 := Nat.ne_of_lt (Nat.lt_of_lt_of_le C_78.lt szvq76)
    have ne_v1_saq76 : v1 ≠ saq76 := Nat.ne_of_lt (Nat.lt_of_lt_of_le By_79.lt szsq76)
    have ne_v1_vaq76 : v1 ≠ vaq76 := Nat.ne_of_lt (Nat.lt_of_lt_of_le By_79.lt szvq76)
    have ne_s2_saq76 : s2 ≠ saq76 := Nat.ne_of_lt (Nat.lt_of_lt_of_le C_80.lt szsq76)
    have ne_s2_vaq76 : s2 ≠ vaq76 := Nat.ne_of_lt (Nat.lt_of_lt_of_le C_80.lt szvq76)
    have ne_v2_saq76 : v2 ≠ saq76 := Nat.ne_of_lt (Nat.lt_of_lt_of_le By_81.lt szsq76)
    have ne_v2_vaq76 : v2 ≠ vaq76 := Nat.ne_of_lt (Nat.lt_of_lt_of_le By_81.lt szvq76)
    have ne_nb1_saq76 : nb1 ≠ saq76 := Nat.ne_of_lt (Nat.lt_of_lt_of_le Eq64.lt szsq76)
    have ne_nb1_vaq76 : nb1 ≠ vaq76 := Nat.ne_of_lt (Nat.lt_of_lt_of_le Eq64.lt szvq76)
    have ne_ar2_saq76 : ar2 ≠ saq76 := Nat.ne_of_lt (Nat.lt_of_lt_of_le By_82.lt szsq76)
    have ne_ar2_vaq76 : ar2 ≠ vaq76 := Nat.ne_of_lt (Nat.lt_of_lt_of_le By_82.lt szvq76)
    have ne_nb18_saq76 : nb18 ≠ saq76 := Nat.ne_of_lt (Nat.lt_of_lt_of_le C_83.lt szsq76)
    have ne_nb18_vaq76 : nb18 ≠ vaq76 := Nat.ne_of_lt (Nat.lt_of_lt_of_le C_83.lt szvq76)
    have ne_d18_saq76 : d18 ≠ saq76 := Nat.ne_of_lt (Nat.lt_of_lt_of_le By_84.lt szsq76)
    have ne_d18_vaq76 : d18 ≠ vaq76 := Nat.ne_of_lt (Nat.lt_of_lt_of_le By_84.lt szvq76)
    have ne_brq64_saq76 : brq64 ≠ saq76 := Nat.ne_of_lt (Nat.lt_of_lt_of_le Bq64.lt szsq76)
    have ne_brq64_vaq76 : brq64 ≠ vaq76 := Nat.ne_of_lt (Nat.lt_of_lt_of_le Bq64.lt szvq76)
    have F_87 : Fld Z T86.heap a1 "com/example/dequeue/dequeue/RefusedException" "kind" "Lcom/example/dequeue/dequeue/RefusedException$Kind;" .null := ((((Fld.ext Ex18 (((Fld.ext Ex1 Fk).keep Kq10 (ninS ne_a1_nb1 nin0)).keep Kq17 (ninS ne_a1_nb1 (ninS ne_a1_ar2 nin0)))).keep Kq29 (ninS ne_a1_nb1 (ninS ne_a1_ar2 nin0))).keep Kq75 (ninS ne_a1_nb1 nin0)).keep Kq86 nin0)
    have Th_89 : ThS Z T86.heap := (ThS.keep Kq86 all0 (ThS.keep Kq75 (allS (own_nsE Eq22) all0) (ThS.keep Kq29 (allS (own_nsE C_21) (allS (own_nsE C_28) all0)) (ThS.ext Ex18 (ThS.keep Kq17 (allS (own_nsE Sq3) (allS (own_nsE Eq3) all0)) (ThS.keep Kq10 (allS (own_nsE A1) all0) (ThS.ext Ex1 HT)))))))
    have S_90 : Sta Z T86.heap "java/lang/Throwable" "UNASSIGNED_STACK" "[Ljava/lang/StackTraceElement;" uu := (own_sta_keep (own_sta_keep (own_sta_keep (Sta.ext Ex18 (own_sta_keep (own_sta_keep (Sta.ext Ex1 S_UN) Kq10 (allS (own_nsE A1) all0)) Kq17 (allS (own_nsE Sq3) (allS (own_nsE Eq3) all0)))) Kq29 (allS (own_nsE C_21) (allS (own_nsE C_28) all0))) Kq75 (allS (own_nsE Eq22) all0)) Kq86 all0)
    have S_91 : Sta Z T86.heap "java/lang/Throwable" "SUPPRESSED_SENTINEL" "Ljava/util/List;" ss := (own_sta_keep (own_sta_keep (own_sta_keep (Sta.ext Ex18 (own_sta_keep (own_sta_keep (Sta.ext Ex1 S_SE) Kq10 (allS (own_nsE A1) all0)) Kq17 (allS (own_nsE Sq3) (allS (own_nsE Eq3) all0)))) Kq29 (allS (own_nsE C_21) (allS (own_nsE C_28) all0))) Kq75 (allS (own_nsE Eq22) all0)) Kq86 all0)
    have C_92 : Exa Z T86.heap a1 "com/example/dequeue/dequeue/RefusedException" := (C_77.keep Kq86)
    have Un_93 : Unt T86.heap a1 := (Unt.keep Kq86 nin0 (Unt.keep Kq75 (ninS ne_a1_nb1 nin0) (Unt.keep Kq29 (ninS ne_a1_nb1 (ninS ne_a1_ar2 nin0)) (Unt.ext Ex18 (Unt.keep Kq17 (ninS ne_a1_nb1 (ninS ne_a1_ar2 nin0)) (Unt.keep Kq10 (ninS ne_a1_nb1 nin0) (Unt.ext Ex1 N1)))))))
    have F_94 : Fld Z T86.heap a1 "java/lang/Throwable" "cause" "Ljava/lang/Throwable;" .null := ((((Fld.ext Ex18 (((Fld.ext Ex1 F1).keep Kq10 (ninS ne_a1_nb1 nin0)).keep Kq17 (ninS ne_a1_nb1 (ninS ne_a1_ar2 nin0)))).keep Kq29 (ninS ne_a1_nb1 (ninS ne_a1_ar2 nin0))).keep Kq75 (ninS ne_a1_nb1 nin0)).keep Kq86 nin0)
    have F_95 : Fld Z T86.heap a1 "java/lang/Throwable" "stackTrace" "[Ljava/lang/StackTraceElement;" .null := ((((Fld.ext Ex18 (((Fld.ext Ex1 F2).keep Kq10 (ninS ne_a1_nb1 nin0)).keep Kq17 (ninS ne_a1_nb1 (ninS ne_a1_ar2 nin0)))).keep Kq29 (ninS ne_a1_nb1 (ninS ne_a1_ar2 nin0))).keep Kq75 (ninS ne_a1_nb1 nin0)).keep Kq86 nin0)
    have F_96 : Fld Z T86.heap a1 "java/lang/Throwable" "suppressedExceptions" "Ljava/util/List;" .null := ((((Fld.ext Ex18 (((Fld.ext Ex1 F3).keep Kq10 (ninS ne_a1_nb1 nin0)).keep Kq17 (ninS ne_a1_nb1 (ninS ne_a1_ar2 nin0)))).keep Kq29 (ninS ne_a1_nb1 (ninS ne_a1_ar2 nin0))).keep Kq75 (ninS ne_a1_nb1 nin0)).keep Kq86 nin0)
    have F_97 : Fld Z T86.heap a1 "java/lang/Throwable" "backtrace" "Ljava/lang/Object;" .null := ((((Fld.ext Ex18 (((Fld.ext Ex1 F4).keep Kq10 (ninS ne_a1_nb1 nin0)).keep Kq17 (ninS ne_a1_nb1 (ninS ne_a1_ar2 nin0)))).keep Kq29 (ninS ne_a1_nb1 (ninS ne_a1_ar2 nin0))).keep Kq75 (ninS ne_a1_nb1 nin0)).keep Kq86 nin0)
    have F_98 : Fld Z T86.heap a1 "java/lang/Throwable" "detailMessage" "Ljava/lang/String;" .null := ((((Fld.ext Ex18 (((Fld.ext Ex1 F5).keep Kq10 (ninS ne_a1_nb1 nin0)).keep Kq17 (ninS ne_a1_nb1 (ninS ne_a1_ar2 nin0)))).keep Kq29 (ninS ne_a1_nb1 (ninS ne_a1_ar2 nin0))).keep Kq75 (ninS ne_a1_nb1 nin0)).keep Kq86 nin0)
    refine own_initK X86 hx hZ hEL hS hk hC hTK hBL (W := 0) hown rfl (rmRI l Z a0 hw [] a1 saq76 uu ss T86.heap n0 (Nat.le_trans (Nat.le_trans (Nat.le_trans (Nat.le_trans (Nat.le_trans (Nat.le_trans (Nat.le_trans Z0 Ex1.1) Kq10.1) Kq17.1) Ex18.1) Kq29.1) Kq75.1) Kq86.1) hst Th_89 huu hun hss S_90 S_91 g_a1 C_92 Un_93 F_94 F_95 F_96 F_97 F_98) rfl (hw _ (List.mem_of_getElem? (i := 160) rfl)) (hw _ (List.mem_of_getElem? (i := 161) rfl)) (hw _ (List.mem_of_getElem? (i := 164) rfl)) (hw _ (List.mem_of_getElem? (i := 163) rfl)) (by decide) (by decide) (by decide) (g := (mkF m 24 #[.val (.ref a1), .val (.ref kd0), .val (.ref s1), .val (.ref s2)] [(.ref saq76), (.ref a1)])) rfl (by rw [hml]; rfl) (argsL := [(.ref saq76)]) (rest := []) rfl (lenOf pd_5 rfl) rfl (by show 2 * 0 + _ ≤ _; exact Nat.le_of_eq rfl) (hb hby d28_24) (by decide) (by decide) ?_
    intro v99 T99 L99 hB99
    obtain ⟨X99, hQ99, hS, hZ, hown, hC⟩ := hB99
    have hk := Nat.le_refl T99.heap.size
    obtain ⟨rfl, Nq99, Kq99, Cx⟩ := hQ99
    have N99 := Fr.app N86 Nq99
    have K99 : Keep h0 T99.heap [a1] := K86.trans Kq99 (allS (Or.inl (List.mem_of_getElem? (i := 0) rfl)) all0)
    show OGo p e below _ T99 (mkF m 27 #[.val (.ref a1), .val (.ref kd0), .val (.ref s1), .val (.ref s2)] [])
    obtain ⟨wk, Fk2⟩ := own_fld_ex Kq99 F_87
    refine own_step (g' := (mkF m 28 #[.val (.ref a1), .val (.ref kd0), .val (.ref s1), .val (.ref s2)] [(.ref a1)])) (fun _ kont => XS.aloadN X99.here hx rfl (hb hby d28_27) rfl rfl kont) ?_
    refine own_step (g' := (mkF m 29 #[.val (.ref a1), .val (.ref kd0), .val (.ref s1), .val (.ref s2)] [(.ref kd0), (.ref a1)])) (fun _ kont => XS.aloadN X99.here hx rfl (hb hby d28_28) rfl rfl kont) ?_
    obtain ⟨T100, h100, X100, e100, W100, st100⟩ := putF X99 hx hZ hown (host := "") (Or.inl (hw _ (List.mem_of_getElem? (i := 214) rfl))) Via.refl rfl Fk2 Cx (Or.inr ⟨(hw _ (List.mem_of_getElem? (i := 215) rfl)), rfl, hnm⟩) (hw _ (List.mem_of_getElem? (i := 5) rfl)) (ty := (.object "com/example/dequeue/dequeue/RefusedException$Kind")) (by decide) rfl rfl (g := (mkF m 29 #[.val (.ref a1), .val (.ref kd0), .val (.ref s1), .val (.ref s2)] [(.ref kd0), (.ref a1)])) rfl rfl (hb hby d28_29)
    have Fw100 := Fld.same W100 Fk2
    have N100 := Fr.snoc X100 N99 g_a1
    have K100 : Keep h0 h100 [a1] := K99.wr W100 (Or.inl (List.mem_of_getElem? (i := 0) rfl))
    have hk := Nat.le_trans hk (Nat.le_of_eq W100.size.symm)
    have hC := hC.trans (CHr.wr W100 (Safe.exa (hZ).alike Cx (by decide) (by decide)) hC.1)
    refine own_via (g' := (mkF m 32 #[.val (.ref a1), .val (.ref kd0), .val (.ref s1), .val (.ref s2)] [])) st100 ?_
    have C_101 : Exa Z h100 a1 "com/example/dequeue/dequeue/RefusedException" := (Exa.wr W100 Cx)
    exact own_retVW X100 hx hZ hEL hS hk hC hret hlk (hb hby d28_32) e100 (by exact ⟨rfl, N100, K100, C_101, Fw100⟩) (by decide) (by decide)
theorem d1_0 : decode prog_12_method_2_code 0 = .ok (.new 23, 3) := by decide +kernel
theorem d1_3 : decode prog_12_method_2_code 3 = .ok (.dup, 1) := by decide +kernel
theorem d1_4 : decode prog_12_method_2_code 4 = .ok (.getstatic 28, 3) := by decide +kernel
theorem d1_7 : decode prog_12_method_2_code 7 = .ok (.ldc 33, 2) := by decide +kernel
theorem d1_9 : decode prog_12_method_2_code 9 = .ok (.new 1, 3) := by decide +kernel
theorem d1_12 : decode prog_12_method_2_code 12 = .ok (.dup, 1) := by decide +kernel
theorem d1_13 : decode prog_12_method_2_code 13 = .ok (.invokespecial 3, 3) := by decide +kernel
theorem d1_16 : decode prog_12_method_2_code 16 = .ok (.ldc 35, 2) := by decide +kernel
theorem d1_18 : decode prog_12_method_2_code 18 = .ok (.invokevirtual 7, 3) := by decide +kernel
theorem d1_21 : decode prog_12_method_2_code 21 = .ok (.lload_n 0, 1) := by decide +kernel
theorem d1_22 : decode prog_12_method_2_code 22 = .ok (.invokevirtual 37, 3) := by decide +kernel
theorem d1_25 : decode prog_12_method_2_code 25 = .ok (.invokevirtual 13, 3) := by decide +kernel
theorem d1_28 : decode prog_12_method_2_code 28 = .ok (.invokespecial 40, 3) := by decide +kernel
theorem d1_31 : decode prog_12_method_2_code 31 = .ok (.areturn, 1) := by decide +kernel
theorem pd_21 : parseMethodDescriptor "(J)Ljava/lang/StringBuilder;" = some ⟨[.long], some (.object "java/lang/StringBuilder")⟩ := by decide +kernel
theorem pd_22 : parseMethodDescriptor "(Lcom/example/dequeue/dequeue/RefusedException$Kind;Ljava/lang/String;Ljava/lang/String;)V" = some ⟨[(.object "com/example/dequeue/dequeue/RefusedException$Kind"), (.object "java/lang/String"), (.object "java/lang/String")], none⟩ := by decide +kernel
set_option maxRecDepth 65536 in
set_option maxHeartbeats 40000000 in
theorem rmNE (l : Launch) (Z : State) (a0 : Array Value) (hw : ∀ d ∈ tables_1, d.before a0 Z = true) (ws : List Jvm.Cond) (x1 : Int64) (kd0 : Addr) (z : Int32) (uu ss : Value) (dst da1 da2 : Addr) (DC1 DC2 : Cell) (h0 : Heap) (n0 : Nat) (Z0 : n0 ≤ h0.size) (S_CS : Sta Z h0 "java/lang/String" "COMPACT_STRINGS" "Z" (.int z)) (hz : ¬ (z = (0 : Int32))) (hst : l.stackTraces = true) (HT : ThS Z h0) (huu : uu.isRef = true) (hun : uu ≠ .null) (hss : ss.isRef = true) (S_UN : Sta Z h0 "java/lang/Throwable" "UNASSIGNED_STACK" "[Ljava/lang/StackTraceElement;" uu) (S_SE : Sta Z h0 "java/lang/Throwable" "SUPPRESSED_SENTINEL" "Ljava/util/List;" ss) (S_NF : Sta Z h0 "com/example/dequeue/dequeue/RefusedException$Kind" "NOT_FOUND" "Lcom/example/dequeue/dequeue/RefusedException$Kind;" (.ref kd0)) (tb1 : Jvm.Free.SBG.Tbl Z "DigitOnes" dst da1 DC1) (tb2 : Jvm.Free.SBG.Tbl Z "DigitTens" dst da2 DC2) (O0 : Old Z n0 h0) :
    OMetK l (⟨"com/example/dequeue/dequeue/RefusedException", "noSuchEvent", "(J)Lcom/example/dequeue/dequeue/RefusedException;"⟩ : MethodName) prog_12_method_2_code 2 (some (.object "com/example/dequeue/dequeue/RefusedException")) ws ({ frames := 7, cells := 18, slots := 3007, locals := 136 } : Room) Z (consts_1) #[(.long x1)] h0 (fun v h L => (∃ b : Addr, v = some (.ref b) ∧ Exa Z h b "com/example/dequeue/dequeue/RefusedException" ∧ Fld Z h b "com/example/dequeue/dequeue/RefusedException" "kind" "Lcom/example/dequeue/dequeue/RefusedException$Kind;" (.ref kd0)) ∧ Fr n0 L ∧ Keep h0 h []) := by
  refine own_bodyK (plainFor_of_name pn_28) ?_
  intro p e s m below meth cdx T0 X0 hx hZ hby hml hown hnm hret hlk e0 hS hC hTK hBL hsh
  have N0 := Fr.nil n0
  have hk : h0.size ≤ h0.size := Nat.le_refl _
  have hwS : ∀ d ∈ Bundle.stringAtoms, d.before a0 Z = true := fun d hd => hw d ((by decide +kernel : ∀ d ∈ Bundle.stringAtoms, d ∈ tables_1) d hd)
  refine own_entry (g' := (mkF m 0 #[.val (.long x1), .second] [])) (by first | rfl | (simp [entryFrame, mkF, argsToLocals, Value.category, maxLocals]; done)) ?_
  have KC0 := Keep.refl h0 []
  have hEL : EW Z a0 consts_1 := EW.cons (hw _ (List.mem_of_getElem? (i := 159) rfl)) (by decide) (EW.cons (hw _ (List.mem_of_getElem? (i := 9) rfl)) (by decide) (EW.cons (hw _ (List.mem_of_getElem? (i := 37) rfl)) (by decide) EW.nil))
  obtain ⟨T1, h1, X1, e1, Ex1, A1, D1, Un1, st1⟩ := newO X0 hx hZ hown (hw _ (List.mem_of_getElem? (i := 4) rfl)) (hw _ (List.mem_of_getElem? (i := 5) rfl)) (hw _ (List.mem_of_getElem? (i := 2) rfl)) e0 (g := (mkF m 0 #[.val (.long x1), .second] [])) rfl (hb hby d1_0) (by decide) (by decide)
  obtain ⟨nb1, g1⟩ : ∃ z, z = h0.size := ⟨_, rfl⟩
  rw [← g1] at A1 D1 Un1 st1
  have g_nb1 : n0 ≤ nb1 := Nat.le_trans Z0 (Nat.le_of_eq g1.symm)
  have sz_nb1 : h0.size ≤ nb1 := Nat.le_trans KC0.1 (Nat.le_of_eq g1.symm)
  have K1 : Keep h0 h1 [] := KC0.ext Ex1
  have hk := Nat.le_trans hk Ex1.1
  have hC := hC.trans (CHr.ext Ex1 hC.1)
  have F1_cause : Fld Z h1 nb1 "java/lang/Throwable" "cause" "Ljava/lang/Throwable;" .null := D1 (Or.inl (hw _ (List.mem_of_getElem? (i := 179) rfl))) (ty := (.object "java/lang/Throwable")) (by decide)
  have F1_stackTrace : Fld Z h1 nb1 "java/lang/Throwable" "stackTrace" "[Ljava/lang/StackTraceElement;" .null := D1 (Or.inl (hw _ (List.mem_of_getElem? (i := 182) rfl))) (ty := (.array (.object "java/lang/StackTraceElement"))) (by decide)
  have F1_suppressedExceptions : Fld Z h1 nb1 "java/lang/Throwable" "suppressedExceptions" "Ljava/util/List;" .null := D1 (Or.inl (hw _ (List.mem_of_getElem? (i := 185) rfl))) (ty := (.object "java/util/List")) (by decide)
  have F1_detailMessage : Fld Z h1 nb1 "java/lang/Throwable" "detailMessage" "Ljava/lang/String;" .null := D1 (Or.inl (hw _ (List.mem_of_getElem? (i := 209) rfl))) (ty := (.object "java/lang/String")) (by decide)
  have F1_backtrace : Fld Z h1 nb1 "java/lang/Throwable" "backtrace" "Ljava/lang/Object;" .null := D1 (Or.inl (hw _ (List.mem_of_getElem? (i := 210) rfl))) (ty := (.object "java/lang/Object")) (by decide)
  have F1_depth : Fld Z h1 nb1 "java/lang/Throwable" "depth" "I" (.int (0 : Int32)) := D1 (Or.inl (hw _ (List.mem_of_getElem? (i := 211) rfl))) (ty := .int) (by decide)
  have F1_kind : Fld Z h1 nb1 "com/example/dequeue/dequeue/RefusedException" "kind" "Lcom/example/dequeue/dequeue/RefusedException$Kind;" .null := D1 (Or.inr (hw _ (List.mem_of_getElem? (i := 215) rfl))) (ty := (.object "com/example/dequeue/dequeue/RefusedException$Kind")) (by decide)
  refine own_via (g' := (mkF m 3 #[.val (.long x1), .second] [(.ref nb1)])) st1 ?_
  refine own_step (g' := (mkF m 4 #[.val (.long x1), .second] [(.ref nb1), (.ref nb1)])) (fun _ kont => XS.dup X1.here hx rfl (hb hby d1_3) rfl rfl kont) ?_
  have S_2 : Sta Z h1 "com/example/dequeue/dequeue/RefusedException$Kind" "NOT_FOUND" "Lcom/example/dequeue/dequeue/RefusedException$Kind;" (.ref kd0) := (Sta.ext Ex1 S_NF)
  obtain ⟨T3, X3, e3, st3⟩ := getS2 X1 hx hZ hown (host := "") (Or.inl (hw _ (List.mem_of_getElem? (i := 6) rfl))) Via.refl e1 S_2 (g := (mkF m 4 #[.val (.long x1), .second] [(.ref nb1), (.ref nb1)])) rfl (hb hby d1_4)
  refine own_via (g' := (mkF m 7 #[.val (.long x1), .second] [(.ref kd0), (.ref nb1), (.ref nb1)])) st3 ?_
  obtain ⟨nb4, T4, h4, kk4, d4, kd4, X4, e4, Ex4, hS, hk, hZ, hown, C4, Fc4, Fv4, Vv4, -, -, hC4, -, hne4, st4⟩ := ldcCH (vm0 := _) X3 hx hZ hown (hw _ (List.mem_of_getElem? (i := 9) rfl)) hwS e3 hS hk hEL (by simp [consts_1]) hC.1 (vs := [(.int (105 : Int32)), (.int (100 : Int32))]) (z := (2 : Int32)) (by decide +kernel) (by decide) rfl (g := (mkF m 7 #[.val (.long x1), .second] [(.ref kd0), (.ref nb1), (.ref nb1)])) rfl (hb hby d1_7) (n := 8) (by decide) (by decide) (by decide) (by decide)
  have hC := hC.trans hC4
  have K4 : Keep h0 h4 [] := K1.ext Ex4
  have Bv4 := own_by_arv Vv4 (by decide)
  have C_5 : Exa Z h4 nb1 "com/example/dequeue/dequeue/RefusedException" := (Exa.ext Ex4 A1)
  have ne_nb1_nb4 : nb1 ≠ nb4 := Exa.ne C_5 C4 (by decide)
  have ne_nb1_d4 : nb1 ≠ d4 := own_neB C_5 Bv4 (hw _ (List.mem_of_getElem? (i := 5) rfl))
  refine own_via (g' := (mkF m 9 #[.val (.long x1), .second] [(.ref nb4), (.ref kd0), (.ref nb1), (.ref nb1)])) st4 ?_
  obtain ⟨T6, h6, X6, e6, Ex6, A6, D6, Un6, st6⟩ := newO X4 hx hZ hown (hw _ (List.mem_of_getElem? (i := 17) rfl)) (hw _ (List.mem_of_getElem? (i := 18) rfl)) (hw _ (List.mem_of_getElem? (i := 19) rfl)) e4 (g := (mkF m 9 #[.val (.long x1), .second] [(.ref nb4), (.ref kd0), (.ref nb1), (.ref nb1)])) rfl (hb hby d1_9) (by decide) (by decide)
  obtain ⟨nb6, g6⟩ : ∃ z, z = h4.size := ⟨_, rfl⟩
  rw [← g6] at A6 D6 Un6 st6
  have g_nb6 : n0 ≤ nb6 := Nat.le_trans (Nat.le_trans (Nat.le_trans Z0 Ex1.1) Ex4.1) (Nat.le_of_eq g6.symm)
  have ne_nb1_nb6 : nb1 ≠ nb6 := Nat.ne_of_lt (Nat.lt_of_lt_of_le C_5.lt (Nat.le_of_eq g6.symm))
  have ne_nb4_nb6 : nb4 ≠ nb6 := Nat.ne_of_lt (Nat.lt_of_lt_of_le C4.lt (Nat.le_of_eq g6.symm))
  have ne_d4_nb6 : d4 ≠ nb6 := Nat.ne_of_lt (Nat.lt_of_lt_of_le Bv4.lt (Nat.le_of_eq g6.symm))
  have sz_nb6 : h0.size ≤ nb6 := Nat.le_trans K4.1 (Nat.le_of_eq g6.symm)
  have K6 : Keep h0 h6 [] := K4.ext Ex6
  have hk := Nat.le_trans hk Ex6.1
  have hC := hC.trans (CHr.ext Ex6 hC.1)
  have F6_value : Fld Z h6 nb6 "java/lang/AbstractStringBuilder" "value" "[B" .null := D6 (Or.inl (hw _ (List.mem_of_getElem? (i := 34) rfl))) (ty := (.array .byte)) (by decide)
  have F6_coder : Fld Z h6 nb6 "java/lang/AbstractStringBuilder" "coder" "B" (.int (0 : Int32)) := D6 (Or.inl (hw _ (List.mem_of_getElem? (i := 36) rfl))) (ty := .byte) (by decide)
  have F6_count : Fld Z h6 nb6 "java/lang/AbstractStringBuilder" "count" "I" (.int (0 : Int32)) := D6 (Or.inl (hw _ (List.mem_of_getElem? (i := 62) rfl))) (ty := .int) (by decide)
  refine own_via (g' := (mkF m 12 #[.val (.long x1), .second] [(.ref nb6), (.ref nb4), (.ref kd0), (.ref nb1), (.ref nb1)])) st6 ?_
  refine own_step (g' := (mkF m 13 #[.val (.long x1), .second] [(.ref nb6), (.ref nb6), (.ref nb4), (.ref kd0), (.ref nb1), (.ref nb1)])) (fun _ kont => XS.dup X6.here hx rfl (hb hby d1_12) rfl rfl kont) ?_
  have C_9 : Exa Z h6 nb1 "com/example/dequeue/dequeue/RefusedException" := (Exa.ext Ex6 C_5)
  have C_10 : Exa Z h6 nb4 "java/lang/String" := (Exa.ext Ex6 C4)
  have By_11 : OBy Z h6 d4 (2 : Int32) := (Bv4.ext Ex6)
  have S_12 : Sta Z h6 "java/lang/String" "COMPACT_STRINGS" "Z" (.int z) := (Sta.ext Ex6 (Sta.ext Ex4 (Sta.ext Ex1 S_CS)))
  refine own_init X6 hx hZ (W := 5) hown e6 (rmSi l Z a0 hw [] nb6 z h6 n0 (Nat.le_trans (Nat.le_trans (Nat.le_trans Z0 Ex1.1) Ex4.1) Ex6.1) S_12 hz g_nb6 A6 F6_value F6_coder F6_count) rfl (hw _ (List.mem_of_getElem? (i := 20) rfl)) (hw _ (List.mem_of_getElem? (i := 21) rfl)) (hw _ (List.mem_of_getElem? (i := 22) rfl)) (hw _ (List.mem_of_getElem? (i := 19) rfl)) (by decide) (by decide) (by decide) (g := (mkF m 13 #[.val (.long x1), .second] [(.ref nb6), (.ref nb6), (.ref nb4), (.ref kd0), (.ref nb1), (.ref nb1)])) rfl (by rw [hml]; rfl) (argsL := []) (rest := [(.ref nb6), (.ref nb4), (.ref kd0), (.ref nb1), (.ref nb1)]) rfl (lenOf pd_18 rfl) rfl (by show 2 * 0 + _ ≤ _; exact Nat.le_of_eq rfl) (hb hby d1_13) (by decide) (by decide) ?_
  intro v13 T13 L13 X13 hQ13
  obtain ⟨rfl, ⟨ar7, szbq8, g_ar7, Bq8, Eq8, Sq8, Vq8, Kcq8, Mq8⟩, Nq13, Kq13⟩ := hQ13
  have N13 := Fr.app N0 Nq13
  have K13 : Keep h0 T13.heap [] := K6.trans Kq13 (allS (Or.inr sz_nb6) all0)
  have hk := Nat.le_trans hk Kq13.1
  have SFKq13_ar7 := Safe.keep Kq13 (sfS (Safe.exa (hZ).alike A6 (by decide) (by decide)) sf0) hC.1 (Safe.new szbq8)
  have hC := hC.trans (CHr.keep Kq13 (sfS (Safe.exa (hZ).alike A6 (by decide) (by decide)) sf0) hC.1)
  have sz_ar7 : h0.size ≤ ar7 := Nat.le_trans K6.1 szbq8
  show OGo p e below _ T13 (mkF m 16 #[.val (.long x1), .second] [(.ref nb6), (.ref nb4), (.ref kd0), (.ref nb1), (.ref nb1)])
  have ne_nb1_ar7 : nb1 ≠ ar7 := Nat.ne_of_lt (Nat.lt_of_lt_of_le C_9.lt szbq8)
  have ne_nb4_ar7 : nb4 ≠ ar7 := Nat.ne_of_lt (Nat.lt_of_lt_of_le C_10.lt szbq8)
  have ne_d4_ar7 : d4 ≠ ar7 := Nat.ne_of_lt (Nat.lt_of_lt_of_le By_11.lt szbq8)
  have ne_nb6_ar7 : nb6 ≠ ar7 := Nat.ne_of_lt (Nat.lt_of_lt_of_le A6.lt szbq8)
  obtain ⟨nb14, T14, h14, kk14, d14, kd14, X14, e14, Ex14, hS, hk, hZ, hown, C14, Fc14, Fv14, Vv14, -, -, hC14, -, hne14, st14⟩ := ldcCH (vm0 := _) X13 hx hZ hown (hw _ (List.mem_of_getElem? (i := 37) rfl)) hwS rfl hS hk hEL (by simp [consts_1]) hC.1 (vs := [(.int (110 : Int32)), (.int (111 : Int32)), (.int (32 : Int32)), (.int (101 : Int32)), (.int (118 : Int32)), (.int (101 : Int32)), (.int (110 : Int32)), (.int (116 : Int32)), (.int (32 : Int32))]) (z := (9 : Int32)) (by decide +kernel) (by decide) rfl (g := (mkF m 16 #[.val (.long x1), .second] [(.ref nb6), (.ref nb4), (.ref kd0), (.ref nb1), (.ref nb1)])) rfl (hb hby d1_16) (n := 36) (by decide) (by decide) (by decide) (by decide)
  have SF14_ar7 := hC14.safe Eq8.lt SFKq13_ar7
  have hC := hC.trans hC14
  have K14 : Keep h0 h14 [] := K13.ext Ex14
  have Bv14 := own_by_arv Vv14 (by decide)
  have ne_ar7_nb14 := (hne14 _ SF14_ar7).1
  have ne_ar7_d14 := (hne14 _ SF14_ar7).2
  have C_15 : Exa Z h14 nb1 "com/example/dequeue/dequeue/RefusedException" := (Exa.ext Ex14 (C_9.keep Kq13))
  have ne_nb1_nb14 : nb1 ≠ nb14 := Exa.ne C_15 C14 (by decide)
  have ne_nb1_d14 : nb1 ≠ d14 := own_neB C_15 Bv14 (hw _ (List.mem_of_getElem? (i := 5) rfl))
  have C_16 : Exa Z h14 nb6 "java/lang/StringBuilder" := (Exa.ext Ex14 Sq8)
  have ne_nb6_nb14 : nb6 ≠ nb14 := Exa.ne C_16 C14 (by decide)
  have ne_nb6_d14 : nb6 ≠ d14 := own_neB C_16 Bv14 (hw _ (List.mem_of_getElem? (i := 18) rfl))
  refine own_via (g' := (mkF m 18 #[.val (.long x1), .second] [(.ref nb14), (.ref nb6), (.ref nb4), (.ref kd0), (.ref nb1), (.ref nb1)])) st14 ?_
  have S_18 : Sta Z h14 "java/lang/String" "COMPACT_STRINGS" "Z" (.int z) := (Sta.ext Ex14 (own_sta_keep S_12 Kq13 (allS (own_nsE A6) all0)))
  have F_19 : Fld Z h14 nb6 "java/lang/AbstractStringBuilder" "value" "[B" (.ref ar7) := (Fld.ext Ex14 Vq8)
  have F_20 : Fld Z h14 nb6 "java/lang/AbstractStringBuilder" "coder" "B" (.int (0 : Int32)) := (Fld.ext Ex14 Kcq8)
  have F_21 : Fld Z h14 nb6 "java/lang/AbstractStringBuilder" "count" "I" (.int (0 : Int32)) := (Fld.ext Ex14 Mq8)
  have By_22 : OBy Z h14 ar7 (16 : Int32) := (Bq8.ext Ex14)
  have C_23 : Exa Z h14 ar7 "[B" := (Exa.ext Ex14 Eq8)
  refine own_callV X14 hx hZ (W := 4) hown e14 (rmSN l Z a0 hw [] nb6 ar7 nb14 d14 (0 : Int32) (9 : Int32) z h14 n0 (Nat.le_trans (Nat.le_trans (Nat.le_trans (Nat.le_trans (Nat.le_trans Z0 Ex1.1) Ex4.1) Ex6.1) Kq13.1) Ex14.1) S_18 hz g_nb6 g_ar7 C_16 F_19 F_20 F_21 By_22 C14 Fv14 Fc14 Bv14 (by decide) (by decide) (by decide)) C_16 (hw _ (List.mem_of_getElem? (i := 38) rfl)) (hw _ (List.mem_of_getElem? (i := 39) rfl)) (notFace_of_selects (args := #[]) (mvT hZ (hw _ (List.mem_of_getElem? (i := 41) rfl)))) (hw _ (List.mem_of_getElem? (i := 41) rfl)) (hw _ (List.mem_of_getElem? (i := 40) rfl)) (hw _ (List.mem_of_getElem? (i := 42) rfl)) (hw _ (List.mem_of_getElem? (i := 19) rfl)) (by decide) (by decide) (by decide) (g := (mkF m 18 #[.val (.long x1), .second] [(.ref nb14), (.ref nb6), (.ref nb4), (.ref kd0), (.ref nb1), (.ref nb1)])) rfl (by rw [hml]; rfl) (argsL := [(.ref nb14)]) (rest := [(.ref nb4), (.ref kd0), (.ref nb1), (.ref nb1)]) rfl (lenOf pd_19 rfl) rfl (by show 2 * 0 + _ ≤ _; exact Nat.le_of_eq rfl) (hb hby d1_18) (by decide) (by decide) ?_
  intro v24 T24 L24 X24 hQ24
  obtain ⟨rfl, Nq24, Kq24, Bq17, Eq17, Vq17, Kcq17, Mq17⟩ := hQ24
  have N24 := Fr.app N13 Nq24
  have K24 : Keep h0 T24.heap [] := K14.trans Kq24 (allS (Or.inr sz_nb6) (allS (Or.inr sz_ar7) all0))
  have hk := Nat.le_trans hk Kq24.1
  have SFKq24_ar7 := Safe.keep Kq24 (sfS (Safe.exa (hZ).alike C_16 (by decide) (by decide)) (sfS SF14_ar7 sf0)) hC.1 SF14_ar7
  have hC := hC.trans (CHr.keep Kq24 (sfS (Safe.exa (hZ).alike C_16 (by decide) (by decide)) (sfS SF14_ar7 sf0)) hC.1)
  show OGo p e below _ T24 (mkF m 21 #[.val (.long x1), .second] [(.ref nb6), (.ref nb4), (.ref kd0), (.ref nb1), (.ref nb1)])
  refine own_step (g' := (mkF m 22 #[.val (.long x1), .second] [(.long x1), (.ref nb6), (.ref nb4), (.ref kd0), (.ref nb1), (.ref nb1)])) (fun _ kont => XS.lloadN X24.here hx rfl (hb hby d1_21) rfl kont) ?_
  by_cases hj : ((9 : Int32) + (Jvm.Free.SBG.strSizeOfL x1)).toInt ≤ 16
  · have S_26 : Sta Z T24.heap "java/lang/String" "COMPACT_STRINGS" "Z" (.int z) := (own_sta_keep S_18 Kq24 (allS (own_nsE C_16) (allS (own_nsE C_23) all0)))
    have O_27 : Old Z n0 T24.heap := ((((((O0.ext Ex1).ext Ex4).ext Ex6).keep Kq13 (allS g_nb6 all0)).ext Ex14).keep Kq24 (allS g_nb6 (allS g_ar7 all0)))
    have C_28 : Exa Z T24.heap ar7 "[B" := (C_23.keep Kq24)
    refine own_callV X24 hx hZ (W := 4) hown rfl (rmSJN l Z a0 hw [] nb6 ar7 z x1 dst da1 da2 DC1 DC2 T24.heap n0 (Nat.le_trans (Nat.le_trans (Nat.le_trans (Nat.le_trans (Nat.le_trans (Nat.le_trans Z0 Ex1.1) Ex4.1) Ex6.1) Kq13.1) Ex14.1) Kq24.1) S_26 hz g_nb6 g_ar7 Eq17 Vq17 Kcq17 Mq17 Bq17 tb1 tb2 O_27 hj) Eq17 (hw _ (List.mem_of_getElem? (i := 88) rfl)) (hw _ (List.mem_of_getElem? (i := 89) rfl)) (notFace_of_selects (args := #[]) (mvT hZ (hw _ (List.mem_of_getElem? (i := 91) rfl)))) (hw _ (List.mem_of_getElem? (i := 91) rfl)) (hw _ (List.mem_of_getElem? (i := 90) rfl)) (hw _ (List.mem_of_getElem? (i := 92) rfl)) (hw _ (List.mem_of_getElem? (i := 19) rfl)) (by decide) (by decide) (by decide) (g := (mkF m 22 #[.val (.long x1), .second] [(.long x1), (.ref nb6), (.ref nb4), (.ref kd0), (.ref nb1), (.ref nb1)])) rfl (by rw [hml]; rfl) (argsL := [(.long x1)]) (rest := [(.ref nb4), (.ref kd0), (.ref nb1), (.ref nb1)]) rfl (lenOf pd_21 rfl) rfl (by show 2 * 0 + _ ≤ _; exact Nat.le_of_eq rfl) (hb hby d1_22) (by decide) (by decide) ?_
    intro v29 T29 L29 X29 hQ29
    obtain ⟨rfl, Nq29, Kq29, Bq25, Eq25, Vq25, Kcq25, Mq25⟩ := hQ29
    have N29 := Fr.app N24 Nq29
    have K29 : Keep h0 T29.heap [] := K24.trans Kq29 (allS (Or.inr sz_nb6) (allS (Or.inr sz_ar7) all0))
    have hk := Nat.le_trans hk Kq29.1
    have SFKq29_ar7 := Safe.keep Kq29 (sfS (Safe.exa (hZ).alike Eq17 (by decide) (by decide)) (sfS SFKq24_ar7 sf0)) hC.1 SFKq24_ar7
    have hC := hC.trans (CHr.keep Kq29 (sfS (Safe.exa (hZ).alike Eq17 (by decide) (by decide)) (sfS SFKq24_ar7 sf0)) hC.1)
    show OGo p e below _ T29 (mkF m 25 #[.val (.long x1), .second] [(.ref nb6), (.ref nb4), (.ref kd0), (.ref nb1), (.ref nb1)])
    have C_31 : Exa Z T29.heap nb1 "com/example/dequeue/dequeue/RefusedException" := ((C_15.keep Kq24).keep Kq29)
    have C_32 : Exa Z T29.heap nb4 "java/lang/String" := (((Exa.ext Ex14 (C_10.keep Kq13)).keep Kq24).keep Kq29)
    have By_33 : OBy Z T29.heap d4 (2 : Int32) := ((((By_11.keep Kq13 (ninS ne_d4_nb6 nin0)).ext Ex14).keep Kq24 (ninS ne_d4_nb6 (ninS ne_d4_ar7 nin0))).keep Kq29 (ninS ne_d4_nb6 (ninS ne_d4_ar7 nin0)))
    have C_34 : Exa Z T29.heap nb14 "java/lang/String" := ((C14.keep Kq24).keep Kq29)
    have By_35 : OBy Z T29.heap d14 (9 : Int32) := ((Bv14.keep Kq24 (ninS (Ne.symm ne_nb6_d14) (ninS (Ne.symm ne_ar7_d14) nin0))).keep Kq29 (ninS (Ne.symm ne_nb6_d14) (ninS (Ne.symm ne_ar7_d14) nin0)))
    have S_36 : Sta Z T29.heap "java/lang/String" "COMPACT_STRINGS" "Z" (.int z) := (own_sta_keep S_26 Kq29 (allS (own_nsE Eq17) (allS (own_nsE C_28) all0)))
    have C_37 : Exa Z T29.heap ar7 "[B" := (C_28.keep Kq29)
    refine own_callV X29 hx hZ (W := 4) hown rfl (rmTS l Z a0 hw [] nb6 ar7 ((9 : Int32) + (Jvm.Free.SBG.strSizeOfL x1)) (16 : Int32) z T29.heap n0 (Nat.le_trans (Nat.le_trans (Nat.le_trans (Nat.le_trans (Nat.le_trans (Nat.le_trans (Nat.le_trans Z0 Ex1.1) Ex4.1) Ex6.1) Kq13.1) Ex14.1) Kq24.1) Kq29.1) S_36 hz Eq25 Vq25 Kcq25 Mq25 Bq25 C_37 (by rw [(own_add (x := (9 : Int32)) (y := (Jvm.Free.SBG.strSizeOfL x1)) (by decide) (by have := own_ssz x1; omega) (by have := own_ssz x1; rw [own_i9]; omega)), own_i9]; have := own_ssz x1; omega) (by rw [own_i16]; exact hj) (by decide)) Eq25 (hw _ (List.mem_of_getElem? (i := 113) rfl)) (hw _ (List.mem_of_getElem? (i := 114) rfl)) (notFace_of_selects (args := #[]) (mvT hZ (hw _ (List.mem_of_getElem? (i := 116) rfl)))) (hw _ (List.mem_of_getElem? (i := 116) rfl)) (hw _ (List.mem_of_getElem? (i := 115) rfl)) (hw _ (List.mem_of_getElem? (i := 117) rfl)) (hw _ (List.mem_of_getElem? (i := 19) rfl)) (by decide) (by decide) (by decide) (g := (mkF m 25 #[.val (.long x1), .second] [(.ref nb6), (.ref nb4), (.ref kd0), (.ref nb1), (.ref nb1)])) rfl (by rw [hml]; rfl) (argsL := []) (rest := [(.ref nb4), (.ref kd0), (.ref nb1), (.ref nb1)]) rfl (lenOf pd_20 rfl) rfl (by show 2 * 0 + _ ≤ _; exact Nat.le_of_eq rfl) (hb hby d1_25) (by decide) (by decide) ?_
    intro v38 T38 L38 X38 hQ38
    obtain ⟨⟨saq30, vaq30, rfl, szsq30, szvq30, Eq30, Vq30, Kcq30, Bq30⟩, Nq38, Kq38⟩ := hQ38
    have N38 := Fr.app N29 Nq38
    have K38 : Keep h0 T38.heap [] := K29.trans Kq38 all0
    have hk := Nat.le_trans hk Kq38.1
    have SFKq38_ar7 := Safe.keep Kq38 sf0 hC.1 SFKq29_ar7
    have hC := hC.trans (CHr.keep Kq38 sf0 hC.1)
    show OGo p e below _ T38 (mkF m 28 #[.val (.long x1), .second] [(.ref saq30), (.ref nb4), (.ref kd0), (.ref nb1), (.ref nb1)])
    have ne_nb1_saq30 : nb1 ≠ saq30 := Nat.ne_of_lt (Nat.lt_of_lt_of_le C_31.lt szsq30)
    have ne_nb1_vaq30 : nb1 ≠ vaq30 := Nat.ne_of_lt (Nat.lt_of_lt_of_le C_31.lt szvq30)
    have ne_nb4_saq30 : nb4 ≠ saq30 := Nat.ne_of_lt (Nat.lt_of_lt_of_le C_32.lt szsq30)
    have ne_nb4_vaq30 : nb4 ≠ vaq30 := Nat.ne_of_lt (Nat.lt_of_lt_of_le C_32.lt szvq30)
    have ne_d4_saq30 : d4 ≠ saq30 := Nat.ne_of_lt (Nat.lt_of_lt_of_le By_33.lt szsq30)
    have ne_d4_vaq30 : d4 ≠ vaq30 := Nat.ne_of_lt (Nat.lt_of_lt_of_le By_33.lt szvq30)
    have ne_nb6_saq30 : nb6 ≠ saq30 := Nat.ne_of_lt (Nat.lt_of_lt_of_le Eq25.lt szsq30)
    have ne_nb6_vaq30 : nb6 ≠ vaq30 := Nat.ne_of_lt (Nat.lt_of_lt_of_le Eq25.lt szvq30)
    have ne_ar7_saq30 : ar7 ≠ saq30 := Nat.ne_of_lt (Nat.lt_of_lt_of_le Bq25.lt szsq30)
    have ne_ar7_vaq30 : ar7 ≠ vaq30 := Nat.ne_of_lt (Nat.lt_of_lt_of_le Bq25.lt szvq30)
    have ne_nb14_saq30 : nb14 ≠ saq30 := Nat.ne_of_lt (Nat.lt_of_lt_of_le C_34.lt szsq30)
    have ne_nb14_vaq30 : nb14 ≠ vaq30 := Nat.ne_of_lt (Nat.lt_of_lt_of_le C_34.lt szvq30)
    have ne_d14_saq30 : d14 ≠ saq30 := Nat.ne_of_lt (Nat.lt_of_lt_of_le By_35.lt szsq30)
    have ne_d14_vaq30 : d14 ≠ vaq30 := Nat.ne_of_lt (Nat.lt_of_lt_of_le By_35.lt szvq30)
    have S_40 : Sta Z T38.heap "java/lang/String" "COMPACT_STRINGS" "Z" (.int z) := (own_sta_keep S_36 Kq38 all0)
    have Th_41 : ThS Z T38.heap := (ThS.keep Kq38 all0 (ThS.keep Kq29 (allS (own_nsE Eq17) (allS (own_nsE C_28) all0)) (ThS.keep Kq24 (allS (own_nsE C_16) (allS (own_nsE C_23) all0)) (ThS.ext Ex14 (ThS.keep Kq13 (allS (own_nsE A6) all0) (ThS.ext Ex6 (ThS.ext Ex4 (ThS.ext Ex1 HT))))))))
    have S_42 : Sta Z T38.heap "java/lang/Throwable" "UNASSIGNED_STACK" "[Ljava/lang/StackTraceElement;" uu := (own_sta_keep (own_sta_keep (own_sta_keep (Sta.ext Ex14 (own_sta_keep (Sta.ext Ex6 (Sta.ext Ex4 (Sta.ext Ex1 S_UN))) Kq13 (allS (own_nsE A6) all0))) Kq24 (allS (own_nsE C_16) (allS (own_nsE C_23) all0))) Kq29 (allS (own_nsE Eq17) (allS (own_nsE C_28) all0))) Kq38 all0)
    have S_43 : Sta Z T38.heap "java/lang/Throwable" "SUPPRESSED_SENTINEL" "Ljava/util/List;" ss := (own_sta_keep (own_sta_keep (own_sta_keep (Sta.ext Ex14 (own_sta_keep (Sta.ext Ex6 (Sta.ext Ex4 (Sta.ext Ex1 S_SE))) Kq13 (allS (own_nsE A6) all0))) Kq24 (allS (own_nsE C_16) (allS (own_nsE C_23) all0))) Kq29 (allS (own_nsE Eq17) (allS (own_nsE C_28) all0))) Kq38 all0)
    have C_44 : Exa Z T38.heap nb1 "com/example/dequeue/dequeue/RefusedException" := (C_31.keep Kq38)
    have Un_45 : Unt T38.heap nb1 := (Unt.keep Kq38 nin0 (Unt.keep Kq29 (ninS ne_nb1_nb6 (ninS ne_nb1_ar7 nin0)) (Unt.keep Kq24 (ninS ne_nb1_nb6 (ninS ne_nb1_ar7 nin0)) (Unt.ext Ex14 (Unt.keep Kq13 (ninS ne_nb1_nb6 nin0) (Unt.ext Ex6 (Unt.ext Ex4 Un1)))))))
    have F_46 : Fld Z T38.heap nb1 "java/lang/Throwable" "cause" "Ljava/lang/Throwable;" .null := ((((Fld.ext Ex14 ((Fld.ext Ex6 (Fld.ext Ex4 F1_cause)).keep Kq13 (ninS ne_nb1_nb6 nin0))).keep Kq24 (ninS ne_nb1_nb6 (ninS ne_nb1_ar7 nin0))).keep Kq29 (ninS ne_nb1_nb6 (ninS ne_nb1_ar7 nin0))).keep Kq38 nin0)
    have F_47 : Fld Z T38.heap nb1 "java/lang/Throwable" "stackTrace" "[Ljava/lang/StackTraceElement;" .null := ((((Fld.ext Ex14 ((Fld.ext Ex6 (Fld.ext Ex4 F1_stackTrace)).keep Kq13 (ninS ne_nb1_nb6 nin0))).keep Kq24 (ninS ne_nb1_nb6 (ninS ne_nb1_ar7 nin0))).keep Kq29 (ninS ne_nb1_nb6 (ninS ne_nb1_ar7 nin0))).keep Kq38 nin0)
    have F_48 : Fld Z T38.heap nb1 "java/lang/Throwable" "suppressedExceptions" "Ljava/util/List;" .null := ((((Fld.ext Ex14 ((Fld.ext Ex6 (Fld.ext Ex4 F1_suppressedExceptions)).keep Kq13 (ninS ne_nb1_nb6 nin0))).keep Kq24 (ninS ne_nb1_nb6 (ninS ne_nb1_ar7 nin0))).keep Kq29 (ninS ne_nb1_nb6 (ninS ne_nb1_ar7 nin0))).keep Kq38 nin0)
    have F_49 : Fld Z T38.heap nb1 "java/lang/Throwable" "backtrace" "Ljava/lang/Object;" .null := ((((Fld.ext Ex14 ((Fld.ext Ex6 (Fld.ext Ex4 F1_backtrace)).keep Kq13 (ninS ne_nb1_nb6 nin0))).keep Kq24 (ninS ne_nb1_nb6 (ninS ne_nb1_ar7 nin0))).keep Kq29 (ninS ne_nb1_nb6 (ninS ne_nb1_ar7 nin0))).keep Kq38 nin0)
    have F_50 : Fld Z T38.heap nb1 "java/lang/Throwable" "detailMessage" "Ljava/lang/String;" .null := ((((Fld.ext Ex14 ((Fld.ext Ex6 (Fld.ext Ex4 F1_detailMessage)).keep Kq13 (ninS ne_nb1_nb6 nin0))).keep Kq24 (ninS ne_nb1_nb6 (ninS ne_nb1_ar7 nin0))).keep Kq29 (ninS ne_nb1_nb6 (ninS ne_nb1_ar7 nin0))).keep Kq38 nin0)
    have F_51 : Fld Z T38.heap nb1 "com/example/dequeue/dequeue/RefusedException" "kind" "Lcom/example/dequeue/dequeue/RefusedException$Kind;" .null := ((((Fld.ext Ex14 ((Fld.ext Ex6 (Fld.ext Ex4 F1_kind)).keep Kq13 (ninS ne_nb1_nb6 nin0))).keep Kq24 (ninS ne_nb1_nb6 (ninS ne_nb1_ar7 nin0))).keep Kq29 (ninS ne_nb1_nb6 (ninS ne_nb1_ar7 nin0))).keep Kq38 nin0)
    have C_52 : Exa Z T38.heap nb4 "java/lang/String" := (C_32.keep Kq38)
    have F_53 : Fld Z T38.heap nb4 "java/lang/String" "value" "[B" (.ref d4) := ((((Fld.ext Ex14 ((Fld.ext Ex6 Fv4).keep Kq13 (ninS ne_nb4_nb6 nin0))).keep Kq24 (ninS ne_nb4_nb6 (ninS ne_nb4_ar7 nin0))).keep Kq29 (ninS ne_nb4_nb6 (ninS ne_nb4_ar7 nin0))).keep Kq38 nin0)
    have F_54 : Fld Z T38.heap nb4 "java/lang/String" "coder" "B" (.int (0 : Int32)) := ((((Fld.ext Ex14 ((Fld.ext Ex6 Fc4).keep Kq13 (ninS ne_nb4_nb6 nin0))).keep Kq24 (ninS ne_nb4_nb6 (ninS ne_nb4_ar7 nin0))).keep Kq29 (ninS ne_nb4_nb6 (ninS ne_nb4_ar7 nin0))).keep Kq38 nin0)
    have By_55 : OBy Z T38.heap d4 (2 : Int32) := (By_33.keep Kq38 nin0)
    refine own_initK X38 hx hZ hEL hS hk hC hTK hBL (W := 1) hown rfl (rmRX l Z a0 hw [] nb1 kd0 nb4 saq30 d4 vaq30 ((9 : Int32) + (Jvm.Free.SBG.strSizeOfL x1)) z uu ss T38.heap n0 (Nat.le_trans (Nat.le_trans (Nat.le_trans (Nat.le_trans (Nat.le_trans (Nat.le_trans (Nat.le_trans (Nat.le_trans Z0 Ex1.1) Ex4.1) Ex6.1) Kq13.1) Ex14.1) Kq24.1) Kq29.1) Kq38.1) S_40 hz hst Th_41 huu hun hss S_42 S_43 g_nb1 C_44 Un_45 F_46 F_47 F_48 F_49 F_50 F_51 C_52 F_53 F_54 By_55 Eq30 Vq30 Kcq30 Bq30 (by rw [(own_add (x := (9 : Int32)) (y := (Jvm.Free.SBG.strSizeOfL x1)) (by decide) (by have := own_ssz x1; omega) (by have := own_ssz x1; rw [own_i9]; omega)), own_i9]; have := own_ssz x1; omega) (by rw [(own_add (x := (9 : Int32)) (y := (Jvm.Free.SBG.strSizeOfL x1)) (by decide) (by have := own_ssz x1; omega) (by have := own_ssz x1; rw [own_i9]; omega)), own_i9]; have := own_ssz x1; omega)) rfl (hw _ (List.mem_of_getElem? (i := 156) rfl)) (hw _ (List.mem_of_getElem? (i := 157) rfl)) (hw _ (List.mem_of_getElem? (i := 158) rfl)) (hw _ (List.mem_of_getElem? (i := 2) rfl)) (by decide) (by decide) (by decide) (g := (mkF m 28 #[.val (.long x1), .second] [(.ref saq30), (.ref nb4), (.ref kd0), (.ref nb1), (.ref nb1)])) rfl (by rw [hml]; rfl) (argsL := [(.ref kd0), (.ref nb4), (.ref saq30)]) (rest := [(.ref nb1)]) rfl (lenOf pd_22 rfl) rfl (by show 2 * 0 + _ ≤ _; exact Nat.le_of_eq rfl) (hb hby d1_28) (by decide) (by decide) ?_
    intro v56 T56 L56 hB56
    obtain ⟨X56, hQ56, hS, hZ, hown, hC⟩ := hB56
    have hk := Nat.le_refl T56.heap.size
    obtain ⟨rfl, Nq56, Kq56, Cx, Fkx⟩ := hQ56
    have N56 := Fr.app N38 Nq56
    have K56 : Keep h0 T56.heap [] := K38.trans Kq56 (allS (Or.inr sz_nb1) all0)
    show OGo p e below _ T56 (mkF m 31 #[.val (.long x1), .second] [(.ref nb1)])
    exact own_retAW X56 hx hZ hEL hS hk hC hret rfl rfl hlk (hb hby d1_31) rfl (by exact ⟨⟨_, rfl, Cx, Fkx⟩, N56, K56⟩) (by decide) (by decide)
  · have S_58 : Sta Z T24.heap "java/lang/String" "COMPACT_STRINGS" "Z" (.int z) := (own_sta_keep S_18 Kq24 (allS (own_nsE C_16) (allS (own_nsE C_23) all0)))
    have O_59 : Old Z n0 T24.heap := ((((((O0.ext Ex1).ext Ex4).ext Ex6).keep Kq13 (allS g_nb6 all0)).ext Ex14).keep Kq24 (allS g_nb6 (allS g_ar7 all0)))
    have C_60 : Exa Z T24.heap nb1 "com/example/dequeue/dequeue/RefusedException" := (C_15.keep Kq24)
    have C_61 : Exa Z T24.heap nb4 "java/lang/String" := ((Exa.ext Ex14 (C_10.keep Kq13)).keep Kq24)
    have By_62 : OBy Z T24.heap d4 (2 : Int32) := (((By_11.keep Kq13 (ninS ne_d4_nb6 nin0)).ext Ex14).keep Kq24 (ninS ne_d4_nb6 (ninS ne_d4_ar7 nin0)))
    have C_63 : Exa Z T24.heap nb14 "java/lang/String" := (C14.keep Kq24)
    have By_64 : OBy Z T24.heap d14 (9 : Int32) := (Bv14.keep Kq24 (ninS (Ne.symm ne_nb6_d14) (ninS (Ne.symm ne_ar7_d14) nin0)))
    refine own_callV X24 hx hZ (W := 4) hown rfl (rmSJG l Z a0 hw [] nb6 ar7 z x1 dst da1 da2 DC1 DC2 T24.heap n0 (Nat.le_trans (Nat.le_trans (Nat.le_trans (Nat.le_trans (Nat.le_trans (Nat.le_trans Z0 Ex1.1) Ex4.1) Ex6.1) Kq13.1) Ex14.1) Kq24.1) S_58 hz g_nb6 g_ar7 Eq17 Vq17 Kcq17 Mq17 Bq17 tb1 tb2 O_59 (by omega)) Eq17 (hw _ (List.mem_of_getElem? (i := 88) rfl)) (hw _ (List.mem_of_getElem? (i := 89) rfl)) (notFace_of_selects (args := #[]) (mvT hZ (hw _ (List.mem_of_getElem? (i := 91) rfl)))) (hw _ (List.mem_of_getElem? (i := 91) rfl)) (hw _ (List.mem_of_getElem? (i := 90) rfl)) (hw _ (List.mem_of_getElem? (i := 92) rfl)) (hw _ (List.mem_of_getElem? (i := 19) rfl)) (by decide) (by decide) (by decide) (g := (mkF m 22 #[.val (.long x1), .second] [(.long x1), (.ref nb6), (.ref nb4), (.ref kd0), (.ref nb1), (.ref nb1)])) rfl (by rw [hml]; rfl) (argsL := [(.long x1)]) (rest := [(.ref nb4), (.ref kd0), (.ref nb1), (.ref nb1)]) rfl (lenOf pd_21 rfl) rfl (by show 2 * 0 + _ ≤ _; exact Nat.le_of_eq rfl) (hb hby d1_22) (by decide) (by decide) ?_
    intro v65 T65 L65 X65 hQ65
    obtain ⟨rfl, ⟨brq57, szbq57, g_brq57, Bq57, Xq57, Eq57, Vq57, Kcq57, Mq57⟩, Nq65, Kq65⟩ := hQ65
    have N65 := Fr.app N24 Nq65
    have K65 : Keep h0 T65.heap [] := K24.trans Kq65 (allS (Or.inr sz_nb6) all0)
    have hk := Nat.le_trans hk Kq65.1
    have SFKq65_ar7 := Safe.keep Kq65 (sfS (Safe.exa (hZ).alike Eq17 (by decide) (by decide)) sf0) hC.1 SFKq24_ar7
    have SFKq65_brq57 := Safe.keep Kq65 (sfS (Safe.exa (hZ).alike Eq17 (by decide) (by decide)) sf0) hC.1 (Safe.new szbq57)
    have hC := hC.trans (CHr.keep Kq65 (sfS (Safe.exa (hZ).alike Eq17 (by decide) (by decide)) sf0) hC.1)
    have sz_brq57 : h0.size ≤ brq57 := Nat.le_trans K24.1 szbq57
    show OGo p e below _ T65 (mkF m 25 #[.val (.long x1), .second] [(.ref nb6), (.ref nb4), (.ref kd0), (.ref nb1), (.ref nb1)])
    have ne_nb1_brq57 : nb1 ≠ brq57 := Nat.ne_of_lt (Nat.lt_of_lt_of_le C_60.lt szbq57)
    have ne_nb4_brq57 : nb4 ≠ brq57 := Nat.ne_of_lt (Nat.lt_of_lt_of_le C_61.lt szbq57)
    have ne_d4_brq57 : d4 ≠ brq57 := Nat.ne_of_lt (Nat.lt_of_lt_of_le By_62.lt szbq57)
    have ne_nb6_brq57 : nb6 ≠ brq57 := Nat.ne_of_lt (Nat.lt_of_lt_of_le Eq17.lt szbq57)
    have ne_ar7_brq57 : ar7 ≠ brq57 := Nat.ne_of_lt (Nat.lt_of_lt_of_le Bq17.lt szbq57)
    have ne_nb14_brq57 : nb14 ≠ brq57 := Nat.ne_of_lt (Nat.lt_of_lt_of_le C_63.lt szbq57)
    have ne_d14_brq57 : d14 ≠ brq57 := Nat.ne_of_lt (Nat.lt_of_lt_of_le By_64.lt szbq57)
    have C_67 : Exa Z T65.heap nb1 "com/example/dequeue/dequeue/RefusedException" := (C_60.keep Kq65)
    have C_68 : Exa Z T65.heap nb4 "java/lang/String" := (C_61.keep Kq65)
    have By_69 : OBy Z T65.heap d4 (2 : Int32) := (By_62.keep Kq65 (ninS ne_d4_nb6 nin0))
    have By_70 : OBy Z T65.heap ar7 (16 : Int32) := (Bq17.keep Kq65 (ninS (Ne.symm ne_nb6_ar7) nin0))
    have C_71 : Exa Z T65.heap nb14 "java/lang/String" := (C_63.keep Kq65)
    have By_72 : OBy Z T65.heap d14 (9 : Int32) := (By_64.keep Kq65 (ninS (Ne.symm ne_nb6_d14) nin0))
    have S_73 : Sta Z T65.heap "java/lang/String" "COMPACT_STRINGS" "Z" (.int z) := (own_sta_keep S_58 Kq65 (allS (own_nsE Eq17) all0))
    refine own_callV X65 hx hZ (W := 4) hown rfl (rmTS l Z a0 hw [] nb6 brq57 ((9 : Int32) + (Jvm.Free.SBG.strSizeOfL x1)) (34 : Int32) z T65.heap n0 (Nat.le_trans (Nat.le_trans (Nat.le_trans (Nat.le_trans (Nat.le_trans (Nat.le_trans (Nat.le_trans Z0 Ex1.1) Ex4.1) Ex6.1) Kq13.1) Ex14.1) Kq24.1) Kq65.1) S_73 hz Eq57 Vq57 Kcq57 Mq57 Bq57 Xq57 (by rw [(own_add (x := (9 : Int32)) (y := (Jvm.Free.SBG.strSizeOfL x1)) (by decide) (by have := own_ssz x1; omega) (by have := own_ssz x1; rw [own_i9]; omega)), own_i9]; have := own_ssz x1; omega) (by rw [own_i34]; rw [(own_add (x := (9 : Int32)) (y := (Jvm.Free.SBG.strSizeOfL x1)) (by decide) (by have := own_ssz x1; omega) (by have := own_ssz x1; rw [own_i9]; omega)), own_i9]; have := own_ssz x1; omega) (by decide)) Eq57 (hw _ (List.mem_of_getElem? (i := 113) rfl)) (hw _ (List.mem_of_getElem? (i := 114) rfl)) (notFace_of_selects (args := #[]) (mvT hZ (hw _ (List.mem_of_getElem? (i := 116) rfl)))) (hw _ (List.mem_of_getElem? (i := 116) rfl)) (hw _ (List.mem_of_getElem? (i := 115) rfl)) (hw _ (List.mem_of_getElem? (i := 117) rfl)) (hw _ (List.mem_of_getElem? (i := 19) rfl)) (by decide) (by decide) (by decide) (g := (mkF m 25 #[.val (.long x1), .second] [(.ref nb6), (.ref nb4), (.ref kd0), (.ref nb1), (.ref nb1)])) rfl (by rw [hml]; rfl) (argsL := []) (rest := [(.ref nb4), (.ref kd0), (.ref nb1), (.ref nb1)]) rfl (lenOf pd_20 rfl) rfl (by show 2 * 0 + _ ≤ _; exact Nat.le_of_eq rfl) (hb hby d1_25) (by decide) (by decide) ?_
    intro v74 T74 L74 X74 hQ74
    obtain ⟨⟨saq66, vaq66, rfl, szsq66, szvq66, Eq66, Vq66, Kcq66, Bq66⟩, Nq74, Kq74⟩ := hQ74
    have N74 := Fr.app N65 Nq74
    have K74 : Keep h0 T74.heap [] := K65.trans Kq74 all0
    have hk := Nat.le_trans hk Kq74.1
    have SFKq74_ar7 := Safe.keep Kq74 sf0 hC.1 SFKq65_ar7
    have SFKq74_brq57 := Safe.keep Kq74 sf0 hC.1 SFKq65_brq57
    have hC := hC.trans (CHr.keep Kq74 sf0 hC.1)
    show OGo p e below _ T74 (mkF m 28 #[.val (.long x1), .second] [(.ref saq66), (.ref nb4), (.ref kd0), (.ref nb1), (.ref nb1)])
    have ne_nb1_saq66 : nb1 ≠ saq66 := Nat.ne_of_lt (Nat.lt_of_lt_of_le C_67.lt szsq66)
    have ne_nb1_vaq66 : nb1 ≠ vaq66 := Nat.ne_of_lt (Nat.lt_of_lt_of_le C_67.lt szvq66)
    have ne_nb4_saq66 : nb4 ≠ saq66 := Nat.ne_of_lt (Nat.lt_of_lt_of_le C_68.lt szsq66)
    have ne_nb4_vaq66 : nb4 ≠ vaq66 := Nat.ne_of_lt (Nat.lt_of_lt_of_le C_68.lt szvq66)
    have ne_d4_saq66 : d4 ≠ saq66 := Nat.ne_of_lt (Nat.lt_of_lt_of_le By_69.lt szsq66)
    have ne_d4_vaq66 : d4 ≠ vaq66 := Nat.ne_of_lt (Nat.lt_of_lt_of_le By_69.lt szvq66)
    have ne_nb6_saq66 : nb6 ≠ saq66 := Nat.ne_of_lt (Nat.lt_of_lt_of_le Eq57.lt szsq66)
    have ne_nb6_vaq66 : nb6 ≠ vaq66 := Nat.ne_of_lt (Nat.lt_of_lt_of_le Eq57.lt szvq66)
    have ne_ar7_saq66 : ar7 ≠ saq66 := Nat.ne_of_lt (Nat.lt_of_lt_of_le By_70.lt szsq66)
    have ne_ar7_vaq66 : ar7 ≠ vaq66 := Nat.ne_of_lt (Nat.lt_of_lt_of_le By_70.lt szvq66)
    have ne_nb14_saq66 : nb14 ≠ saq66 := Nat.ne_of_lt (Nat.lt_of_lt_of_le C_71.lt szsq66)
    have ne_nb14_vaq66 : nb14 ≠ vaq66 := Nat.ne_of_lt (Nat.lt_of_lt_of_le C_71.lt szvq66)
    have ne_d14_saq66 : d14 ≠ saq66 := Nat.ne_of_lt (Nat.lt_of_lt_of_le By_72.lt szsq66)
    have ne_d14_vaq66 : d14 ≠ vaq66 := Nat.ne_of_lt (Nat.lt_of_lt_of_le By_72.lt szvq66)
    have ne_brq57_saq66 : brq57 ≠ saq66 := Nat.ne_of_lt (Nat.lt_of_lt_of_le Bq57.lt szsq66)
    have ne_brq57_vaq66 : brq57 ≠ vaq66 := Nat.ne_of_lt (Nat.lt_of_lt_of_le Bq57.lt szvq66)
    have S_76 : Sta Z T74.heap "java/lang/String" "COMPACT_STRINGS" "Z" (.int z) := (own_sta_keep S_73 Kq74 all0)
    have Th_77 : ThS Z T74.heap := (ThS.keep Kq74 all0 (ThS.keep Kq65 (allS (own_nsE Eq17) all0) (ThS.keep Kq24 (allS (own_nsE C_16) (allS (own_nsE C_23) all0)) (ThS.ext Ex14 (ThS.keep Kq13 (allS (own_nsE A6) all0) (ThS.ext Ex6 (ThS.ext Ex4 (ThS.ext Ex1 HT))))))))
    have S_78 : Sta Z T74.heap "java/lang/Throwable" "UNASSIGNED_STACK" "[Ljava/lang/StackTraceElement;" uu := (own_sta_keep (own_sta_keep (own_sta_keep (Sta.ext Ex14 (own_sta_keep (Sta.ext Ex6 (Sta.ext Ex4 (Sta.ext Ex1 S_UN))) Kq13 (allS (own_nsE A6) all0))) Kq24 (allS (own_nsE C_16) (allS (own_nsE C_23) all0))) Kq65 (allS (own_nsE Eq17) all0)) Kq74 all0)
    have S_79 : Sta Z T74.heap "java/lang/Throwable" "SUPPRESSED_SENTINEL" "Ljava/util/List;" ss := (own_sta_keep (own_sta_keep (own_sta_keep (Sta.ext Ex14 (own_sta_keep (Sta.ext Ex6 (Sta.ext Ex4 (Sta.ext Ex1 S_SE))) Kq13 (allS (own_nsE A6) all0))) Kq24 (allS (own_nsE C_16) (allS (own_nsE C_23) all0))) Kq65 (allS (own_nsE Eq17) all0)) Kq74 all0)
    have C_80 : Exa Z T74.heap nb1 "com/example/dequeue/dequeue/RefusedException" := (C_67.keep Kq74)
    have Un_81 : Unt T74.heap nb1 := (Unt.keep Kq74 nin0 (Unt.keep Kq65 (ninS ne_nb1_nb6 nin0) (Unt.keep Kq24 (ninS ne_nb1_nb6 (ninS ne_nb1_ar7 nin0)) (Unt.ext Ex14 (Unt.keep Kq13 (ninS ne_nb1_nb6 nin0) (Unt.ext Ex6 (Unt.ext Ex4 Un1)))))))
    have F_82 : Fld Z T74.heap nb1 "java/lang/Throwable" "cause" "Ljava/lang/Throwable;" .null := ((((Fld.ext Ex14 ((Fld.ext Ex6 (Fld.ext Ex4 F1_cause)).keep Kq13 (ninS ne_nb1_nb6 nin0))).keep Kq24 (ninS ne_nb1_nb6 (ninS ne_nb1_ar7 nin0))).keep Kq65 (ninS ne_nb1_nb6 nin0)).keep Kq74 nin0)
    have F_83 : Fld Z T74.heap nb1 "java/lang/Throwable" "stackTrace" "[Ljava/lang/StackTraceElement;" .null := ((((Fld.ext Ex14 ((Fld.ext Ex6 (Fld.ext Ex4 F1_stackTrace)).keep Kq13 (ninS ne_nb1_nb6 nin0))).keep Kq24 (ninS ne_nb1_nb6 (ninS ne_nb1_ar7 nin0))).keep Kq65 (ninS ne_nb1_nb6 nin0)).keep Kq74 nin0)
    have F_84 : Fld Z T74.heap nb1 "java/lang/Throwable" "suppressedExceptions" "Ljava/util/List;" .null := ((((Fld.ext Ex14 ((Fld.ext Ex6 (Fld.ext Ex4 F1_suppressedExceptions)).keep Kq13 (ninS ne_nb1_nb6 nin0))).keep Kq24 (ninS ne_nb1_nb6 (ninS ne_nb1_ar7 nin0))).keep Kq65 (ninS ne_nb1_nb6 nin0)).keep Kq74 nin0)
    have F_85 : Fld Z T74.heap nb1 "java/lang/Throwable" "backtrace" "Ljava/lang/Object;" .null := ((((Fld.ext Ex14 ((Fld.ext Ex6 (Fld.ext Ex4 F1_backtrace)).keep Kq13 (ninS ne_nb1_nb6 nin0))).keep Kq24 (ninS ne_nb1_nb6 (ninS ne_nb1_ar7 nin0))).keep Kq65 (ninS ne_nb1_nb6 nin0)).keep Kq74 nin0)
    have F_86 : Fld Z T74.heap nb1 "java/lang/Throwable" "detailMessage" "Ljava/lang/String;" .null := ((((Fld.ext Ex14 ((Fld.ext Ex6 (Fld.ext Ex4 F1_detailMessage)).keep Kq13 (ninS ne_nb1_nb6 nin0))).keep Kq24 (ninS ne_nb1_nb6 (ninS ne_nb1_ar7 nin0))).keep Kq65 (ninS ne_nb1_nb6 nin0)).keep Kq74 nin0)
    have F_87 : Fld Z T74.heap nb1 "com/example/dequeue/dequeue/RefusedException" "kind" "Lcom/example/dequeue/dequeue/RefusedException$Kind;" .null := ((((Fld.ext Ex14 ((Fld.ext Ex6 (Fld.ext Ex4 F1_kind)).keep Kq13 (ninS ne_nb1_nb6 nin0))).keep Kq24 (ninS ne_nb1_nb6 (ninS ne_nb1_ar7 nin0))).keep Kq65 (ninS ne_nb1_nb6 nin0)).keep Kq74 nin0)
    have C_88 : Exa Z T74.heap nb4 "java/lang/String" := (C_68.keep Kq74)
    have F_89 : Fld Z T74.heap nb4 "java/lang/String" "value" "[B" (.ref d4) := ((((Fld.ext Ex14 ((Fld.ext Ex6 Fv4).keep Kq13 (ninS ne_nb4_nb6 nin0))).keep Kq24 (ninS ne_nb4_nb6 (ninS ne_nb4_ar7 nin0))).keep Kq65 (ninS ne_nb4_nb6 nin0)).keep Kq74 nin0)
    have F_90 : Fld Z T74.heap nb4 "java/lang/String" "coder" "B" (.int (0 : Int32)) := ((((Fld.ext Ex14 ((Fld.ext Ex6 Fc4).keep Kq13 (ninS ne_nb4_nb6 nin0))).keep Kq24 (ninS ne_nb4_nb6 (ninS ne_nb4_ar7 nin0))).keep Kq65 (ninS ne_nb4_nb6 nin0)).keep Kq74 nin0)
    have By_91 : OBy Z T74.heap d4 (2 : Int32) := (By_69.keep Kq74 nin0)
    refine own_initK X74 hx hZ hEL hS hk hC hTK hBL (W := 1) hown rfl (rmRX l Z a0 hw [] nb1 kd0 nb4 saq66 d4 vaq66 ((9 : Int32) + (Jvm.Free.SBG.strSizeOfL x1)) z uu ss T74.heap n0 (Nat.le_trans (Nat.le_trans (Nat.le_trans (Nat.le_trans (Nat.le_trans (Nat.le_trans (Nat.le_trans (Nat.le_trans Z0 Ex1.1) Ex4.1) Ex6.1) Kq13.1) Ex14.1) Kq24.1) Kq65.1) Kq74.1) S_76 hz hst Th_77 huu hun hss S_78 S_79 g_nb1 C_80 Un_81 F_82 F_83 F_84 F_85 F_86 F_87 C_88 F_89 F_90 By_91 Eq66 Vq66 Kcq66 Bq66 (by rw [(own_add (x := (9 : Int32)) (y := (Jvm.Free.SBG.strSizeOfL x1)) (by decide) (by have := own_ssz x1; omega) (by have := own_ssz x1; rw [own_i9]; omega)), own_i9]; have := own_ssz x1; omega) (by rw [(own_add (x := (9 : Int32)) (y := (Jvm.Free.SBG.strSizeOfL x1)) (by decide) (by have := own_ssz x1; omega) (by have := own_ssz x1; rw [own_i9]; omega)), own_i9]; have := own_ssz x1; omega)) rfl (hw _ (List.mem_of_getElem? (i := 156) rfl)) (hw _ (List.mem_of_getElem? (i := 157) rfl)) (hw _ (List.mem_of_getElem? (i := 158) rfl)) (hw _ (List.mem_of_getElem? (i := 2) rfl)) (by decide) (by decide) (by decide) (g := (mkF m 28 #[.val (.long x1), .second] [(.ref saq66), (.ref nb4), (.ref kd0), (.ref nb1), (.ref nb1)])) rfl (by rw [hml]; rfl) (argsL := [(.ref kd0), (.ref nb4), (.ref saq66)]) (rest := [(.ref nb1)]) rfl (lenOf pd_22 rfl) rfl (by show 2 * 0 + _ ≤ _; exact Nat.le_of_eq rfl) (hb hby d1_28) (by decide) (by decide) ?_
    intro v92 T92 L92 hB92
    obtain ⟨X92, hQ92, hS, hZ, hown, hC⟩ := hB92
    have hk := Nat.le_refl T92.heap.size
    obtain ⟨rfl, Nq92, Kq92, Cx, Fkx⟩ := hQ92
    have N92 := Fr.app N74 Nq92
    have K92 : Keep h0 T92.heap [] := K74.trans Kq92 (allS (Or.inr sz_nb1) all0)
    show OGo p e below _ T92 (mkF m 31 #[.val (.long x1), .second] [(.ref nb1)])
    exact own_retAW X92 hx hZ hEL hS hk hC hret rfl rfl hlk (hb hby d1_31) rfl (by exact ⟨⟨_, rfl, Cx, Fkx⟩, N92, K92⟩) (by decide) (by decide)
theorem d34_0 : decode prog_12_method_4_code 0 = .ok (.aload_n 0, 1) := by decide +kernel
theorem d34_1 : decode prog_12_method_4_code 1 = .ok (.getfield 22, 3) := by decide +kernel
theorem d34_4 : decode prog_12_method_4_code 4 = .ok (.areturn, 1) := by decide +kernel
set_option maxRecDepth 65536 in
set_option maxHeartbeats 40000000 in
theorem rmKi (l : Launch) (Z : State) (a0 : Array Value) (hw : ∀ d ∈ tables_1, d.before a0 Z = true) (ws : List Jvm.Cond) (a1 kd0 : Addr) (h0 : Heap) (n0 : Nat) (Z0 : n0 ≤ h0.size) (Fk : Fld Z h0 a1 "com/example/dequeue/dequeue/RefusedException" "kind" "Lcom/example/dequeue/dequeue/RefusedException$Kind;" (.ref kd0)) :
    OMet l (⟨"com/example/dequeue/dequeue/RefusedException", "kind", "()Lcom/example/dequeue/dequeue/RefusedException$Kind;"⟩ : MethodName) prog_12_method_4_code 1 (some (.object "com/example/dequeue/dequeue/RefusedException$Kind")) ws ({ frames := 0, cells := 0, slots := 0, locals := 0 } : Room) Z #[(.ref a1)] h0 (fun v h L => v = some (.ref kd0) ∧ L = [] ∧ h = h0) := by
  refine own_body (plainFor_of_name pn_28) ?_
  intro p e s m below meth cdx T0 X0 hx hZ hby hml hown hnm hret hlk e0
  have N0 := Fr.nil n0
  refine own_entry (g' := (mkF m 0 #[.val (.ref a1)] [])) (by first | rfl | (simp [entryFrame, mkF, argsToLocals, Value.category, maxLocals]; done)) ?_
  refine own_step (g' := (mkF m 1 #[.val (.ref a1)] [(.ref a1)])) (fun _ kont => XS.aloadN X0.here hx rfl (hb hby d34_0) rfl rfl kont) ?_
  obtain ⟨T1, X1, e1, st1⟩ := getF X0 hx hZ hown (host := "") (Or.inl (hw _ (List.mem_of_getElem? (i := 214) rfl))) Via.refl e0 Fk (g := (mkF m 1 #[.val (.ref a1)] [(.ref a1)])) rfl rfl (hb hby d34_1)
  refine own_via (g' := (mkF m 4 #[.val (.ref a1)] [(.ref kd0)])) st1 ?_
  exact own_retA X1 hx hret rfl rfl hlk (hb hby d34_4) e1 (by exact ⟨rfl, rfl, rfl⟩) (by decide) (by decide)
def Q0 (n0 : Nat) : Option Value → Heap → List Loc → Prop := fun v h L => v = some (.int 1) ∧ Fr n0 L
theorem pd_23 : parseMethodDescriptor "(J)Lcom/example/dequeue/dequeue/RefusedException;" = some ⟨[.long], some (.object "com/example/dequeue/dequeue/RefusedException")⟩ := by decide +kernel
theorem pd_24 : parseMethodDescriptor "()Lcom/example/dequeue/dequeue/RefusedException$Kind;" = some ⟨[], some (.object "com/example/dequeue/dequeue/RefusedException$Kind")⟩ := by decide +kernel
theorem pn_0 : plainName "com/example/dequeue/dequeue/RefusedExceptionNoSuchEventPinLaw" = true := by first | (simp [plainName, overriddenIn]; done) | decide +kernel
set_option maxRecDepth 65536 in
set_option maxHeartbeats 40000000 in
theorem rm0 (l : Launch) (Z : State) (a0 : Array Value) (hw : ∀ d ∈ tables_1, d.before a0 Z = true) (ws : List Jvm.Cond) (x1 : Int64) (kd0 : Addr) (z : Int32) (uu ss : Value) (dst da1 da2 : Addr) (DC1 DC2 : Cell) (h0 : Heap) (n0 : Nat) (Z0 : n0 ≤ h0.size) (S_CS : Sta Z h0 "java/lang/String" "COMPACT_STRINGS" "Z" (.int z)) (hz : ¬ (z = (0 : Int32))) (hst : l.stackTraces = true) (HT : ThS Z h0) (huu : uu.isRef = true) (hun : uu ≠ .null) (hss : ss.isRef = true) (S_UN : Sta Z h0 "java/lang/Throwable" "UNASSIGNED_STACK" "[Ljava/lang/StackTraceElement;" uu) (S_SE : Sta Z h0 "java/lang/Throwable" "SUPPRESSED_SENTINEL" "Ljava/util/List;" ss) (S_NF : Sta Z h0 "com/example/dequeue/dequeue/RefusedException$Kind" "NOT_FOUND" "Lcom/example/dequeue/dequeue/RefusedException$Kind;" (.ref kd0)) (tb1 : Jvm.Free.SBG.Tbl Z "DigitOnes" dst da1 DC1) (tb2 : Jvm.Free.SBG.Tbl Z "DigitTens" dst da2 DC2) (O0 : Old Z n0 h0) :
    OMetK l x code maxLocals ret ws room_1 Z (consts_1) #[(.long x1)] h0 (Q0 n0) := by
  refine own_bodyK (plainFor_of_name pn_0) ?_
  intro p e s m below meth cdx T0 X0 hx hZ hby hml hown hnm hret hlk e0 hS hC hTK hBL hsh
  have N0 := Fr.nil n0
  have hk : h0.size ≤ h0.size := Nat.le_refl _
  have hwS : ∀ d ∈ Bundle.stringAtoms, d.before a0 Z = true := fun d hd => hw d ((by decide +kernel : ∀ d ∈ Bundle.stringAtoms, d ∈ tables_1) d hd)
  refine own_entry (g' := (mkF m 0 #[.val (.long x1), .second, .unset] [])) (by first | rfl | (simp [entryFrame, mkF, argsToLocals, Value.category, maxLocals]; done)) ?_
  have hEL : EW Z a0 consts_1 := EW.cons (hw _ (List.mem_of_getElem? (i := 159) rfl)) (by decide) (EW.cons (hw _ (List.mem_of_getElem? (i := 9) rfl)) (by decide) (EW.cons (hw _ (List.mem_of_getElem? (i := 37) rfl)) (by decide) EW.nil))
  refine own_step (g' := (mkF m 1 #[.val (.long x1), .second, .unset] [(.long x1)])) (fun _ kont => XS.lloadN X0.here hx rfl (hb hby at_0) rfl kont) ?_
  refine own_callSK X0 hx hZ hEL hS hk hC hTK hBL (W := 0) hown e0 (rmNE l Z a0 hw [] x1 kd0 z uu ss dst da1 da2 DC1 DC2 h0 n0 Z0 S_CS hz hst HT huu hun hss S_UN S_SE S_NF tb1 tb2 O0) (hw _ (List.mem_of_getElem? (i := 0) rfl)) (hw _ (List.mem_of_getElem? (i := 1) rfl)) (hw _ (List.mem_of_getElem? (i := 2) rfl)) (hw _ (List.mem_of_getElem? (i := 3) rfl)) (by decide) (by decide) (by decide) (g := (mkF m 1 #[.val (.long x1), .second, .unset] [(.long x1)])) rfl (by rw [hml]; rfl) (argsL := [(.long x1)]) (rest := []) rfl (lenOf pd_23 rfl) rfl (by show 2 * 0 + _ ≤ _; exact Nat.le_of_eq rfl) (hb hby at_1) (by decide) (by decide) ?_
  intro v1 T1 L1 hB1
  obtain ⟨X1, hQ1, hS, hZ, hown, hC⟩ := hB1
  have hk := Nat.le_refl T1.heap.size
  obtain ⟨⟨xb, rfl, Cb, Fb⟩, Nq1, Kq1⟩ := hQ1
  have N1 := Fr.app N0 Nq1
  show OGo p e below _ T1 (mkF m 4 #[.val (.long x1), .second, .unset] [(.ref xb)])
  refine own_step (g' := (mkF m 5 #[.val (.long x1), .second, .val (.ref xb)] [])) (fun _ kont => XS.astoreN X1.here hx rfl (hb hby at_4) rfl rfl (l' := #[.val (.long x1), .second, .val (.ref xb)]) rfl kont) ?_
  refine own_step (g' := (mkF m 6 #[.val (.long x1), .second, .val (.ref xb)] [(.ref xb)])) (fun _ kont => XS.aloadN X1.here hx rfl (hb hby at_5) rfl rfl kont) ?_
  refine own_step (g' := (mkF m 11 #[.val (.long x1), .second, .val (.ref xb)] [])) (fun _ kont => XS.ifnonnullYes X1.here hx rfl (pc0 := 6) (pc' := 11) rfl (hb hby at_6) rfl (by decide) (by decide) kont) ?_
  refine own_step (g' := (mkF m 12 #[.val (.long x1), .second, .val (.ref xb)] [(.ref xb)])) (fun _ kont => XS.aloadN X1.here hx rfl (hb hby at_11) rfl rfl kont) ?_
  refine own_callV X1 hx hZ (W := 0) hown rfl (rmKi l Z a0 hw [] xb kd0 T1.heap n0 (Nat.le_trans Z0 Kq1.1) Fb) Cb (hw _ (List.mem_of_getElem? (i := 216) rfl)) (hw _ (List.mem_of_getElem? (i := 217) rfl)) (notFace_of_selects (args := #[]) (mvT hZ (hw _ (List.mem_of_getElem? (i := 219) rfl)))) (hw _ (List.mem_of_getElem? (i := 219) rfl)) (hw _ (List.mem_of_getElem? (i := 218) rfl)) (hw _ (List.mem_of_getElem? (i := 220) rfl)) (hw _ (List.mem_of_getElem? (i := 2) rfl)) (by decide) (by decide) (by decide) (g := (mkF m 12 #[.val (.long x1), .second, .val (.ref xb)] [(.ref xb)])) rfl (by rw [hml]; rfl) (argsL := []) (rest := []) rfl (lenOf pd_24 rfl) rfl (by show 2 * 0 + _ ≤ _; exact Nat.le_of_eq rfl) (hb hby at_12) (by decide) (by decide) ?_
  intro v2 T2 L2 X2 hQ2
  obtain ⟨rfl, rfl, e2⟩ := hQ2
  replace X2 := own_pureX X2
  show OGo p e below _ T2 (mkF m 15 #[.val (.long x1), .second, .val (.ref xb)] [(.ref kd0)])
  have S_3 : Sta Z T1.heap "com/example/dequeue/dequeue/RefusedException$Kind" "NOT_FOUND" "Lcom/example/dequeue/dequeue/RefusedException$Kind;" (.ref kd0) := (own_sta_keep S_NF Kq1 all0)
  obtain ⟨T4, X4, e4, st4⟩ := getS2 X2 hx hZ hown (host := "") (Or.inl (hw _ (List.mem_of_getElem? (i := 221) rfl))) Via.refl e2 S_3 (g := (mkF m 15 #[.val (.long x1), .second, .val (.ref xb)] [(.ref kd0)])) rfl (hb hby at_15)
  refine own_via (g' := (mkF m 18 #[.val (.long x1), .second, .val (.ref xb)] [(.ref kd0), (.ref kd0)])) st4 ?_
  refine own_step (g' := (mkF m 21 #[.val (.long x1), .second, .val (.ref xb)] [])) (fun _ kont => Jvm.RoadKit.acmp (g := (mkF m 18 #[.val (.long x1), .second, .val (.ref xb)] [(.ref kd0), (.ref kd0)])) X4 hx rfl rfl rfl (pc0 := 18) (pc' := 21) (same := true) rfl (hb hby at_18) rfl (decide_eq_true rfl) (by decide) (by decide) kont) ?_
  refine own_step (g' := (mkF m 22 #[.val (.long x1), .second, .val (.ref xb)] [(.int (1 : Int32))])) (fun _ kont => XS.iconst X4.here hx rfl (hb hby at_21) kont) ?_
  refine own_step (g' := (mkF m 26 #[.val (.long x1), .second, .val (.ref xb)] [(.int (1 : Int32))])) (fun _ kont => XS.goto X4.here hx rfl (pc0 := 22) (pc' := 26) rfl (hb hby at_22) (by decide) (by decide) kont) ?_
  exact own_retNW X4 hx hZ hEL hS hk hC (t := .boolean) hret (by simp) hlk (hb hby at_26) e4 (by exact ⟨rfl, N1⟩) (by decide) (by decide)
set_option maxRecDepth 65536 in
set_option maxHeartbeats 40000000 in
theorem comes_1 {Post : Tables → Env → Array Value → State → Outcome → State → Prop} (hpost : ∀ tb e args s v u, (limb_1_1.after args s (.returned v) u = true ∧ limb_1_2.after args s (.returned v) u = true ∧ True) → FramedW s (.returned v) u (Jvm.fieldLocs frame_1_writes args s ++ Jvm.arrayLocs frame_1_arrays args s ++ Jvm.staticLocs frame_1_statics s) 40 9024 → Post tb e args s (.returned v) u) :
    ArmFor flags0 classFile x code maxLocals ret World_1 tables_1 room_1 Calls_1 rest_1 Pre_1 Post := by
  intro l hfl _ _ p e ha hc hk s m args below hf hA hF happ hP
  obtain ⟨hcalls, hrest, hpre⟩ := hP
  obtain ⟨-, -, -, hnamed, -, -, -, hat⟩ := (Spec.applies_iff hf).mp happ
  obtain ⟨hg, hn⟩ := and_e (Cond.before_iff.mp (show (Jvm.Cond.and given_1 narrow_1).before args s = true from hpre))
  obtain ⟨g1, g2⟩ := and_e hg
  obtain ⟨w0, rfl⟩ : ∃ w0 : Value, args = #[w0] := by
    have hs : args.size = 1 := by simpa [Cond.value, given_1] using g1
    obtain ⟨L⟩ := args
    match L, hs with
    | [w0], _ => exact ⟨w0, rfl⟩
  have hw := fun d (hd : d ∈ tables_1) => atoms_spec (ws := Jvm.Cond.code x code maxLocals ret :: tables_1) hat d (List.mem_cons_of_mem _ hd)
  have hfit : Fit s := fun {y c} hc i hi => by
    obtain ⟨ha, rfl⟩ := Array.getElem?_eq_some_iff.mp hc
    have q := List.all_eq_true.mp ((Array.all_eq_true_iff_forall_mem.mp hF) _ (Array.getElem_mem ha)) i (List.mem_range.mpr hi)
    simpa [Array.getElem?_eq_getElem hi] using q
  obtain ⟨hsets, hown0⟩ := atoms_of _ (rest_1_c_eq ▸ (show rest_1_c.before _ s = true from hrest))
  obtain ⟨i0, ei0⟩ := isL_v g2
  obtain rfl : w0 = (.long i0) := Option.some.inj ei0
  obtain ⟨z, ev_z⟩ := is_v (Cond.before_iff.mp (hsets _ (List.mem_of_getElem? (i := 1) rfl)))
  have S_CS := Sta.start ev_z (Or.inl (hsets _ (List.mem_of_getElem? (i := 0) rfl)))
  have hz : ¬ (z = (0 : Int32)) := fun q => by
    have h2 := Cond.before_iff.mp (hsets _ (List.mem_of_getElem? (i := 2) rfl))
    have h3 := not_v h2
    rw [eq_i ev_z (Term.int_eval (0)) (by rw [q])] at h3
    cases h3
  obtain ⟨kd0, ev_NF⟩ := exa_v hn
  have S_NF := Sta.start ev_NF (Or.inr ⟨(hw _ (List.mem_of_getElem? (i := 7) rfl)), (hw _ (List.mem_of_getElem? (i := 8) rfl))⟩)
  have hEL : EW s _ consts_1 := EW.cons (hw _ (List.mem_of_getElem? (i := 159) rfl)) (by decide) (EW.cons (hw _ (List.mem_of_getElem? (i := 9) rfl)) (by decide) (EW.cons (hw _ (List.mem_of_getElem? (i := 37) rfl)) (by decide) EW.nil))
  have hCH : CHv s consts_1 s.vm s.heap := CHv.start hEL (fun p hp => hcalls.2.2.1 p hp) (hsets _ (List.mem_of_getElem? (i := 2) rfl)) (hw _ (List.mem_of_getElem? (i := 12) rfl)) (hw _ (List.mem_of_getElem? (i := 11) rfl))
  obtain ⟨u1, ev_U⟩ := arr_v (Cond.before_iff.mp (hsets _ (List.mem_of_getElem? (i := 28) rfl)))
  have S_UN := Sta.start ev_U (Or.inl (hsets _ (List.mem_of_getElem? (i := 26) rfl)))
  obtain ⟨s1_, ev_S⟩ := exa_v (Cond.before_iff.mp (hsets _ (List.mem_of_getElem? (i := 33) rfl)))
  have S_SE := Sta.start ev_S (Or.inl (hsets _ (List.mem_of_getElem? (i := 31) rfl)))
  obtain ⟨dst, da1, DC1, da2, DC2, tb1, -, tb2, -⟩ := Jvm.SetKit.digits_of (fun {x c} hc {i} hi => hfit hc hi) (hw _ (List.mem_of_getElem? (i := 12) rfl)) (hsets _ (List.mem_of_getElem? (i := 9) rfl)) (hsets _ (List.mem_of_getElem? (i := 10) rfl)) (hsets _ (List.mem_of_getElem? (i := 12) rfl)) (hsets _ (List.mem_of_getElem? (i := 13) rfl)) (hsets _ (List.mem_of_getElem? (i := 14) rfl)) (hsets _ (List.mem_of_getElem? (i := 15) rfl)) (hsets _ (List.mem_of_getElem? (i := 17) rfl)) (hsets _ (List.mem_of_getElem? (i := 18) rfl)) (hsets _ (List.mem_of_getElem? (i := 19) rfl))
  have hst : l.stackTraces = true := by
    have q := Jvm.D.Launch.traces_on hfl ha
    rw [ha.platform] at q
    exact q
  obtain ⟨n, o, h1, h2, h3, _, L, rfl, ⟨rfl, N⟩, -, hq⟩ := rm0 l s _ hw tables_1 i0 kd0 z (.ref u1) (.ref s1_) dst da1 da2 DC1 DC2 s.heap s.heap.size (Nat.le_refl _) S_CS hz hst ThS.start rfl (fun q => nomatch q) rfl S_UN S_SE S_NF tb1 tb2 (Old.start s) p e ha hc hk s m _ below hf ((Spec.applies_iff_loose hf).mp happ).1 ⟨rfl, State.Warmed39.refl s, rfl, hCH⟩ ⟨Jvm.MethodsKnown_of_tablesKnown hcalls.2.1, Jvm.FramesKnown_of_framesKnown hcalls.1 hf⟩
  refine ⟨n, _, h1, h2, h3, hpost _ _ _ _ _ _ ⟨Cond.after_iff.mpr rfl, Cond.after_iff.mpr (eq_i res_at (Term.int_eval (1)) rfl), trivial⟩ ⟨hq.1, hq.2.1, hq.2.2.1, (hq.2.2.2.sift fun y hy => Or.inr (N y hy)).mono (by decide) (by decide)⟩⟩
theorem main_1_1 : Claimed_1_1 := comes_1 fun _ _ _ _ _ _ h hF => ⟨h.1, hF⟩
theorem main_1_2 : Claimed_1_2 := comes_1 fun _ _ _ _ _ _ h hF => ⟨h.2.1, hF⟩
end Jvm.Pilot.@@N@@
namespace Jvm.Pilot.@@N@@
open Jvm Jvm.ClassFile Sem Op Lib Jvm.Free Jvm.Stand Jvm.Pilot.@@N@@.Jvm.D
/-! MADE BY PROGRAM (witnessworld.py) out of the Statement's table words and the real class files: 44 classes; the members and pool entries that the words name. The judged class is class 1, her method 1. -/
namespace start1
open Jvm.ClassFile
def u (s : String) : CpInfo := .utf8 (stringToUtf16 s)
/-- a pool by its gaps: so many unusable entries, then the entry; so many at the end -/
def gap : Nat → List CpInfo → List CpInfo
  | 0, r => r
  | n + 1, r => .unusable :: gap n r
def poolList (es : List (Nat × CpInfo)) (last : Nat) : List CpInfo := es.foldr (fun e r => gap e.1 (e.2 :: r)) (gap last [])
def pool (es : List (Nat × CpInfo)) (last : Nat) : Array CpInfo := ⟨poolList es last⟩
def fileOf (pool : Array CpInfo) (this : Nat) (attrs : Array Attribute := #[]) (ms : Array MethodInfo := #[]) (fl : Nat := 33) (sup : Nat := 0) (ifs : Array Nat := #[]) (fds : Array FieldInfo := #[]) : ClassFile where
  minorVersion := 0
  majorVersion := 65
  constantPool := pool
  accessFlags := fl
  thisClass := this
  superClass := sup
  interfaces := ifs
  fields := fds
  methods := ms
  attributes := attrs
def plain (name : String) (sup : Option ClassId) : Class where
  name := name
  kind := .ordinary
  loader := none
  accessFlags := 33
  super := sup
  interfaces := #[]
  cf := none
  fields := #[]
  methods := #[]
  instanceTypes := #[]
  staticTypes := #[]
  resolved := #[]
  callSites := []
  init := .initialized
  statics := none
  mirror := none

def pool0 : Array CpInfo := pool [(5, u "<init>"), (0, u "()V"), (1, .class_ 10), (1, u "java/lang/Object"), (85, u "clone"), (0, u "()Ljava/lang/Object;")] 26

def k0c0 : Code := { maxStack := 0, maxLocals := 1, code := object_method_1_code, exceptionTable := #[], attributes := #[] }
def k0m0 : Method := { name := "<init>", desc := "()V", sig := { parameters := [], returnType := none }, accessFlags := 1, code := some k0c0 }
def k0m1 : Method := { name := "clone", desc := "()Ljava/lang/Object;", sig := { parameters := [], returnType := some (.object "java/lang/Object") }, accessFlags := 260, code := none }
/-- java/lang/Object -/
def k0 : Class := { plain "java/lang/Object" none with
  accessFlags := 33
  interfaces := #[]
  cf := some (fileOf pool0 8 #[] #[{ accessFlags := 1, nameIndex := 5, descriptorIndex := 6, attributes := #[] }, { accessFlags := 260, nameIndex := 96, descriptorIndex := 97, attributes := #[] }] 33 0 #[] #[])
  fields := #[]
  methods := #[k0m0, k0m1]
  instanceTypes := #[]
  staticTypes := #[]
  resolved := Array.replicate 124 none
  statics := none }

def pool1 : Array CpInfo := pool [(2, .class_ 4), (1, u "java/lang/Object"), (0, u "<init>"), (0, u "()V"), (0, .methodref 8 9), (0, .class_ 10), (0, .nameAndType 11 12), (0, u "com/example/dequeue/dequeue/RefusedException"), (0, u "noSuchEvent"), (0, u "(J)Lcom/example/dequeue/dequeue/RefusedException;"), (0, .methodref 8 14), (0, .nameAndType 15 16), (0, u "kind"), (0, u "()Lcom/example/dequeue/dequeue/RefusedException$Kind;"), (0, .fieldref 18 19), (0, .class_ 20), (0, .nameAndType 21 22), (0, u "com/example/dequeue/dequeue/RefusedException$Kind"), (0, u "NOT_FOUND"), (0, u "Lcom/example/dequeue/dequeue/RefusedException$Kind;"), (0, .class_ 24), (0, u "com/example/dequeue/dequeue/RefusedExceptionNoSuchEventPinLaw"), (2, u "law"), (0, u "(J)Z")] 5

def k1m0 : Method := { name := "<init>", desc := "()V", sig := { parameters := [], returnType := none }, accessFlags := 1, code := none }
def k1c1 : Code := { maxStack := 2, maxLocals := 3, code := code, exceptionTable := #[], attributes := #[] }
def k1m1 : Method := { name := "law", desc := "(J)Z", sig := { parameters := [.long], returnType := some .boolean }, accessFlags := 9, code := some k1c1 }
/-- com/example/dequeue/dequeue/RefusedExceptionNoSuchEventPinLaw -/
def k1 : Class := { plain "com/example/dequeue/dequeue/RefusedExceptionNoSuchEventPinLaw" (some 0) with
  accessFlags := 49
  interfaces := #[]
  cf := some (fileOf pool1 23 #[] #[{ accessFlags := 1, nameIndex := 5, descriptorIndex := 6, attributes := #[] }, { accessFlags := 9, nameIndex := 27, descriptorIndex := 28, attributes := #[] }] 49 2 #[] #[])
  fields := #[]
  methods := #[k1m0, k1m1]
  instanceTypes := #[]
  staticTypes := #[]
  resolved := Array.replicate 34 none
  statics := none }

def pool2 : Array CpInfo := pool [(1, .class_ 2), (0, u "java/io/Serializable"), (0, .class_ 4), (0, u "java/lang/Object")] 2

/-- java/io/Serializable -/
def k2 : Class := { plain "java/io/Serializable" (some 0) with
  accessFlags := 1537
  interfaces := #[]
  cf := some (fileOf pool2 1 #[] #[] 1537 3 #[] #[])
  fields := #[]
  methods := #[]
  instanceTypes := #[]
  staticTypes := #[]
  resolved := Array.replicate 7 none
  statics := none }

def pool3 : Array CpInfo := pool [(1, .methodref 2 3), (0, .class_ 4), (0, .nameAndType 5 6), (0, u "java/lang/Object"), (0, u "<init>"), (0, u "()V"), (0, .fieldref 8 9), (0, .class_ 10), (0, .nameAndType 11 12), (0, u "java/lang/Throwable"), (0, u "cause"), (0, u "Ljava/lang/Throwable;"), (0, .fieldref 8 14), (0, .nameAndType 15 16), (0, u "UNASSIGNED_STACK"), (0, u "[Ljava/lang/StackTraceElement;"), (0, .fieldref 8 18), (0, .nameAndType 19 16), (0, u "stackTrace"), (0, .fieldref 8 21), (0, .nameAndType 22 23), (0, u "SUPPRESSED_SENTINEL"), (0, u "Ljava/util/List;"), (0, .fieldref 8 25), (0, .nameAndType 26 23), (0, u "suppressedExceptions"), (0, .methodref 8 28), (0, .nameAndType 29 30), (0, u "fillInStackTrace"), (0, u "()Ljava/lang/Throwable;"), (0, .fieldref 8 32), (0, .nameAndType 33 34), (0, u "detailMessage"), (0, u "Ljava/lang/String;"), (58, .class_ 94), (0, u "java/lang/Throwable$WrappedPrintStream"), (6, .class_ 103), (1, u "java/lang/Throwable$PrintStreamOrWriter"), (61, u "$assertionsDisabled"), (0, u "Z"), (26, .class_ 194), (0, u "java/lang/Throwable$WrappedPrintWriter"), (3, .fieldref 8 199), (0, .nameAndType 200 201), (0, u "backtrace"), (0, u "Ljava/lang/Object;"), (0, .methodref 8 203), (0, .nameAndType 29 204), (0, u "(I)Ljava/lang/Throwable;"), (6, u "depth"), (0, u "I"), (10, u "(Ljava/lang/String;)V"), (45, .class_ 271), (1, u "java/lang/Throwable$SentinelHolder"), (32, u "EMPTY_THROWABLE_ARRAY"), (0, u "[Ljava/lang/Throwable;"), (12, .class_ 319), (0, u "java/io/Serializable"), (0, u "serialVersionUID"), (0, u "J"), (5, u "NULL_CAUSE_MESSAGE"), (0, u "SELF_SUPPRESSION_MESSAGE"), (0, u "CAUSE_CAPTION"), (0, u "SUPPRESSED_CAPTION")] 73

def k3c0 : Code := { maxStack := 2, maxLocals := 1, code := jdk_78_method_1_code, exceptionTable := #[], attributes := #[] }
def k3m0 : Method := { name := "<init>", desc := "()V", sig := { parameters := [], returnType := none }, accessFlags := 1, code := some k3c0 }
def k3c1 : Code := { maxStack := 2, maxLocals := 2, code := jdk_78_method_2_code, exceptionTable := #[], attributes := #[] }
def k3m1 : Method := { name := "<init>", desc := "(Ljava/lang/String;)V", sig := { parameters := [(.object "java/lang/String")], returnType := none }, accessFlags := 1, code := some k3c1 }
def k3c2 : Code := { maxStack := 2, maxLocals := 1, code := ⟨#[0x2a, 0xb4, 0x00, 0x11, 0xc7, 0x00, 0x0a, 0x2a, 0xb4, 0x00, 0xc6, 0xc6, 0x00, 0x10, 0x2a, 0x03, 0xb6, 0x00, 0xca, 0x57, 0x2a, 0xb2, 0x00, 0x0d, 0xb5, 0x00, 0x11, 0x2a, 0xb0]⟩, exceptionTable := #[], attributes := #[] }
def k3m2 : Method := { name := "fillInStackTrace", desc := "()Ljava/lang/Throwable;", sig := { parameters := [], returnType := some (.object "java/lang/Throwable") }, accessFlags := 33, code := some k3c2 }
def k3m3 : Method := { name := "fillInStackTrace", desc := "(I)Ljava/lang/Throwable;", sig := { parameters := [.int], returnType := some (.object "java/lang/Throwable") }, accessFlags := 258, code := none }
/-- java/lang/Throwable -/
def k3 : Class := { plain "java/lang/Throwable" (some 0) with
  accessFlags := 33
  interfaces := #[2]
  cf := some (fileOf pool3 8 #[.nestMembers #[193, 93, 101, 269]] #[{ accessFlags := 1, nameIndex := 5, descriptorIndex := 6, attributes := #[] }, { accessFlags := 1, nameIndex := 5, descriptorIndex := 223, attributes := #[] }, { accessFlags := 33, nameIndex := 29, descriptorIndex := 30, attributes := #[] }, { accessFlags := 258, nameIndex := 29, descriptorIndex := 204, attributes := #[] }] 33 2 #[318] #[{ accessFlags := 26, nameIndex := 320, descriptorIndex := 321, attributes := #[] }, { accessFlags := 130, nameIndex := 200, descriptorIndex := 201, attributes := #[] }, { accessFlags := 2, nameIndex := 33, descriptorIndex := 34, attributes := #[] }, { accessFlags := 26, nameIndex := 15, descriptorIndex := 16, attributes := #[] }, { accessFlags := 2, nameIndex := 11, descriptorIndex := 12, attributes := #[] }, { accessFlags := 2, nameIndex := 19, descriptorIndex := 16, attributes := #[] }, { accessFlags := 130, nameIndex := 211, descriptorIndex := 212, attributes := #[] }, { accessFlags := 26, nameIndex := 22, descriptorIndex := 23, attributes := #[] }, { accessFlags := 2, nameIndex := 26, descriptorIndex := 23, attributes := #[] }, { accessFlags := 26, nameIndex := 327, descriptorIndex := 34, attributes := #[] }, { accessFlags := 26, nameIndex := 328, descriptorIndex := 34, attributes := #[] }, { accessFlags := 26, nameIndex := 329, descriptorIndex := 34, attributes := #[] }, { accessFlags := 26, nameIndex := 330, descriptorIndex := 34, attributes := #[] }, { accessFlags := 26, nameIndex := 304, descriptorIndex := 305, attributes := #[] }, { accessFlags := 4120, nameIndex := 165, descriptorIndex := 166, attributes := #[] }])
  fields := #[{ name := "serialVersionUID", type := .long, accessFlags := 26, slot := 0, constantValue := 0 }, { name := "backtrace", type := (.object "java/lang/Object"), accessFlags := 130, slot := 0, constantValue := 0 }, { name := "detailMessage", type := (.object "java/lang/String"), accessFlags := 2, slot := 1, constantValue := 0 }, { name := "UNASSIGNED_STACK", type := (.array (.object "java/lang/StackTraceElement")), accessFlags := 26, slot := 1, constantValue := 0 }, { name := "cause", type := (.object "java/lang/Throwable"), accessFlags := 2, slot := 2, constantValue := 0 }, { name := "stackTrace", type := (.array (.object "java/lang/StackTraceElement")), accessFlags := 2, slot := 3, constantValue := 0 }, { name := "depth", type := .int, accessFlags := 130, slot := 4, constantValue := 0 }, { name := "SUPPRESSED_SENTINEL", type := (.object "java/util/List"), accessFlags := 26, slot := 2, constantValue := 0 }, { name := "suppressedExceptions", type := (.object "java/util/List"), accessFlags := 2, slot := 5, constantValue := 0 }, { name := "NULL_CAUSE_MESSAGE", type := (.object "java/lang/String"), accessFlags := 26, slot := 3, constantValue := 0 }, { name := "SELF_SUPPRESSION_MESSAGE", type := (.object "java/lang/String"), accessFlags := 26, slot := 4, constantValue := 0 }, { name := "CAUSE_CAPTION", type := (.object "java/lang/String"), accessFlags := 26, slot := 5, constantValue := 0 }, { name := "SUPPRESSED_CAPTION", type := (.object "java/lang/String"), accessFlags := 26, slot := 6, constantValue := 0 }, { name := "EMPTY_THROWABLE_ARRAY", type := (.array (.object "java/lang/Throwable")), accessFlags := 26, slot := 7, constantValue := 0 }, { name := "$assertionsDisabled", type := .boolean, accessFlags := 4120, slot := 8, constantValue := 0 }]
  methods := #[k3m0, k3m1, k3m2, k3m3]
  instanceTypes := #[(.object "java/lang/Object"), (.object "java/lang/String"), (.object "java/lang/Throwable"), (.array (.object "java/lang/StackTraceElement")), .int, (.object "java/util/List")]
  staticTypes := #[.long, (.array (.object "java/lang/StackTraceElement")), (.object "java/util/List"), (.object "java/lang/String"), (.object "java/lang/String"), (.object "java/lang/String"), (.object "java/lang/String"), (.array (.object "java/lang/Throwable")), .boolean]
  resolved := Array.replicate 404 none
  statics := some 0 }

def pool4 : Array CpInfo := pool [(2, .class_ 4), (1, u "java/lang/Throwable"), (0, u "<init>"), (0, u "()V"), (0, .methodref 2 8), (0, .nameAndType 5 9), (0, u "(Ljava/lang/String;)V"), (9, .class_ 20), (0, u "java/lang/Exception"), (0, u "serialVersionUID"), (0, u "J")] 17

def k4m0 : Method := { name := "<init>", desc := "()V", sig := { parameters := [], returnType := none }, accessFlags := 1, code := none }
def k4c1 : Code := { maxStack := 2, maxLocals := 2, code := jdk_59_method_2_code, exceptionTable := #[], attributes := #[] }
def k4m1 : Method := { name := "<init>", desc := "(Ljava/lang/String;)V", sig := { parameters := [(.object "java/lang/String")], returnType := none }, accessFlags := 1, code := some k4c1 }
/-- java/lang/Exception -/
def k4 : Class := { plain "java/lang/Exception" (some 3) with
  accessFlags := 33
  interfaces := #[]
  cf := some (fileOf pool4 19 #[] #[{ accessFlags := 1, nameIndex := 5, descriptorIndex := 6, attributes := #[] }, { accessFlags := 1, nameIndex := 5, descriptorIndex := 9, attributes := #[] }] 33 2 #[] #[{ accessFlags := 24, nameIndex := 21, descriptorIndex := 22, attributes := #[] }])
  fields := #[{ name := "serialVersionUID", type := .long, accessFlags := 24, slot := 0, constantValue := 0 }]
  methods := #[k4m0, k4m1]
  instanceTypes := #[(.object "java/lang/Object"), (.object "java/lang/String"), (.object "java/lang/Throwable"), (.array (.object "java/lang/StackTraceElement")), .int, (.object "java/util/List")]
  staticTypes := #[.long]
  resolved := Array.replicate 40 none
  statics := none }

def pool5 : Array CpInfo := pool [(2, .class_ 4), (1, u "java/lang/Exception"), (0, u "<init>"), (0, u "()V"), (0, .methodref 2 8), (0, .nameAndType 5 9), (0, u "(Ljava/lang/String;)V"), (9, .class_ 20), (0, u "java/lang/RuntimeException"), (0, u "serialVersionUID"), (0, u "J")] 17

def k5m0 : Method := { name := "<init>", desc := "()V", sig := { parameters := [], returnType := none }, accessFlags := 1, code := none }
def k5c1 : Code := { maxStack := 2, maxLocals := 2, code := jdk_58_method_2_code, exceptionTable := #[], attributes := #[] }
def k5m1 : Method := { name := "<init>", desc := "(Ljava/lang/String;)V", sig := { parameters := [(.object "java/lang/String")], returnType := none }, accessFlags := 1, code := some k5c1 }
/-- java/lang/RuntimeException -/
def k5 : Class := { plain "java/lang/RuntimeException" (some 4) with
  accessFlags := 33
  interfaces := #[]
  cf := some (fileOf pool5 19 #[] #[{ accessFlags := 1, nameIndex := 5, descriptorIndex := 6, attributes := #[] }, { accessFlags := 1, nameIndex := 5, descriptorIndex := 9, attributes := #[] }] 33 2 #[] #[{ accessFlags := 24, nameIndex := 21, descriptorIndex := 22, attributes := #[] }])
  fields := #[{ name := "serialVersionUID", type := .long, accessFlags := 24, slot := 0, constantValue := 0 }]
  methods := #[k5m0, k5m1]
  instanceTypes := #[(.object "java/lang/Object"), (.object "java/lang/String"), (.object "java/lang/Throwable"), (.array (.object "java/lang/StackTraceElement")), .int, (.object "java/util/List")]
  staticTypes := #[.long]
  resolved := Array.replicate 40 none
  statics := none }

def pool6 : Array CpInfo := pool [(1, .class_ 2), (0, u "java/lang/StringBuilder"), (0, .methodref 1 4), (0, .nameAndType 5 6), (0, u "<init>"), (0, u "()V"), (0, .methodref 1 8), (0, .nameAndType 9 10), (0, u "append"), (0, u "(Ljava/lang/String;)Ljava/lang/StringBuilder;"), (0, .string 12), (0, u ": "), (0, .methodref 1 14), (0, .nameAndType 15 16), (0, u "toString"), (0, u "()Ljava/lang/String;"), (0, .methodref 18 19), (0, .class_ 20), (0, .nameAndType 5 21), (0, u "java/lang/RuntimeException"), (0, u "(Ljava/lang/String;)V"), (0, .fieldref 23 24), (0, .class_ 25), (0, .nameAndType 26 27), (0, u "com/example/dequeue/dequeue/RefusedException"), (0, u "kind"), (0, u "Lcom/example/dequeue/dequeue/RefusedException$Kind;"), (0, .fieldref 29 30), (0, .class_ 31), (0, .nameAndType 32 27), (0, u "com/example/dequeue/dequeue/RefusedException$Kind"), (0, u "NOT_FOUND"), (0, .string 34), (0, u "id"), (0, .string 36), (0, u "no event "), (0, .methodref 1 38), (0, .nameAndType 9 39), (0, u "(J)Ljava/lang/StringBuilder;"), (0, .methodref 23 41), (0, .nameAndType 5 42), (0, u "(Lcom/example/dequeue/dequeue/RefusedException$Kind;Ljava/lang/String;Ljava/lang/String;)V"), (7, u "serialVersionUID"), (0, u "J"), (5, u "noSuchEvent"), (0, u "(J)Lcom/example/dequeue/dequeue/RefusedException;"), (2, u "()Lcom/example/dequeue/dequeue/RefusedException$Kind;")] 5

def k6c0 : Code := { maxStack := 3, maxLocals := 4, code := prog_12_method_1_code, exceptionTable := #[], attributes := #[] }
def k6m0 : Method := { name := "<init>", desc := "(Lcom/example/dequeue/dequeue/RefusedException$Kind;Ljava/lang/String;Ljava/lang/String;)V", sig := { parameters := [(.object "com/example/dequeue/dequeue/RefusedException$Kind"), (.object "java/lang/String"), (.object "java/lang/String")], returnType := none }, accessFlags := 0, code := some k6c0 }
def k6c1 : Code := { maxStack := 7, maxLocals := 2, code := prog_12_method_2_code, exceptionTable := #[], attributes := #[] }
def k6m1 : Method := { name := "noSuchEvent", desc := "(J)Lcom/example/dequeue/dequeue/RefusedException;", sig := { parameters := [.long], returnType := some (.object "com/example/dequeue/dequeue/RefusedException") }, accessFlags := 8, code := some k6c1 }
def k6c2 : Code := { maxStack := 1, maxLocals := 1, code := prog_12_method_4_code, exceptionTable := #[], attributes := #[] }
def k6m2 : Method := { name := "kind", desc := "()Lcom/example/dequeue/dequeue/RefusedException$Kind;", sig := { parameters := [], returnType := some (.object "com/example/dequeue/dequeue/RefusedException$Kind") }, accessFlags := 1, code := some k6c2 }
/-- com/example/dequeue/dequeue/RefusedException -/
def k6 : Class := { plain "com/example/dequeue/dequeue/RefusedException" (some 5) with
  accessFlags := 49
  interfaces := #[]
  cf := some (fileOf pool6 23 #[.nestMembers #[29]] #[{ accessFlags := 0, nameIndex := 5, descriptorIndex := 42, attributes := #[] }, { accessFlags := 8, nameIndex := 57, descriptorIndex := 58, attributes := #[] }, { accessFlags := 1, nameIndex := 26, descriptorIndex := 61, attributes := #[] }] 49 18 #[] #[{ accessFlags := 26, nameIndex := 50, descriptorIndex := 51, attributes := #[] }, { accessFlags := 18, nameIndex := 26, descriptorIndex := 27, attributes := #[] }])
  fields := #[{ name := "serialVersionUID", type := .long, accessFlags := 26, slot := 0, constantValue := 0 }, { name := "kind", type := (.object "com/example/dequeue/dequeue/RefusedException$Kind"), accessFlags := 18, slot := 6, constantValue := 0 }]
  methods := #[k6m0, k6m1, k6m2]
  instanceTypes := #[(.object "java/lang/Object"), (.object "java/lang/String"), (.object "java/lang/Throwable"), (.array (.object "java/lang/StackTraceElement")), .int, (.object "java/util/List"), (.object "com/example/dequeue/dequeue/RefusedException$Kind")]
  staticTypes := #[.long]
  resolved := Array.replicate 67 none
  statics := none }

def pool7 : Array CpInfo := pool [(1, .class_ 2), (0, u "java/lang/constant/Constable"), (0, .class_ 4), (0, u "java/lang/Object")] 6

/-- java/lang/constant/Constable -/
def k7 : Class := { plain "java/lang/constant/Constable" (some 0) with
  accessFlags := 1537
  interfaces := #[]
  cf := some (fileOf pool7 1 #[] #[] 1537 3 #[] #[])
  fields := #[]
  methods := #[]
  instanceTypes := #[]
  staticTypes := #[]
  resolved := Array.replicate 11 none
  statics := none }

def pool8 : Array CpInfo := pool [(1, .class_ 2), (0, u "java/lang/Comparable"), (0, .class_ 4), (0, u "java/lang/Object")] 7

/-- java/lang/Comparable -/
def k8 : Class := { plain "java/lang/Comparable" (some 0) with
  accessFlags := 1537
  interfaces := #[]
  cf := some (fileOf pool8 1 #[] #[] 1537 3 #[] #[])
  fields := #[]
  methods := #[]
  instanceTypes := #[]
  staticTypes := #[]
  resolved := Array.replicate 12 none
  statics := none }

def pool9 : Array CpInfo := pool [(2, .class_ 4), (1, u "java/lang/Enum"), (0, u "name"), (0, u "Ljava/lang/String;"), (2, u "ordinal"), (0, u "I"), (1, .class_ 14), (1, u "java/lang/Object"), (4, u "hash"), (86, .class_ 108), (1, u "java/lang/Enum$EnumDesc"), (2, .class_ 112), (0, u "java/lang/constant/Constable"), (0, .class_ 114), (0, u "java/lang/Comparable"), (0, .class_ 116), (0, u "java/io/Serializable")] 87

/-- java/lang/Enum -/
def k9 : Class := { plain "java/lang/Enum" (some 0) with
  accessFlags := 1057
  interfaces := #[7, 8, 2]
  cf := some (fileOf pool9 2 #[.nestMembers #[106]] #[] 1057 12 #[111, 113, 115] #[{ accessFlags := 18, nameIndex := 5, descriptorIndex := 6, attributes := #[] }, { accessFlags := 18, nameIndex := 9, descriptorIndex := 10, attributes := #[] }, { accessFlags := 2, nameIndex := 19, descriptorIndex := 10, attributes := #[] }])
  fields := #[{ name := "name", type := (.object "java/lang/String"), accessFlags := 18, slot := 0, constantValue := 0 }, { name := "ordinal", type := .int, accessFlags := 18, slot := 1, constantValue := 0 }, { name := "hash", type := .int, accessFlags := 2, slot := 2, constantValue := 0 }]
  methods := #[]
  instanceTypes := #[(.object "java/lang/String"), .int, .int]
  staticTypes := #[]
  resolved := Array.replicate 204 none
  statics := none }

def pool10 : Array CpInfo := pool [(1, .class_ 2), (0, u "com/example/dequeue/dequeue/RefusedException$Kind"), (2, u "INVALID"), (0, u "Lcom/example/dequeue/dequeue/RefusedException$Kind;"), (2, u "TOO_LARGE"), (2, u "NOT_FOUND"), (2, u "CONFLICT"), (2, u "KEY_REUSED"), (2, u "$VALUES"), (0, u "[Lcom/example/dequeue/dequeue/RefusedException$Kind;"), (6, .class_ 31), (1, u "java/lang/Enum"), (28, .class_ 61), (0, u "com/example/dequeue/dequeue/RefusedException")] 2

/-- com/example/dequeue/dequeue/RefusedException$Kind -/
def k10 : Class := { plain "com/example/dequeue/dequeue/RefusedException$Kind" (some 9) with
  accessFlags := 16433
  interfaces := #[]
  cf := some (fileOf pool10 1 #[.nestHost 60] #[] 16433 29 #[] #[{ accessFlags := 16409, nameIndex := 5, descriptorIndex := 6, attributes := #[] }, { accessFlags := 16409, nameIndex := 9, descriptorIndex := 6, attributes := #[] }, { accessFlags := 16409, nameIndex := 12, descriptorIndex := 6, attributes := #[] }, { accessFlags := 16409, nameIndex := 15, descriptorIndex := 6, attributes := #[] }, { accessFlags := 16409, nameIndex := 18, descriptorIndex := 6, attributes := #[] }, { accessFlags := 4122, nameIndex := 21, descriptorIndex := 22, attributes := #[] }])
  fields := #[{ name := "INVALID", type := (.object "com/example/dequeue/dequeue/RefusedException$Kind"), accessFlags := 16409, slot := 0, constantValue := 0 }, { name := "TOO_LARGE", type := (.object "com/example/dequeue/dequeue/RefusedException$Kind"), accessFlags := 16409, slot := 1, constantValue := 0 }, { name := "NOT_FOUND", type := (.object "com/example/dequeue/dequeue/RefusedException$Kind"), accessFlags := 16409, slot := 2, constantValue := 0 }, { name := "CONFLICT", type := (.object "com/example/dequeue/dequeue/RefusedException$Kind"), accessFlags := 16409, slot := 3, constantValue := 0 }, { name := "KEY_REUSED", type := (.object "com/example/dequeue/dequeue/RefusedException$Kind"), accessFlags := 16409, slot := 4, constantValue := 0 }, { name := "$VALUES", type := (.array (.object "com/example/dequeue/dequeue/RefusedException$Kind")), accessFlags := 4122, slot := 5, constantValue := 0 }]
  methods := #[]
  instanceTypes := #[(.object "java/lang/String"), .int, .int]
  staticTypes := #[(.object "com/example/dequeue/dequeue/RefusedException$Kind"), (.object "com/example/dequeue/dequeue/RefusedException$Kind"), (.object "com/example/dequeue/dequeue/RefusedException$Kind"), (.object "com/example/dequeue/dequeue/RefusedException$Kind"), (.object "com/example/dequeue/dequeue/RefusedException$Kind"), (.array (.object "com/example/dequeue/dequeue/RefusedException$Kind"))]
  resolved := Array.replicate 64 none
  statics := some 1 }

def pool11 : Array CpInfo := pool [(2, .class_ 4), (1, u "java/lang/CharSequence"), (42, .class_ 48), (0, u "java/lang/CharSequence$1CodePointIterator"), (10, .class_ 60), (0, u "java/lang/CharSequence$1CharIterator"), (5, .class_ 67), (0, u "java/lang/Object")] 63

/-- java/lang/CharSequence -/
def k11 : Class := { plain "java/lang/CharSequence" (some 0) with
  accessFlags := 1537
  interfaces := #[]
  cf := some (fileOf pool11 2 #[.nestMembers #[47, 59]] #[] 1537 66 #[] #[])
  fields := #[]
  methods := #[]
  instanceTypes := #[]
  staticTypes := #[]
  resolved := Array.replicate 131 none
  statics := none }

def pool12 : Array CpInfo := pool [(1, .class_ 2), (0, u "java/lang/constant/ConstantDesc"), (0, .class_ 4), (0, u "java/lang/Object")] 32

/-- java/lang/constant/ConstantDesc -/
def k12 : Class := { plain "java/lang/constant/ConstantDesc" (some 0) with
  accessFlags := 1537
  interfaces := #[]
  cf := some (fileOf pool12 1 #[] #[] 1537 3 #[] #[])
  fields := #[]
  methods := #[]
  instanceTypes := #[]
  staticTypes := #[]
  resolved := Array.replicate 37 none
  statics := none }

def pool13 : Array CpInfo := pool [(1, .methodref 2 3), (0, .class_ 4), (0, .nameAndType 5 6), (0, u "java/lang/Object"), (0, u "<init>"), (0, u "()V"), (2, .fieldref 10 11), (0, .class_ 12), (0, .nameAndType 13 14), (0, u "java/lang/String"), (0, u "value"), (0, u "[B"), (0, .fieldref 10 16), (0, .nameAndType 17 18), (0, u "coder"), (0, u "B"), (2, u "hash"), (0, u "I"), (2, u "hashIsZero"), (0, u "Z"), (11, .fieldref 10 39), (0, .nameAndType 40 26), (0, u "COMPACT_STRINGS"), (13, .methodref 55 56), (0, .class_ 57), (0, .nameAndType 58 59), (0, u "java/util/Arrays"), (0, u "copyOfRange"), (0, u "([BII)[B"), (82, u "()Z"), (50, .class_ 195), (1, u "java/lang/System"), (16, .methodref 193 213), (0, .nameAndType 214 215), (0, u "arraycopy"), (0, u "(Ljava/lang/Object;ILjava/lang/Object;II)V"), (118, u "()I"), (0, .methodref 10 336), (0, .nameAndType 17 337), (0, u "()B"), (2, u "()[B"), (148, .methodref 10 490), (0, .nameAndType 5 491), (0, u "(Ljava/lang/AbstractStringBuilder;Ljava/lang/Void;)V"), (1, .nameAndType 494 142), (0, u "isLatin1"), (11, .nameAndType 507 334), (0, u "length"), (24, u "getBytes"), (16, .methodref 550 506), (0, .class_ 551), (0, u "java/lang/AbstractStringBuilder"), (0, .methodref 550 553), (0, .nameAndType 554 340), (0, u "getValue"), (20, .class_ 576), (0, u "java/lang/CharSequence"), (22, u "CASE_INSENSITIVE_ORDER"), (0, u "Ljava/util/Comparator;"), (220, u "([BIB)V"), (225, .methodref 550 493), (53, u "serialPersistentFields"), (0, u "[Ljava/io/ObjectStreamField;"), (0, .class_ 1104), (0, u "java/lang/String$CaseInsensitiveComparator"), (1, .class_ 1107), (0, u "java/io/Serializable"), (0, .class_ 1109), (0, u "java/lang/Comparable"), (0, .class_ 1111), (0, u "java/lang/constant/Constable"), (0, .class_ 1113), (0, u "java/lang/constant/ConstantDesc"), (2, u "serialVersionUID"), (0, u "J"), (3, u "REPL"), (0, u "C"), (2, u "LATIN1"), (1, u "UTF16"), (105, u "(Ljava/lang/StringBuilder;)V")] 217

def k13m0 : Method := { name := "<init>", desc := "()V", sig := { parameters := [], returnType := none }, accessFlags := 1, code := none }
def k13c1 : Code := { maxStack := 3, maxLocals := 2, code := jdk_42_method_53_code, exceptionTable := #[], attributes := #[] }
def k13m1 : Method := { name := "<init>", desc := "(Ljava/lang/StringBuilder;)V", sig := { parameters := [(.object "java/lang/StringBuilder")], returnType := none }, accessFlags := 1, code := some k13c1 }
def k13c2 : Code := { maxStack := 2, maxLocals := 1, code := jdk_42_method_54_code, exceptionTable := #[], attributes := #[] }
def k13m2 : Method := { name := "length", desc := "()I", sig := { parameters := [], returnType := some .int }, accessFlags := 1, code := some k13c2 }
def k13c3 : Code := { maxStack := 5, maxLocals := 4, code := jdk_42_method_147_code, exceptionTable := #[], attributes := #[] }
def k13m3 : Method := { name := "getBytes", desc := "([BIB)V", sig := { parameters := [(.array .byte), .int, .byte], returnType := none }, accessFlags := 0, code := some k13c3 }
def k13c4 : Code := { maxStack := 5, maxLocals := 5, code := jdk_42_method_150_code, exceptionTable := #[], attributes := #[] }
def k13m4 : Method := { name := "<init>", desc := "(Ljava/lang/AbstractStringBuilder;Ljava/lang/Void;)V", sig := { parameters := [(.object "java/lang/AbstractStringBuilder"), (.object "java/lang/Void")], returnType := none }, accessFlags := 0, code := some k13c4 }
def k13c5 : Code := { maxStack := 1, maxLocals := 1, code := jdk_42_method_152_code, exceptionTable := #[], attributes := #[] }
def k13m5 : Method := { name := "coder", desc := "()B", sig := { parameters := [], returnType := some .byte }, accessFlags := 0, code := some k13c5 }
/-- java/lang/String -/
def k13 : Class := { plain "java/lang/String" (some 0) with
  accessFlags := 49
  interfaces := #[2, 8, 11, 7, 12]
  cf := some (fileOf pool13 10 #[.nestMembers #[1103]] #[{ accessFlags := 1, nameIndex := 5, descriptorIndex := 6, attributes := #[] }, { accessFlags := 1, nameIndex := 5, descriptorIndex := 1233, attributes := #[] }, { accessFlags := 1, nameIndex := 507, descriptorIndex := 334, attributes := #[] }, { accessFlags := 0, nameIndex := 532, descriptorIndex := 821, attributes := #[] }, { accessFlags := 0, nameIndex := 5, descriptorIndex := 491, attributes := #[] }, { accessFlags := 0, nameIndex := 17, descriptorIndex := 337, attributes := #[] }] 49 2 #[1106, 1108, 575, 1110, 1112] #[{ accessFlags := 18, nameIndex := 13, descriptorIndex := 14, attributes := #[] }, { accessFlags := 18, nameIndex := 17, descriptorIndex := 18, attributes := #[] }, { accessFlags := 2, nameIndex := 21, descriptorIndex := 22, attributes := #[] }, { accessFlags := 2, nameIndex := 25, descriptorIndex := 26, attributes := #[] }, { accessFlags := 26, nameIndex := 1116, descriptorIndex := 1117, attributes := #[] }, { accessFlags := 24, nameIndex := 40, descriptorIndex := 26, attributes := #[] }, { accessFlags := 26, nameIndex := 1101, descriptorIndex := 1102, attributes := #[] }, { accessFlags := 26, nameIndex := 1121, descriptorIndex := 1122, attributes := #[] }, { accessFlags := 25, nameIndex := 599, descriptorIndex := 600, attributes := #[] }, { accessFlags := 24, nameIndex := 1125, descriptorIndex := 18, attributes := #[] }, { accessFlags := 24, nameIndex := 1127, descriptorIndex := 18, attributes := #[] }])
  fields := #[{ name := "value", type := (.array .byte), accessFlags := 18, slot := 0, constantValue := 0 }, { name := "coder", type := .byte, accessFlags := 18, slot := 1, constantValue := 0 }, { name := "hash", type := .int, accessFlags := 2, slot := 2, constantValue := 0 }, { name := "hashIsZero", type := .boolean, accessFlags := 2, slot := 3, constantValue := 0 }, { name := "serialVersionUID", type := .long, accessFlags := 26, slot := 0, constantValue := 0 }, { name := "COMPACT_STRINGS", type := .boolean, accessFlags := 24, slot := 1, constantValue := 0 }, { name := "serialPersistentFields", type := (.array (.object "java/io/ObjectStreamField")), accessFlags := 26, slot := 2, constantValue := 0 }, { name := "REPL", type := .char, accessFlags := 26, slot := 3, constantValue := 0 }, { name := "CASE_INSENSITIVE_ORDER", type := (.object "java/util/Comparator"), accessFlags := 25, slot := 4, constantValue := 0 }, { name := "LATIN1", type := .byte, accessFlags := 24, slot := 5, constantValue := 0 }, { name := "UTF16", type := .byte, accessFlags := 24, slot := 6, constantValue := 0 }]
  methods := #[k13m0, k13m1, k13m2, k13m3, k13m4, k13m5]
  instanceTypes := #[(.array .byte), .byte, .int, .boolean]
  staticTypes := #[.long, .boolean, (.array (.object "java/io/ObjectStreamField")), .char, (.object "java/util/Comparator"), .byte, .byte]
  resolved := Array.replicate 1451 none
  statics := some 2 }

def pool14 : Array CpInfo := pool [(1, .class_ 2), (0, u "java/lang/Appendable"), (0, .class_ 4), (0, u "java/lang/Object")] 9

/-- java/lang/Appendable -/
def k14 : Class := { plain "java/lang/Appendable" (some 0) with
  accessFlags := 1537
  interfaces := #[]
  cf := some (fileOf pool14 1 #[] #[] 1537 3 #[] #[])
  fields := #[]
  methods := #[]
  instanceTypes := #[]
  staticTypes := #[]
  resolved := Array.replicate 14 none
  statics := none }

def pool15 : Array CpInfo := pool [(1, .class_ 2), (0, u "java/lang/String"), (0, .methodref 4 5), (0, .class_ 6), (0, .nameAndType 7 8), (0, u "java/lang/Object"), (0, u "<init>"), (0, u "()V"), (1, .class_ 12), (1, u "java/lang/AbstractStringBuilder"), (0, u "EMPTYVALUE"), (0, u "[B"), (0, .fieldref 10 16), (0, .nameAndType 17 14), (0, u "value"), (0, .fieldref 1 19), (0, .nameAndType 20 21), (0, u "COMPACT_STRINGS"), (0, u "Z"), (0, .fieldref 10 23), (0, .nameAndType 24 25), (0, u "coder"), (0, u "B"), (6, .methodref 1 33), (0, .nameAndType 34 35), (0, u "length"), (0, u "()I"), (3, .integer 2147483647), (0, .methodref 1 41), (0, .nameAndType 24 42), (0, u "()B"), (2, u "append"), (0, u "(Ljava/lang/String;)Ljava/lang/AbstractStringBuilder;"), (1, .class_ 49), (0, u "java/lang/CharSequence"), (19, u "(Ljava/lang/String;)V"), (5, u "maybeLatin1"), (3, .fieldref 10 80), (0, .nameAndType 81 82), (0, u "count"), (0, u "I"), (0, .methodref 10 84), (0, .nameAndType 85 86), (0, u "isLatin1"), (0, u "()Z"), (13, .methodref 10 101), (0, .nameAndType 102 103), (0, u "ensureCapacityInternal"), (0, u "(I)V"), (0, .methodref 10 105), (0, .nameAndType 106 107), (0, u "newCapacity"), (0, u "(I)I"), (0, .methodref 109 110), (0, .class_ 111), (0, .nameAndType 112 113), (0, u "java/util/Arrays"), (0, u "copyOf"), (0, u "([BI)[B"), (0, .methodref 115 116), (0, .class_ 117), (0, .nameAndType 118 119), (0, u "jdk/internal/util/ArraysSupport"), (0, u "newLength"), (0, u "(III)I"), (68, u "getChars"), (19, .methodref 10 209), (0, .nameAndType 210 211), (0, u "putStringAt"), (0, u "(ILjava/lang/String;)V"), (5, u "inflateIfNeededFor"), (2, .nameAndType 221 222), (0, u "getBytes"), (0, u "([BIB)V"), (24, u "stringSize"), (6, .methodref 255 256), (0, .class_ 257), (0, .nameAndType 247 258), (0, u "java/lang/Long"), (0, u "(J)I"), (0, .methodref 255 260), (0, .nameAndType 188 261), (0, u "(JI[B)I"), (135, .methodref 10 398), (0, .nameAndType 217 69), (0, .methodref 1 220), (3, u "()[B"), (40, .class_ 445), (0, u "java/lang/Appendable"), (67, u "(J)Ljava/lang/AbstractStringBuilder;"), (38, u "getValue")] 56

def k15m0 : Method := { name := "<init>", desc := "()V", sig := { parameters := [], returnType := none }, accessFlags := 0, code := none }
def k15c1 : Code := { maxStack := 2, maxLocals := 2, code := jdk_68_method_2_code, exceptionTable := #[], attributes := #[] }
def k15m1 : Method := { name := "<init>", desc := "(I)V", sig := { parameters := [.int], returnType := none }, accessFlags := 0, code := some k15c1 }
def k15c2 : Code := { maxStack := 1, maxLocals := 1, code := jdk_68_method_6_code, exceptionTable := #[], attributes := #[] }
def k15m2 : Method := { name := "length", desc := "()I", sig := { parameters := [], returnType := some .int }, accessFlags := 1, code := some k15c2 }
def k15c3 : Code := { maxStack := 4, maxLocals := 3, code := jdk_68_method_9_code, exceptionTable := #[], attributes := #[] }
def k15m3 : Method := { name := "ensureCapacityInternal", desc := "(I)V", sig := { parameters := [.int], returnType := none }, accessFlags := 2, code := some k15c3 }
def k15c4 : Code := { maxStack := 5, maxLocals := 6, code := jdk_68_method_10_code, exceptionTable := #[], attributes := #[] }
def k15m4 : Method := { name := "newCapacity", desc := "(I)I", sig := { parameters := [.int], returnType := some .int }, accessFlags := 2, code := some k15c4 }
def k15c5 : Code := { maxStack := 3, maxLocals := 3, code := jdk_68_method_22_code, exceptionTable := #[], attributes := #[] }
def k15m5 : Method := { name := "append", desc := "(Ljava/lang/String;)Ljava/lang/AbstractStringBuilder;", sig := { parameters := [(.object "java/lang/String")], returnType := some (.object "java/lang/AbstractStringBuilder") }, accessFlags := 1, code := some k15c5 }
def k15c6 : Code := { maxStack := 5, maxLocals := 5, code := jdk_68_method_33_code, exceptionTable := #[], attributes := #[] }
def k15m6 : Method := { name := "append", desc := "(J)Ljava/lang/AbstractStringBuilder;", sig := { parameters := [.long], returnType := some (.object "java/lang/AbstractStringBuilder") }, accessFlags := 1, code := some k15c6 }
def k15c7 : Code := { maxStack := 1, maxLocals := 1, code := jdk_68_method_64_code, exceptionTable := #[], attributes := #[] }
def k15m7 : Method := { name := "getValue", desc := "()[B", sig := { parameters := [], returnType := some (.array .byte) }, accessFlags := 16, code := some k15c7 }
def k15c8 : Code := { maxStack := 1, maxLocals := 1, code := jdk_68_method_68_code, exceptionTable := #[], attributes := #[] }
def k15m8 : Method := { name := "isLatin1", desc := "()Z", sig := { parameters := [], returnType := some .boolean }, accessFlags := 16, code := some k15c8 }
def k15c9 : Code := { maxStack := 2, maxLocals := 2, code := jdk_68_method_71_code, exceptionTable := #[], attributes := #[] }
def k15m9 : Method := { name := "inflateIfNeededFor", desc := "(Ljava/lang/String;)V", sig := { parameters := [(.object "java/lang/String")], returnType := none }, accessFlags := 2, code := some k15c9 }
def k15c10 : Code := { maxStack := 4, maxLocals := 3, code := jdk_68_method_73_code, exceptionTable := #[], attributes := #[] }
def k15m10 : Method := { name := "putStringAt", desc := "(ILjava/lang/String;)V", sig := { parameters := [.int, (.object "java/lang/String")], returnType := none }, accessFlags := 2, code := some k15c10 }
/-- java/lang/AbstractStringBuilder -/
def k15 : Class := { plain "java/lang/AbstractStringBuilder" (some 0) with
  accessFlags := 1056
  interfaces := #[14, 11]
  cf := some (fileOf pool15 10 #[] #[{ accessFlags := 0, nameIndex := 7, descriptorIndex := 8, attributes := #[] }, { accessFlags := 0, nameIndex := 7, descriptorIndex := 103, attributes := #[] }, { accessFlags := 1, nameIndex := 34, descriptorIndex := 35, attributes := #[] }, { accessFlags := 2, nameIndex := 102, descriptorIndex := 103, attributes := #[] }, { accessFlags := 2, nameIndex := 106, descriptorIndex := 107, attributes := #[] }, { accessFlags := 1, nameIndex := 45, descriptorIndex := 46, attributes := #[] }, { accessFlags := 1, nameIndex := 45, descriptorIndex := 513, attributes := #[] }, { accessFlags := 16, nameIndex := 552, descriptorIndex := 403, attributes := #[] }, { accessFlags := 16, nameIndex := 85, descriptorIndex := 86, attributes := #[] }, { accessFlags := 2, nameIndex := 217, descriptorIndex := 69, attributes := #[] }, { accessFlags := 2, nameIndex := 210, descriptorIndex := 211, attributes := #[] }] 1056 4 #[444, 48] #[{ accessFlags := 0, nameIndex := 17, descriptorIndex := 14, attributes := #[] }, { accessFlags := 0, nameIndex := 24, descriptorIndex := 25, attributes := #[] }, { accessFlags := 0, nameIndex := 75, descriptorIndex := 21, attributes := #[] }, { accessFlags := 0, nameIndex := 81, descriptorIndex := 82, attributes := #[] }, { accessFlags := 26, nameIndex := 13, descriptorIndex := 14, attributes := #[] }])
  fields := #[{ name := "value", type := (.array .byte), accessFlags := 0, slot := 0, constantValue := 0 }, { name := "coder", type := .byte, accessFlags := 0, slot := 1, constantValue := 0 }, { name := "maybeLatin1", type := .boolean, accessFlags := 0, slot := 2, constantValue := 0 }, { name := "count", type := .int, accessFlags := 0, slot := 3, constantValue := 0 }, { name := "EMPTYVALUE", type := (.array .byte), accessFlags := 26, slot := 0, constantValue := 0 }]
  methods := #[k15m0, k15m1, k15m2, k15m3, k15m4, k15m5, k15m6, k15m7, k15m8, k15m9, k15m10]
  instanceTypes := #[(.array .byte), .byte, .boolean, .int]
  staticTypes := #[(.array .byte)]
  resolved := Array.replicate 609 none
  statics := none }

def pool16 : Array CpInfo := pool [(1, .methodref 2 3), (0, .class_ 4), (0, .nameAndType 5 6), (0, u "java/lang/AbstractStringBuilder"), (0, u "<init>"), (0, u "(I)V"), (11, .class_ 20), (1, u "java/lang/String"), (3, .class_ 26), (1, u "java/lang/StringBuilder"), (0, u "append"), (0, u "(Ljava/lang/String;)Ljava/lang/StringBuilder;"), (0, .methodref 2 30), (0, .nameAndType 27 31), (0, u "(Ljava/lang/String;)Ljava/lang/AbstractStringBuilder;"), (24, .methodref 2 57), (0, .nameAndType 27 58), (0, u "(J)Ljava/lang/AbstractStringBuilder;"), (78, .methodref 18 138), (0, .nameAndType 5 139), (0, u "(Ljava/lang/StringBuilder;)V"), (5, u "()V"), (10, u "()I"), (124, u "(J)Ljava/lang/StringBuilder;"), (61, .methodref 2 344), (0, .nameAndType 345 156), (0, u "length"), (3, .class_ 350), (0, u "java/lang/Appendable"), (0, .class_ 352), (0, u "java/io/Serializable"), (0, .class_ 354), (0, u "java/lang/Comparable"), (0, .class_ 356), (0, u "java/lang/CharSequence"), (0, u "serialVersionUID"), (0, u "J"), (40, u "toString"), (0, u "()Ljava/lang/String;")] 21

def k16c0 : Code := { maxStack := 2, maxLocals := 1, code := jdk_67_method_1_code, exceptionTable := #[], attributes := #[] }
def k16m0 : Method := { name := "<init>", desc := "()V", sig := { parameters := [], returnType := none }, accessFlags := 1, code := some k16c0 }
def k16c1 : Code := { maxStack := 2, maxLocals := 2, code := jdk_67_method_7_code, exceptionTable := #[], attributes := #[] }
def k16m1 : Method := { name := "append", desc := "(Ljava/lang/String;)Ljava/lang/StringBuilder;", sig := { parameters := [(.object "java/lang/String")], returnType := some (.object "java/lang/StringBuilder") }, accessFlags := 1, code := some k16c1 }
def k16c2 : Code := { maxStack := 3, maxLocals := 3, code := jdk_67_method_16_code, exceptionTable := #[], attributes := #[] }
def k16m2 : Method := { name := "append", desc := "(J)Ljava/lang/StringBuilder;", sig := { parameters := [.long], returnType := some (.object "java/lang/StringBuilder") }, accessFlags := 1, code := some k16c2 }
def k16c3 : Code := { maxStack := 3, maxLocals := 1, code := jdk_67_method_42_code, exceptionTable := #[], attributes := #[] }
def k16m3 : Method := { name := "toString", desc := "()Ljava/lang/String;", sig := { parameters := [], returnType := some (.object "java/lang/String") }, accessFlags := 1, code := some k16c3 }
def k16c4 : Code := { maxStack := 1, maxLocals := 1, code := jdk_67_method_93_code, exceptionTable := #[], attributes := #[] }
def k16m4 : Method := { name := "length", desc := "()I", sig := { parameters := [], returnType := some .int }, accessFlags := 4161, code := some k16c4 }
/-- java/lang/StringBuilder -/
def k16 : Class := { plain "java/lang/StringBuilder" (some 15) with
  accessFlags := 49
  interfaces := #[14, 2, 8, 11]
  cf := some (fileOf pool16 24 #[] #[{ accessFlags := 1, nameIndex := 5, descriptorIndex := 145, attributes := #[] }, { accessFlags := 1, nameIndex := 27, descriptorIndex := 28, attributes := #[] }, { accessFlags := 1, nameIndex := 27, descriptorIndex := 281, attributes := #[] }, { accessFlags := 1, nameIndex := 399, descriptorIndex := 400, attributes := #[] }, { accessFlags := 4161, nameIndex := 345, descriptorIndex := 156, attributes := #[] }] 49 2 #[349, 351, 353, 355] #[{ accessFlags := 24, nameIndex := 357, descriptorIndex := 358, attributes := #[] }])
  fields := #[{ name := "serialVersionUID", type := .long, accessFlags := 24, slot := 0, constantValue := 0 }]
  methods := #[k16m0, k16m1, k16m2, k16m3, k16m4]
  instanceTypes := #[(.array .byte), .byte, .boolean, .int]
  staticTypes := #[.long]
  resolved := Array.replicate 422 none
  statics := none }

def pool17 : Array CpInfo := pool [(2, .class_ 4), (1, u "java/lang/Object"), (0, u "<init>"), (0, u "()V"), (1, .class_ 10), (1, u "java/lang/System"), (0, u "allowSecurityManager"), (0, u "I"), (16, u "cons"), (0, u "Ljava/io/Console;"), (77, .class_ 110), (1, u "java/lang/System$CallersHolder"), (43, u "initialErrStream"), (0, u "Ljava/io/PrintStream;"), (19, u "security"), (0, u "Ljava/lang/SecurityManager;"), (31, .class_ 209), (0, u "java/lang/System$1"), (7, u "props"), (0, u "Ljava/util/Properties;"), (2, u "lineSeparator"), (0, u "Ljava/lang/String;"), (96, .class_ 321), (1, u "java/lang/System$LoggerFinder"), (5, .class_ 328), (0, u "java/lang/System$Logger"), (67, u "err"), (2, u "out"), (91, u "notSupportedJnuEncoding"), (15, u "in"), (17, u "initialIn"), (0, u "Ljava/io/InputStream;"), (35, u "bootLayer"), (0, u "Ljava/lang/ModuleLayer;"), (99, .class_ 664), (0, u "java/lang/System$2"), (9, u "NEVER"), (2, u "MAYBE"), (49, u "arraycopy"), (0, u "(Ljava/lang/Object;ILjava/lang/Object;II)V"), (72, .class_ 802), (0, u "java/lang/System$Logger$Level")] 31

def k17m0 : Method := { name := "<init>", desc := "()V", sig := { parameters := [], returnType := none }, accessFlags := 2, code := none }
def k17m1 : Method := { name := "arraycopy", desc := "(Ljava/lang/Object;ILjava/lang/Object;II)V", sig := { parameters := [(.object "java/lang/Object"), .int, (.object "java/lang/Object"), .int, .int], returnType := none }, accessFlags := 265, code := none }
/-- java/lang/System -/
def k17 : Class := { plain "java/lang/System" (some 0) with
  accessFlags := 49
  interfaces := #[]
  cf := some (fileOf pool17 8 #[.nestMembers #[319, 327, 801, 108, 663, 208]] #[{ accessFlags := 2, nameIndex := 5, descriptorIndex := 6, attributes := #[] }, { accessFlags := 265, nameIndex := 727, descriptorIndex := 728, attributes := #[] }] 49 2 #[] #[{ accessFlags := 25, nameIndex := 507, descriptorIndex := 526, attributes := #[] }, { accessFlags := 25, nameIndex := 399, descriptorIndex := 155, attributes := #[] }, { accessFlags := 25, nameIndex := 396, descriptorIndex := 155, attributes := #[] }, { accessFlags := 10, nameIndex := 525, descriptorIndex := 526, attributes := #[] }, { accessFlags := 26, nameIndex := 674, descriptorIndex := 12, attributes := #[] }, { accessFlags := 26, nameIndex := 677, descriptorIndex := 12, attributes := #[] }, { accessFlags := 10, nameIndex := 11, descriptorIndex := 12, attributes := #[] }, { accessFlags := 74, nameIndex := 175, descriptorIndex := 176, attributes := #[] }, { accessFlags := 10, nameIndex := 491, descriptorIndex := 222, attributes := #[] }, { accessFlags := 74, nameIndex := 29, descriptorIndex := 30, attributes := #[] }, { accessFlags := 74, nameIndex := 154, descriptorIndex := 155, attributes := #[] }, { accessFlags := 10, nameIndex := 217, descriptorIndex := 218, attributes := #[] }, { accessFlags := 10, nameIndex := 221, descriptorIndex := 222, attributes := #[] }, { accessFlags := 8, nameIndex := 562, descriptorIndex := 563, attributes := #[] }])
  fields := #[{ name := "in", type := (.object "java/io/InputStream"), accessFlags := 25, slot := 0, constantValue := 0 }, { name := "out", type := (.object "java/io/PrintStream"), accessFlags := 25, slot := 1, constantValue := 0 }, { name := "err", type := (.object "java/io/PrintStream"), accessFlags := 25, slot := 2, constantValue := 0 }, { name := "initialIn", type := (.object "java/io/InputStream"), accessFlags := 10, slot := 3, constantValue := 0 }, { name := "NEVER", type := .int, accessFlags := 26, slot := 4, constantValue := 0 }, { name := "MAYBE", type := .int, accessFlags := 26, slot := 5, constantValue := 0 }, { name := "allowSecurityManager", type := .int, accessFlags := 10, slot := 6, constantValue := 0 }, { name := "security", type := (.object "java/lang/SecurityManager"), accessFlags := 74, slot := 7, constantValue := 0 }, { name := "notSupportedJnuEncoding", type := (.object "java/lang/String"), accessFlags := 10, slot := 8, constantValue := 0 }, { name := "cons", type := (.object "java/io/Console"), accessFlags := 74, slot := 9, constantValue := 0 }, { name := "initialErrStream", type := (.object "java/io/PrintStream"), accessFlags := 74, slot := 10, constantValue := 0 }, { name := "props", type := (.object "java/util/Properties"), accessFlags := 10, slot := 11, constantValue := 0 }, { name := "lineSeparator", type := (.object "java/lang/String"), accessFlags := 10, slot := 12, constantValue := 0 }, { name := "bootLayer", type := (.object "java/lang/ModuleLayer"), accessFlags := 8, slot := 13, constantValue := 0 }]
  methods := #[k17m0, k17m1]
  instanceTypes := #[]
  staticTypes := #[(.object "java/io/InputStream"), (.object "java/io/PrintStream"), (.object "java/io/PrintStream"), (.object "java/io/InputStream"), .int, .int, .int, (.object "java/lang/SecurityManager"), (.object "java/lang/String"), (.object "java/io/Console"), (.object "java/io/PrintStream"), (.object "java/util/Properties"), (.object "java/lang/String"), (.object "java/lang/ModuleLayer")]
  resolved := Array.replicate 834 none
  statics := none }

def pool18 : Array CpInfo := pool [(2, .class_ 4), (1, u "java/lang/Object"), (0, u "<init>"), (0, u "()V"), (1, .class_ 10), (1, u "java/lang/Number"), (2, .class_ 14), (0, u "java/io/Serializable"), (0, u "serialVersionUID"), (0, u "J")] 20

def k18m0 : Method := { name := "<init>", desc := "()V", sig := { parameters := [], returnType := none }, accessFlags := 1, code := none }
/-- java/lang/Number -/
def k18 : Class := { plain "java/lang/Number" (some 0) with
  accessFlags := 1057
  interfaces := #[2]
  cf := some (fileOf pool18 8 #[] #[{ accessFlags := 1, nameIndex := 5, descriptorIndex := 6, attributes := #[] }] 1057 2 #[13] #[{ accessFlags := 26, nameIndex := 15, descriptorIndex := 16, attributes := #[] }])
  fields := #[{ name := "serialVersionUID", type := .long, accessFlags := 26, slot := 0, constantValue := 0 }]
  methods := #[k18m0]
  instanceTypes := #[]
  staticTypes := #[.long]
  resolved := Array.replicate 37 none
  statics := none }

def pool19 : Array CpInfo := pool [(1, .class_ 2), (0, u "java/lang/Long"), (15, .class_ 20), (1, u "java/lang/Integer"), (32, .long 10), (47, u "(J)I"), (18, u "stringSize"), (2, u "getChars"), (0, u "(JI[B)I"), (4, .long 18446744071562067968), (1, .long 100), (1, .fieldref 18 134), (0, .nameAndType 135 136), (0, u "DigitOnes"), (0, u "[B"), (0, .fieldref 18 138), (0, .nameAndType 139 136), (0, u "DigitTens"), (0, .long 18446744073709551606), (94, .class_ 237), (1, u "java/lang/Long$LongCache"), (33, .class_ 272), (0, u "java/lang/Number"), (2, u "value"), (0, u "J"), (84, u "TYPE"), (0, u "Ljava/lang/Class;"), (0, .class_ 364), (0, u "java/lang/Comparable"), (0, .class_ 366), (0, u "java/lang/constant/Constable"), (0, .class_ 368), (0, u "java/lang/constant/ConstantDesc"), (0, u "MIN_VALUE"), (1, u "MAX_VALUE"), (4, u "SIZE"), (0, u "I"), (1, u "BYTES"), (1, u "serialVersionUID")] 142

def k19c0 : Code := { maxStack := 4, maxLocals := 11, code := jdk_35_method_14_code, exceptionTable := #[], attributes := #[] }
def k19m0 : Method := { name := "getChars", desc := "(JI[B)I", sig := { parameters := [.long, .int, (.array .byte)], returnType := some .int }, accessFlags := 8, code := some k19c0 }
def k19c1 : Code := { maxStack := 4, maxLocals := 6, code := jdk_35_method_15_code, exceptionTable := #[], attributes := #[] }
def k19m1 : Method := { name := "stringSize", desc := "(J)I", sig := { parameters := [.long], returnType := some .int }, accessFlags := 8, code := some k19c1 }
/-- java/lang/Long -/
def k19 : Class := { plain "java/lang/Long" (some 18) with
  accessFlags := 49
  interfaces := #[8, 7, 12]
  cf := some (fileOf pool19 1 #[.nestMembers #[235]] #[{ accessFlags := 8, nameIndex := 123, descriptorIndex := 124, attributes := #[] }, { accessFlags := 8, nameIndex := 120, descriptorIndex := 101, attributes := #[] }] 49 271 #[363, 365, 367] #[{ accessFlags := 25, nameIndex := 369, descriptorIndex := 276, attributes := #[] }, { accessFlags := 25, nameIndex := 371, descriptorIndex := 276, attributes := #[] }, { accessFlags := 25, nameIndex := 361, descriptorIndex := 362, attributes := #[] }, { accessFlags := 18, nameIndex := 275, descriptorIndex := 276, attributes := #[] }, { accessFlags := 25, nameIndex := 376, descriptorIndex := 377, attributes := #[] }, { accessFlags := 25, nameIndex := 379, descriptorIndex := 377, attributes := #[] }, { accessFlags := 26, nameIndex := 381, descriptorIndex := 276, attributes := #[] }])
  fields := #[{ name := "MIN_VALUE", type := .long, accessFlags := 25, slot := 0, constantValue := 0 }, { name := "MAX_VALUE", type := .long, accessFlags := 25, slot := 1, constantValue := 0 }, { name := "TYPE", type := (.object "java/lang/Class"), accessFlags := 25, slot := 2, constantValue := 0 }, { name := "value", type := .long, accessFlags := 18, slot := 0, constantValue := 0 }, { name := "SIZE", type := .int, accessFlags := 25, slot := 3, constantValue := 0 }, { name := "BYTES", type := .int, accessFlags := 25, slot := 4, constantValue := 0 }, { name := "serialVersionUID", type := .long, accessFlags := 26, slot := 5, constantValue := 0 }]
  methods := #[k19m0, k19m1]
  instanceTypes := #[.long]
  staticTypes := #[.long, .long, (.object "java/lang/Class"), .int, .int, .long]
  resolved := Array.replicate 524 none
  statics := none }

def pool20 : Array CpInfo := pool [(1, .class_ 2), (0, u "java/lang/Integer"), (16, u "digits"), (0, u "[C"), (64, u "DigitOnes"), (0, u "[B"), (2, u "DigitTens"), (99, .class_ 190), (0, u "java/lang/Integer$IntegerCache"), (3, u "I"), (8, .class_ 204), (0, u "java/lang/Number"), (2, u "value"), (94, u "TYPE"), (0, u "Ljava/lang/Class;"), (0, .class_ 305), (0, u "java/lang/Comparable"), (0, .class_ 307), (0, u "java/lang/constant/Constable"), (0, .class_ 309), (0, u "java/lang/constant/ConstantDesc"), (0, u "MIN_VALUE"), (1, u "MAX_VALUE"), (3, u "SIZE"), (1, u "BYTES"), (1, u "serialVersionUID"), (0, u "J")] 131

/-- java/lang/Integer -/
def k20 : Class := { plain "java/lang/Integer" (some 18) with
  accessFlags := 49
  interfaces := #[8, 7, 12]
  cf := some (fileOf pool20 1 #[.nestMembers #[189]] #[] 49 203 #[304, 306, 308] #[{ accessFlags := 25, nameIndex := 310, descriptorIndex := 194, attributes := #[] }, { accessFlags := 25, nameIndex := 312, descriptorIndex := 194, attributes := #[] }, { accessFlags := 25, nameIndex := 302, descriptorIndex := 303, attributes := #[] }, { accessFlags := 24, nameIndex := 19, descriptorIndex := 20, attributes := #[] }, { accessFlags := 24, nameIndex := 89, descriptorIndex := 86, attributes := #[] }, { accessFlags := 24, nameIndex := 85, descriptorIndex := 86, attributes := #[] }, { accessFlags := 18, nameIndex := 207, descriptorIndex := 194, attributes := #[] }, { accessFlags := 25, nameIndex := 316, descriptorIndex := 194, attributes := #[] }, { accessFlags := 25, nameIndex := 318, descriptorIndex := 194, attributes := #[] }, { accessFlags := 26, nameIndex := 320, descriptorIndex := 321, attributes := #[] }])
  fields := #[{ name := "MIN_VALUE", type := .int, accessFlags := 25, slot := 0, constantValue := 0 }, { name := "MAX_VALUE", type := .int, accessFlags := 25, slot := 1, constantValue := 0 }, { name := "TYPE", type := (.object "java/lang/Class"), accessFlags := 25, slot := 2, constantValue := 0 }, { name := "digits", type := (.array .char), accessFlags := 24, slot := 3, constantValue := 0 }, { name := "DigitTens", type := (.array .byte), accessFlags := 24, slot := 4, constantValue := 0 }, { name := "DigitOnes", type := (.array .byte), accessFlags := 24, slot := 5, constantValue := 0 }, { name := "value", type := .int, accessFlags := 18, slot := 0, constantValue := 0 }, { name := "SIZE", type := .int, accessFlags := 25, slot := 6, constantValue := 0 }, { name := "BYTES", type := .int, accessFlags := 25, slot := 7, constantValue := 0 }, { name := "serialVersionUID", type := .long, accessFlags := 26, slot := 8, constantValue := 0 }]
  methods := #[]
  instanceTypes := #[.int]
  staticTypes := #[.int, .int, (.object "java/lang/Class"), (.array .char), (.array .byte), (.array .byte), .int, .int, .long]
  resolved := Array.replicate 453 none
  statics := some 3 }

def pool21 : Array CpInfo := pool [(2, .class_ 4), (1, u "java/lang/Object"), (0, u "<init>"), (0, u "()V"), (7, .class_ 16), (1, u "java/util/Arrays"), (57, .class_ 76), (1, u "java/util/Arrays$NaturalOrder"), (32, u "()Ljava/lang/Object;"), (3, .class_ 115), (1, u "java/util/Arrays$LegacyMergeSort"), (1, u "Z"), (10, .nameAndType 129 109), (0, u "clone"), (9, u "copyOfRange"), (10, .methodref 151 152), (0, .class_ 153), (0, .nameAndType 154 155), (0, u "java/lang/System"), (0, u "arraycopy"), (0, u "(Ljava/lang/Object;ILjava/lang/Object;II)V"), (146, u "copyOf"), (1, .methodref 305 306), (0, .class_ 307), (0, .nameAndType 308 309), (0, u "java/lang/Math"), (0, u "min"), (0, u "(II)I"), (0, .methodref 311 128), (0, .class_ 312), (0, u "[B"), (26, .methodref 14 340), (0, .nameAndType 341 342), (0, u "copyOfRangeByte"), (0, u "([BII)[B"), (0, .methodref 14 344), (0, .nameAndType 345 346), (0, u "checkLength"), (0, u "(II)V"), (28, .class_ 376), (0, u "java/util/Arrays$ArrayList"), (68, u "$assertionsDisabled"), (269, u "MIN_ARRAY_SORT_GRAN"), (0, u "I"), (2, u "INSERTIONSORT_THRESHOLD"), (149, u "([BI)[B"), (105, .class_ 976), (0, u "java/util/Arrays$ArrayItr")] 52

def k21m0 : Method := { name := "<init>", desc := "()V", sig := { parameters := [], returnType := none }, accessFlags := 2, code := none }
def k21c1 : Code := { maxStack := 6, maxLocals := 3, code := jdk_65_method_121_code, exceptionTable := #[], attributes := #[] }
def k21m1 : Method := { name := "copyOf", desc := "([BI)[B", sig := { parameters := [(.array .byte), .int], returnType := some (.array .byte) }, accessFlags := 9, code := some k21c1 }
def k21c2 : Code := { maxStack := 4, maxLocals := 2, code := jdk_65_method_131_code, exceptionTable := #[], attributes := #[] }
def k21m2 : Method := { name := "checkLength", desc := "(II)V", sig := { parameters := [.int, .int], returnType := none }, accessFlags := 10, code := some k21c2 }
def k21c3 : Code := { maxStack := 3, maxLocals := 3, code := jdk_65_method_132_code, exceptionTable := #[], attributes := #[] }
def k21m3 : Method := { name := "copyOfRange", desc := "([BII)[B", sig := { parameters := [(.array .byte), .int, .int], returnType := some (.array .byte) }, accessFlags := 9, code := some k21c3 }
def k21c4 : Code := { maxStack := 6, maxLocals := 5, code := jdk_65_method_133_code, exceptionTable := #[], attributes := #[] }
def k21m4 : Method := { name := "copyOfRangeByte", desc := "([BII)[B", sig := { parameters := [(.array .byte), .int, .int], returnType := some (.array .byte) }, accessFlags := 10, code := some k21c4 }
/-- java/util/Arrays -/
def k21 : Class := { plain "java/util/Arrays" (some 0) with
  accessFlags := 49
  interfaces := #[]
  cf := some (fileOf pool21 14 #[.nestMembers #[975, 375, 113, 74]] #[{ accessFlags := 2, nameIndex := 5, descriptorIndex := 6, attributes := #[] }, { accessFlags := 9, nameIndex := 302, descriptorIndex := 869, attributes := #[] }, { accessFlags := 10, nameIndex := 345, descriptorIndex := 346, attributes := #[] }, { accessFlags := 9, nameIndex := 139, descriptorIndex := 342, attributes := #[] }, { accessFlags := 10, nameIndex := 341, descriptorIndex := 342, attributes := #[] }] 49 2 #[] #[{ accessFlags := 26, nameIndex := 715, descriptorIndex := 716, attributes := #[] }, { accessFlags := 26, nameIndex := 719, descriptorIndex := 716, attributes := #[] }, { accessFlags := 4120, nameIndex := 445, descriptorIndex := 117, attributes := #[] }])
  fields := #[{ name := "MIN_ARRAY_SORT_GRAN", type := .int, accessFlags := 26, slot := 0, constantValue := 0 }, { name := "INSERTIONSORT_THRESHOLD", type := .int, accessFlags := 26, slot := 1, constantValue := 0 }, { name := "$assertionsDisabled", type := .boolean, accessFlags := 4120, slot := 2, constantValue := 0 }]
  methods := #[k21m0, k21m1, k21m2, k21m3, k21m4]
  instanceTypes := #[]
  staticTypes := #[.int, .int, .boolean]
  resolved := Array.replicate 1029 none
  statics := none }

def pool22 : Array CpInfo := pool [(1, .class_ 2), (0, u "java/lang/Math"), (1, .class_ 6), (1, u "java/lang/Object"), (0, u "<init>"), (0, u "()V"), (89, .class_ 100), (1, u "java/lang/Math$RandomNumberGeneratorHolder"), (71, u "negativeZeroFloatBits"), (0, u "J"), (2, u "negativeZeroDoubleBits"), (21, u "max"), (2, u "min"), (43, u "$assertionsDisabled"), (0, u "Z"), (88, u "(II)I"), (2, u "twoToTheDoubleScaleDown"), (0, u "D"), (4, u "twoToTheDoubleScaleUp"), (9, u "E"), (3, u "PI"), (2, u "TAU"), (2, u "DEGREES_TO_RADIANS"), (0, u "RADIANS_TO_DEGREES")] 94

def k22m0 : Method := { name := "<init>", desc := "()V", sig := { parameters := [], returnType := none }, accessFlags := 2, code := none }
def k22c1 : Code := { maxStack := 2, maxLocals := 2, code := jdk_29_method_65_code, exceptionTable := #[], attributes := #[] }
def k22m1 : Method := { name := "max", desc := "(II)I", sig := { parameters := [.int, .int], returnType := some .int }, accessFlags := 9, code := some k22c1 }
def k22c2 : Code := { maxStack := 2, maxLocals := 2, code := jdk_29_method_69_code, exceptionTable := #[], attributes := #[] }
def k22m2 : Method := { name := "min", desc := "(II)I", sig := { parameters := [.int, .int], returnType := some .int }, accessFlags := 9, code := some k22c2 }
/-- java/lang/Math -/
def k22 : Class := { plain "java/lang/Math" (some 0) with
  accessFlags := 49
  interfaces := #[]
  cf := some (fileOf pool22 1 #[.nestMembers #[98]] #[{ accessFlags := 2, nameIndex := 7, descriptorIndex := 8, attributes := #[] }, { accessFlags := 9, nameIndex := 198, descriptorIndex := 335, attributes := #[] }, { accessFlags := 9, nameIndex := 201, descriptorIndex := 335, attributes := #[] }] 49 4 #[] #[{ accessFlags := 25, nameIndex := 354, descriptorIndex := 339, attributes := #[] }, { accessFlags := 25, nameIndex := 358, descriptorIndex := 339, attributes := #[] }, { accessFlags := 25, nameIndex := 361, descriptorIndex := 339, attributes := #[] }, { accessFlags := 26, nameIndex := 364, descriptorIndex := 339, attributes := #[] }, { accessFlags := 26, nameIndex := 365, descriptorIndex := 339, attributes := #[] }, { accessFlags := 26, nameIndex := 172, descriptorIndex := 173, attributes := #[] }, { accessFlags := 26, nameIndex := 176, descriptorIndex := 173, attributes := #[] }, { accessFlags := 8, nameIndex := 344, descriptorIndex := 339, attributes := #[] }, { accessFlags := 8, nameIndex := 338, descriptorIndex := 339, attributes := #[] }, { accessFlags := 4120, nameIndex := 245, descriptorIndex := 246, attributes := #[] }])
  fields := #[{ name := "E", type := .double, accessFlags := 25, slot := 0, constantValue := 0 }, { name := "PI", type := .double, accessFlags := 25, slot := 1, constantValue := 0 }, { name := "TAU", type := .double, accessFlags := 25, slot := 2, constantValue := 0 }, { name := "DEGREES_TO_RADIANS", type := .double, accessFlags := 26, slot := 3, constantValue := 0 }, { name := "RADIANS_TO_DEGREES", type := .double, accessFlags := 26, slot := 4, constantValue := 0 }, { name := "negativeZeroFloatBits", type := .long, accessFlags := 26, slot := 5, constantValue := 0 }, { name := "negativeZeroDoubleBits", type := .long, accessFlags := 26, slot := 6, constantValue := 0 }, { name := "twoToTheDoubleScaleUp", type := .double, accessFlags := 8, slot := 7, constantValue := 0 }, { name := "twoToTheDoubleScaleDown", type := .double, accessFlags := 8, slot := 8, constantValue := 0 }, { name := "$assertionsDisabled", type := .boolean, accessFlags := 4120, slot := 9, constantValue := 0 }]
  methods := #[k22m0, k22m1, k22m2]
  instanceTypes := #[]
  staticTypes := #[.double, .double, .double, .double, .double, .long, .long, .double, .double, .boolean]
  resolved := Array.replicate 460 none
  statics := none }

def pool23 : Array CpInfo := pool [(9, u "<init>"), (6, .class_ 18), (1, u "java/lang/Object"), (0, u "()V"), (1, .class_ 23), (1, u "jdk/internal/util/ArraysSupport"), (0, u "LOG2_ARRAY_LONG_INDEX_SCALE"), (0, u "I"), (2, u "U"), (0, u "Ljdk/internal/misc/Unsafe;"), (8, u "BIG_ENDIAN"), (0, u "Z"), (8, u "LOG2_BYTE_BIT_SIZE"), (4, u "LOG2_ARRAY_INT_INDEX_SCALE"), (54, u "JLA"), (0, u "Ljdk/internal/access/JavaLangAccess;"), (11, u "LOG2_ARRAY_BOOLEAN_INDEX_SCALE"), (9, u "LOG2_ARRAY_BYTE_INDEX_SCALE"), (5, u "LOG2_ARRAY_CHAR_INDEX_SCALE"), (5, u "LOG2_ARRAY_SHORT_INDEX_SCALE"), (18, u "LOG2_ARRAY_FLOAT_INDEX_SCALE"), (24, u "LOG2_ARRAY_DOUBLE_INDEX_SCALE"), (6, .methodref 195 196), (0, .class_ 197), (0, .nameAndType 198 199), (0, u "java/lang/Math"), (0, u "max"), (0, u "(II)I"), (0, .integer 2147483639), (76, u "T_BOOLEAN"), (2, u "T_CHAR"), (1, u "T_FLOAT"), (1, u "T_DOUBLE"), (1, u "T_BYTE"), (1, u "T_SHORT"), (1, u "T_INT"), (1, u "T_LONG"), (1, u "SOFT_MAX_ARRAY_LENGTH"), (56, u "newLength"), (0, u "(III)I")] 25

def k23m0 : Method := { name := "<init>", desc := "()V", sig := { parameters := [], returnType := none }, accessFlags := 2, code := none }
def k23c1 : Code := { maxStack := 3, maxLocals := 4, code := jdk_48_method_27_code, exceptionTable := #[], attributes := #[] }
def k23m1 : Method := { name := "newLength", desc := "(III)I", sig := { parameters := [.int, .int, .int], returnType := some .int }, accessFlags := 9, code := some k23c1 }
/-- jdk/internal/util/ArraysSupport -/
def k23 : Class := { plain "jdk/internal/util/ArraysSupport" (some 0) with
  accessFlags := 33
  interfaces := #[]
  cf := some (fileOf pool23 21 #[] #[{ accessFlags := 2, nameIndex := 9, descriptorIndex := 19, attributes := #[] }, { accessFlags := 9, nameIndex := 351, descriptorIndex := 352, attributes := #[] }] 33 16 #[] #[{ accessFlags := 24, nameIndex := 28, descriptorIndex := 29, attributes := #[] }, { accessFlags := 26, nameIndex := 38, descriptorIndex := 39, attributes := #[] }, { accessFlags := 25, nameIndex := 121, descriptorIndex := 25, attributes := #[] }, { accessFlags := 25, nameIndex := 131, descriptorIndex := 25, attributes := #[] }, { accessFlags := 25, nameIndex := 137, descriptorIndex := 25, attributes := #[] }, { accessFlags := 25, nameIndex := 143, descriptorIndex := 25, attributes := #[] }, { accessFlags := 25, nameIndex := 53, descriptorIndex := 25, attributes := #[] }, { accessFlags := 25, nameIndex := 24, descriptorIndex := 25, attributes := #[] }, { accessFlags := 25, nameIndex := 162, descriptorIndex := 25, attributes := #[] }, { accessFlags := 25, nameIndex := 187, descriptorIndex := 25, attributes := #[] }, { accessFlags := 26, nameIndex := 48, descriptorIndex := 25, attributes := #[] }, { accessFlags := 25, nameIndex := 277, descriptorIndex := 25, attributes := #[] }, { accessFlags := 25, nameIndex := 280, descriptorIndex := 25, attributes := #[] }, { accessFlags := 25, nameIndex := 282, descriptorIndex := 25, attributes := #[] }, { accessFlags := 25, nameIndex := 284, descriptorIndex := 25, attributes := #[] }, { accessFlags := 25, nameIndex := 286, descriptorIndex := 25, attributes := #[] }, { accessFlags := 25, nameIndex := 288, descriptorIndex := 25, attributes := #[] }, { accessFlags := 25, nameIndex := 290, descriptorIndex := 25, attributes := #[] }, { accessFlags := 25, nameIndex := 292, descriptorIndex := 25, attributes := #[] }, { accessFlags := 26, nameIndex := 108, descriptorIndex := 109, attributes := #[] }, { accessFlags := 25, nameIndex := 294, descriptorIndex := 25, attributes := #[] }])
  fields := #[{ name := "U", type := (.object "jdk/internal/misc/Unsafe"), accessFlags := 24, slot := 0, constantValue := 0 }, { name := "BIG_ENDIAN", type := .boolean, accessFlags := 26, slot := 1, constantValue := 0 }, { name := "LOG2_ARRAY_BOOLEAN_INDEX_SCALE", type := .int, accessFlags := 25, slot := 2, constantValue := 0 }, { name := "LOG2_ARRAY_BYTE_INDEX_SCALE", type := .int, accessFlags := 25, slot := 3, constantValue := 0 }, { name := "LOG2_ARRAY_CHAR_INDEX_SCALE", type := .int, accessFlags := 25, slot := 4, constantValue := 0 }, { name := "LOG2_ARRAY_SHORT_INDEX_SCALE", type := .int, accessFlags := 25, slot := 5, constantValue := 0 }, { name := "LOG2_ARRAY_INT_INDEX_SCALE", type := .int, accessFlags := 25, slot := 6, constantValue := 0 }, { name := "LOG2_ARRAY_LONG_INDEX_SCALE", type := .int, accessFlags := 25, slot := 7, constantValue := 0 }, { name := "LOG2_ARRAY_FLOAT_INDEX_SCALE", type := .int, accessFlags := 25, slot := 8, constantValue := 0 }, { name := "LOG2_ARRAY_DOUBLE_INDEX_SCALE", type := .int, accessFlags := 25, slot := 9, constantValue := 0 }, { name := "LOG2_BYTE_BIT_SIZE", type := .int, accessFlags := 26, slot := 10, constantValue := 0 }, { name := "T_BOOLEAN", type := .int, accessFlags := 25, slot := 11, constantValue := 0 }, { name := "T_CHAR", type := .int, accessFlags := 25, slot := 12, constantValue := 0 }, { name := "T_FLOAT", type := .int, accessFlags := 25, slot := 13, constantValue := 0 }, { name := "T_DOUBLE", type := .int, accessFlags := 25, slot := 14, constantValue := 0 }, { name := "T_BYTE", type := .int, accessFlags := 25, slot := 15, constantValue := 0 }, { name := "T_SHORT", type := .int, accessFlags := 25, slot := 16, constantValue := 0 }, { name := "T_INT", type := .int, accessFlags := 25, slot := 17, constantValue := 0 }, { name := "T_LONG", type := .int, accessFlags := 25, slot := 18, constantValue := 0 }, { name := "JLA", type := (.object "jdk/internal/access/JavaLangAccess"), accessFlags := 26, slot := 19, constantValue := 0 }, { name := "SOFT_MAX_ARRAY_LENGTH", type := .int, accessFlags := 25, slot := 20, constantValue := 0 }]
  methods := #[k23m0, k23m1]
  instanceTypes := #[]
  staticTypes := #[(.object "jdk/internal/misc/Unsafe"), .boolean, .int, .int, .int, .int, .int, .int, .int, .int, .int, .int, .int, .int, .int, .int, .int, .int, .int, (.object "jdk/internal/access/JavaLangAccess"), .int]
  resolved := Array.replicate 378 none
  statics := none }

def pool24 : Array CpInfo := pool [(1, .class_ 2), (0, u "java/lang/Cloneable"), (0, .class_ 4), (0, u "java/lang/Object")] 2

/-- java/lang/Cloneable -/
def k24 : Class := { plain "java/lang/Cloneable" (some 0) with
  accessFlags := 1537
  interfaces := #[]
  cf := some (fileOf pool24 1 #[] #[] 1537 3 #[] #[])
  fields := #[]
  methods := #[]
  instanceTypes := #[]
  staticTypes := #[]
  resolved := Array.replicate 7 none
  statics := none }

def pool25 : Array CpInfo := pool [(4, .class_ 6), (1, u "java/lang/Object"), (0, u "<init>"), (0, u "()V"), (5, .class_ 16), (1, u "java/lang/StringLatin1"), (104, u "$assertionsDisabled"), (0, u "Z"), (98, .class_ 223), (1, u "java/lang/StringLatin1$LinesSpliterator"), (166, .class_ 391), (0, u "java/lang/StringLatin1$CharsSpliterator")] 3

def k25m0 : Method := { name := "<init>", desc := "()V", sig := { parameters := [], returnType := none }, accessFlags := 0, code := none }
/-- java/lang/StringLatin1 -/
def k25 : Class := { plain "java/lang/StringLatin1" (some 0) with
  accessFlags := 48
  interfaces := #[]
  cf := some (fileOf pool25 14 #[.nestMembers #[390, 221]] #[{ accessFlags := 0, nameIndex := 7, descriptorIndex := 8, attributes := #[] }] 48 4 #[] #[{ accessFlags := 4120, nameIndex := 121, descriptorIndex := 122, attributes := #[] }])
  fields := #[{ name := "$assertionsDisabled", type := .boolean, accessFlags := 4120, slot := 0, constantValue := 0 }]
  methods := #[k25m0]
  instanceTypes := #[]
  staticTypes := #[.boolean]
  resolved := Array.replicate 395 none
  statics := none }

def pool26 : Array CpInfo := pool [(2, .class_ 4), (1, u "java/lang/Object"), (0, u "<init>"), (0, u "()V"), (17, .class_ 26), (1, u "jdk/internal/util/Preconditions"), (28, .class_ 56), (0, u "jdk/internal/util/Preconditions$4"), (57, .class_ 115), (0, u "jdk/internal/util/Preconditions$1"), (7, u "SIOOBE_FORMATTER"), (0, u "Ljava/util/function/BiFunction;"), (0, .class_ 126), (0, u "jdk/internal/util/Preconditions$2"), (3, u "AIOOBE_FORMATTER"), (0, .class_ 132), (0, u "jdk/internal/util/Preconditions$3"), (3, u "IOOBE_FORMATTER")] 57

def k26m0 : Method := { name := "<init>", desc := "()V", sig := { parameters := [], returnType := none }, accessFlags := 1, code := none }
/-- jdk/internal/util/Preconditions -/
def k26 : Class := { plain "jdk/internal/util/Preconditions" (some 0) with
  accessFlags := 33
  interfaces := #[]
  cf := some (fileOf pool26 24 #[.nestMembers #[55, 131, 125, 114]] #[{ accessFlags := 1, nameIndex := 5, descriptorIndex := 6, attributes := #[] }] 33 2 #[] #[{ accessFlags := 25, nameIndex := 123, descriptorIndex := 124, attributes := #[] }, { accessFlags := 25, nameIndex := 130, descriptorIndex := 124, attributes := #[] }, { accessFlags := 25, nameIndex := 136, descriptorIndex := 124, attributes := #[] }])
  fields := #[{ name := "SIOOBE_FORMATTER", type := (.object "java/util/function/BiFunction"), accessFlags := 25, slot := 0, constantValue := 0 }, { name := "AIOOBE_FORMATTER", type := (.object "java/util/function/BiFunction"), accessFlags := 25, slot := 1, constantValue := 0 }, { name := "IOOBE_FORMATTER", type := (.object "java/util/function/BiFunction"), accessFlags := 25, slot := 2, constantValue := 0 }]
  methods := #[k26m0]
  instanceTypes := #[]
  staticTypes := #[(.object "java/util/function/BiFunction"), (.object "java/util/function/BiFunction"), (.object "java/util/function/BiFunction")]
  resolved := Array.replicate 194 none
  statics := some 4 }

def pool27 : Array CpInfo := pool [(2, .class_ 4), (1, u "java/lang/Object"), (0, u "<init>"), (0, u "()V"), (12, .class_ 20), (0, u "java/util/Collections"), (63, u "r"), (0, u "Ljava/util/Random;"), (80, .class_ 167), (0, u "java/util/Collections$UnmodifiableCollection"), (6, .class_ 175), (0, u "java/util/Collections$UnmodifiableSequencedCollection"), (6, .class_ 183), (0, u "java/util/Collections$UnmodifiableSet"), (6, .class_ 191), (0, u "java/util/Collections$UnmodifiableSequencedSet"), (6, .class_ 199), (0, u "java/util/Collections$UnmodifiableSortedSet"), (6, .class_ 207), (0, u "java/util/Collections$UnmodifiableNavigableSet"), (4, .class_ 213), (0, u "java/util/Collections$UnmodifiableList"), (1, .class_ 216), (0, u "java/util/Collections$UnmodifiableRandomAccessList"), (6, .class_ 224), (0, u "java/util/Collections$UnmodifiableMap"), (6, .class_ 232), (0, u "java/util/Collections$UnmodifiableSequencedMap"), (4, .class_ 238), (0, u "java/util/Collections$UnmodifiableSortedMap"), (6, .class_ 246), (0, u "java/util/Collections$UnmodifiableNavigableMap"), (3, .class_ 251), (0, u "java/util/Collections$SynchronizedCollection"), (4, .class_ 257), (0, u "java/util/Collections$SynchronizedSet"), (4, .class_ 263), (0, u "java/util/Collections$SynchronizedSortedSet"), (1, .class_ 266), (0, u "java/util/Collections$SynchronizedNavigableSet"), (1, .class_ 269), (0, u "java/util/Collections$SynchronizedRandomAccessList"), (1, .class_ 272), (0, u "java/util/Collections$SynchronizedList"), (5, .class_ 279), (0, u "java/util/Collections$SynchronizedMap"), (1, .class_ 282), (0, u "java/util/Collections$SynchronizedSortedMap"), (1, .class_ 285), (0, u "java/util/Collections$SynchronizedNavigableMap"), (1, .class_ 288), (0, u "java/util/Collections$CheckedCollection"), (11, .class_ 301), (0, u "java/util/Collections$CheckedQueue"), (3, .class_ 306), (0, u "java/util/Collections$CheckedSet"), (3, .class_ 311), (0, u "java/util/Collections$CheckedSortedSet"), (3, .class_ 316), (0, u "java/util/Collections$CheckedNavigableSet"), (3, .class_ 321), (0, u "java/util/Collections$CheckedRandomAccessList"), (3, .class_ 326), (0, u "java/util/Collections$CheckedList"), (1, .class_ 329), (0, u "java/util/Collections$CheckedMap"), (3, .class_ 334), (0, u "java/util/Collections$CheckedSortedMap"), (3, .class_ 339), (0, u "java/util/Collections$CheckedNavigableMap"), (4, .class_ 346), (1, u "java/util/Collections$EmptyIterator"), (3, .class_ 352), (1, u "java/util/Collections$EmptyListIterator"), (2, .class_ 357), (1, u "java/util/Collections$EmptyEnumeration"), (4, u "EMPTY_SET"), (0, u "Ljava/util/Set;"), (6, u "EMPTY_LIST"), (0, u "Ljava/util/List;"), (2, u "EMPTY_MAP"), (0, u "Ljava/util/Map;"), (4, .class_ 381), (0, u "java/util/Collections$SingletonSet"), (2, .class_ 385), (0, u "java/util/Collections$1"), (1, .class_ 388), (0, u "java/util/Collections$2"), (1, .class_ 391), (0, u "java/util/Collections$SingletonList"), (1, .class_ 394), (0, u "java/util/Collections$SingletonMap"), (22, .class_ 418), (0, u "java/util/Collections$CopiesList"), (4, .class_ 425), (1, u "java/util/Collections$ReverseComparator"), (8, .class_ 435), (0, u "java/util/Collections$ReverseComparator2"), (6, .class_ 443), (0, u "java/util/Collections$3"), (25, .class_ 470), (0, u "java/util/Collections$SetFromMap"), (2, .class_ 474), (0, u "java/util/Collections$SequencedSetFromMap"), (3, .class_ 479), (0, u "java/util/Collections$AsLIFOQueue"), (11, .class_ 492), (0, u "java/util/Collections$EmptySet"), (1, .class_ 495), (0, u "java/util/Collections$EmptyList"), (1, .class_ 498), (0, u "java/util/Collections$EmptyMap"), (1, u "BINARYSEARCH_THRESHOLD"), (0, u "I"), (2, u "REVERSE_THRESHOLD"), (1, u "SHUFFLE_THRESHOLD"), (1, u "FILL_THRESHOLD"), (1, u "ROTATE_THRESHOLD"), (1, u "COPY_THRESHOLD"), (1, u "REPLACEALL_THRESHOLD"), (1, u "INDEXOFSUBLIST_THRESHOLD"), (333, .class_ 851), (0, u "java/util/Collections$CheckedMap$CheckedEntrySet"), (0, .class_ 853), (0, u "java/util/Collections$CheckedMap$CheckedEntrySet$CheckedEntry"), (0, .class_ 855), (0, u "java/util/Collections$CheckedMap$CheckedEntrySet$1"), (0, .class_ 857), (0, u "java/util/Collections$CheckedList$1"), (0, .class_ 859), (0, u "java/util/Collections$CheckedCollection$1"), (0, .class_ 861), (0, u "java/util/Collections$UnmodifiableNavigableMap$EmptyNavigableMap"), (0, .class_ 863), (0, u "java/util/Collections$UnmodifiableMap$UnmodifiableEntrySet"), (0, .class_ 865), (0, u "java/util/Collections$UnmodifiableMap$UnmodifiableEntrySet$UnmodifiableEntry"), (0, .class_ 867), (0, u "java/util/Collections$UnmodifiableMap$UnmodifiableEntrySet$UnmodifiableEntrySetSpliterator"), (0, .class_ 869), (0, u "java/util/Collections$UnmodifiableMap$UnmodifiableEntrySet$1"), (0, .class_ 871), (0, u "java/util/Collections$UnmodifiableList$1"), (0, .class_ 873), (0, u "java/util/Collections$UnmodifiableNavigableSet$EmptyNavigableSet"), (0, .class_ 875), (0, u "java/util/Collections$UnmodifiableCollection$1")] 57

def k27m0 : Method := { name := "<init>", desc := "()V", sig := { parameters := [], returnType := none }, accessFlags := 2, code := none }
/-- java/util/Collections -/
def k27 : Class := { plain "java/util/Collections" (some 0) with
  accessFlags := 33
  interfaces := #[]
  cf := some (fileOf pool27 19 #[.nestMembers #[478, 473, 469, 434, 423, 417, 393, 390, 380, 497, 494, 491, 355, 350, 344, 338, 333, 328, 850, 852, 854, 320, 325, 856, 315, 310, 305, 300, 287, 858, 284, 281, 278, 268, 271, 265, 262, 256, 250, 245, 860, 237, 231, 223, 862, 864, 866, 868, 215, 212, 870, 206, 872, 198, 190, 182, 174, 166, 874, 442, 387, 384]] #[{ accessFlags := 2, nameIndex := 5, descriptorIndex := 6, attributes := #[] }] 33 2 #[] #[{ accessFlags := 26, nameIndex := 500, descriptorIndex := 501, attributes := #[] }, { accessFlags := 26, nameIndex := 504, descriptorIndex := 501, attributes := #[] }, { accessFlags := 26, nameIndex := 506, descriptorIndex := 501, attributes := #[] }, { accessFlags := 26, nameIndex := 508, descriptorIndex := 501, attributes := #[] }, { accessFlags := 26, nameIndex := 510, descriptorIndex := 501, attributes := #[] }, { accessFlags := 26, nameIndex := 512, descriptorIndex := 501, attributes := #[] }, { accessFlags := 26, nameIndex := 514, descriptorIndex := 501, attributes := #[] }, { accessFlags := 26, nameIndex := 516, descriptorIndex := 501, attributes := #[] }, { accessFlags := 10, nameIndex := 84, descriptorIndex := 85, attributes := #[] }, { accessFlags := 25, nameIndex := 362, descriptorIndex := 363, attributes := #[] }, { accessFlags := 25, nameIndex := 370, descriptorIndex := 371, attributes := #[] }, { accessFlags := 25, nameIndex := 374, descriptorIndex := 375, attributes := #[] }])
  fields := #[{ name := "BINARYSEARCH_THRESHOLD", type := .int, accessFlags := 26, slot := 0, constantValue := 0 }, { name := "REVERSE_THRESHOLD", type := .int, accessFlags := 26, slot := 1, constantValue := 0 }, { name := "SHUFFLE_THRESHOLD", type := .int, accessFlags := 26, slot := 2, constantValue := 0 }, { name := "FILL_THRESHOLD", type := .int, accessFlags := 26, slot := 3, constantValue := 0 }, { name := "ROTATE_THRESHOLD", type := .int, accessFlags := 26, slot := 4, constantValue := 0 }, { name := "COPY_THRESHOLD", type := .int, accessFlags := 26, slot := 5, constantValue := 0 }, { name := "REPLACEALL_THRESHOLD", type := .int, accessFlags := 26, slot := 6, constantValue := 0 }, { name := "INDEXOFSUBLIST_THRESHOLD", type := .int, accessFlags := 26, slot := 7, constantValue := 0 }, { name := "r", type := (.object "java/util/Random"), accessFlags := 10, slot := 8, constantValue := 0 }, { name := "EMPTY_SET", type := (.object "java/util/Set"), accessFlags := 25, slot := 9, constantValue := 0 }, { name := "EMPTY_LIST", type := (.object "java/util/List"), accessFlags := 25, slot := 10, constantValue := 0 }, { name := "EMPTY_MAP", type := (.object "java/util/Map"), accessFlags := 25, slot := 11, constantValue := 0 }]
  methods := #[k27m0]
  instanceTypes := #[]
  staticTypes := #[.int, .int, .int, .int, .int, .int, .int, .int, (.object "java/util/Random"), (.object "java/util/Set"), (.object "java/util/List"), (.object "java/util/Map")]
  resolved := Array.replicate 933 none
  statics := some 5 }

def pool28 : Array CpInfo := pool [(8, .class_ 10), (1, u "java/lang/Iterable"), (24, .class_ 36), (0, u "java/lang/Object")] 25

/-- java/lang/Iterable -/
def k28 : Class := { plain "java/lang/Iterable" (some 0) with
  accessFlags := 1537
  interfaces := #[]
  cf := some (fileOf pool28 8 #[] #[] 1537 35 #[] #[])
  fields := #[]
  methods := #[]
  instanceTypes := #[]
  staticTypes := #[]
  resolved := Array.replicate 62 none
  statics := none }

def pool29 : Array CpInfo := pool [(10, .class_ 12), (1, u "java/util/Collection"), (47, .class_ 61), (0, u "java/lang/Object"), (0, .class_ 63), (0, u "java/lang/Iterable")] 51

/-- java/util/Collection -/
def k29 : Class := { plain "java/util/Collection" (some 0) with
  accessFlags := 1537
  interfaces := #[28]
  cf := some (fileOf pool29 10 #[] #[] 1537 60 #[62] #[])
  fields := #[]
  methods := #[]
  instanceTypes := #[]
  staticTypes := #[]
  resolved := Array.replicate 115 none
  statics := none }

def pool30 : Array CpInfo := pool [(2, .class_ 4), (1, u "java/lang/Object"), (0, u "<init>"), (0, u "()V"), (1, .class_ 10), (1, u "java/util/AbstractCollection"), (66, .class_ 78), (0, u "java/util/Collection")] 81

def k30m0 : Method := { name := "<init>", desc := "()V", sig := { parameters := [], returnType := none }, accessFlags := 4, code := none }
/-- java/util/AbstractCollection -/
def k30 : Class := { plain "java/util/AbstractCollection" (some 0) with
  accessFlags := 1057
  interfaces := #[29]
  cf := some (fileOf pool30 8 #[] #[{ accessFlags := 4, nameIndex := 5, descriptorIndex := 6, attributes := #[] }] 1057 2 #[77] #[])
  fields := #[]
  methods := #[k30m0]
  instanceTypes := #[]
  staticTypes := #[]
  resolved := Array.replicate 160 none
  statics := none }

def pool31 : Array CpInfo := pool [(8, .class_ 10), (1, u "java/util/SequencedCollection"), (15, .class_ 27), (0, u "java/lang/Object"), (0, .class_ 29), (0, u "java/util/Collection")] 27

/-- java/util/SequencedCollection -/
def k31 : Class := { plain "java/util/SequencedCollection" (some 0) with
  accessFlags := 1537
  interfaces := #[29]
  cf := some (fileOf pool31 8 #[] #[] 1537 26 #[28] #[])
  fields := #[]
  methods := #[]
  instanceTypes := #[]
  staticTypes := #[]
  resolved := Array.replicate 57 none
  statics := none }

def pool32 : Array CpInfo := pool [(8, .class_ 10), (1, u "java/util/List"), (92, .class_ 104), (0, u "java/lang/Object"), (15, .class_ 121), (0, u "java/util/SequencedCollection")] 129

/-- java/util/List -/
def k32 : Class := { plain "java/util/List" (some 0) with
  accessFlags := 1537
  interfaces := #[31]
  cf := some (fileOf pool32 8 #[] #[] 1537 103 #[120] #[])
  fields := #[]
  methods := #[]
  instanceTypes := #[]
  staticTypes := #[]
  resolved := Array.replicate 251 none
  statics := none }

def pool33 : Array CpInfo := pool [(2, .class_ 4), (1, u "java/util/AbstractCollection"), (0, u "<init>"), (0, u "()V"), (1, .class_ 10), (1, u "java/util/AbstractList"), (0, u "modCount"), (0, u "I"), (64, .class_ 78), (0, u "java/util/AbstractList$Itr"), (3, .class_ 83), (0, u "java/util/AbstractList$ListItr"), (9, .class_ 94), (0, u "java/util/AbstractList$RandomAccessSubList"), (3, .class_ 99), (0, u "java/util/AbstractList$SubList"), (33, .class_ 134), (0, u "java/util/List"), (73, .class_ 209), (0, u "java/util/AbstractList$SubList$1"), (0, .class_ 211), (0, u "java/util/AbstractList$RandomAccessSpliterator")] 6

def k33m0 : Method := { name := "<init>", desc := "()V", sig := { parameters := [], returnType := none }, accessFlags := 4, code := none }
/-- java/util/AbstractList -/
def k33 : Class := { plain "java/util/AbstractList" (some 30) with
  accessFlags := 1057
  interfaces := #[32]
  cf := some (fileOf pool33 8 #[.nestMembers #[93, 98, 208, 210, 82, 77]] #[{ accessFlags := 4, nameIndex := 5, descriptorIndex := 6, attributes := #[] }] 1057 2 #[133] #[{ accessFlags := 132, nameIndex := 11, descriptorIndex := 12, attributes := #[] }])
  fields := #[{ name := "modCount", type := .int, accessFlags := 132, slot := 0, constantValue := 0 }]
  methods := #[k33m0]
  instanceTypes := #[.int]
  staticTypes := #[]
  resolved := Array.replicate 218 none
  statics := none }

def pool34 : Array CpInfo := pool [(1, .class_ 2), (0, u "java/util/RandomAccess"), (0, .class_ 4), (0, u "java/lang/Object")] 2

/-- java/util/RandomAccess -/
def k34 : Class := { plain "java/util/RandomAccess" (some 0) with
  accessFlags := 1537
  interfaces := #[]
  cf := some (fileOf pool34 1 #[] #[] 1537 3 #[] #[])
  fields := #[]
  methods := #[]
  instanceTypes := #[]
  staticTypes := #[]
  resolved := Array.replicate 7 none
  statics := none }

def pool35 : Array CpInfo := pool [(2, .class_ 4), (1, u "java/util/AbstractList"), (0, u "<init>"), (0, u "()V"), (1, .class_ 10), (1, u "java/util/Collections"), (54, .class_ 66), (0, u "java/util/Collections$EmptyList"), (0, .class_ 68), (0, u "java/util/RandomAccess"), (0, .class_ 70), (0, u "java/io/Serializable"), (0, u "serialVersionUID"), (0, u "J")] 77

def k35m0 : Method := { name := "<init>", desc := "()V", sig := { parameters := [], returnType := none }, accessFlags := 2, code := none }
/-- java/util/Collections$EmptyList -/
def k35 : Class := { plain "java/util/Collections$EmptyList" (some 33) with
  accessFlags := 32
  interfaces := #[34, 2]
  cf := some (fileOf pool35 65 #[.nestHost 8] #[{ accessFlags := 2, nameIndex := 5, descriptorIndex := 6, attributes := #[] }] 32 2 #[67, 69] #[{ accessFlags := 26, nameIndex := 71, descriptorIndex := 72, attributes := #[] }])
  fields := #[{ name := "serialVersionUID", type := .long, accessFlags := 26, slot := 0, constantValue := 0 }]
  methods := #[k35m0]
  instanceTypes := #[.int]
  staticTypes := #[.long]
  resolved := Array.replicate 150 none
  statics := none }

def pool36 : Array CpInfo := pool [(2, .class_ 4), (1, u "java/lang/StackTraceElement"), (0, u "<init>"), (2, .class_ 10), (1, u "java/lang/Object"), (0, u "()V"), (2, u "format"), (0, u "B"), (2, u "classLoaderName"), (0, u "Ljava/lang/String;"), (2, u "moduleName"), (2, u "moduleVersion"), (12, u "declaringClass"), (4, u "methodName"), (2, u "fileName"), (2, u "lineNumber"), (0, u "I"), (65, u "declaringClassObject"), (0, u "Ljava/lang/Class;"), (33, .class_ 153), (1, u "java/lang/StackTraceElement$HashedModules"), (17, .class_ 172), (0, u "java/io/Serializable"), (0, u "NATIVE_METHOD"), (1, u "UNKNOWN_SOURCE"), (2, u "BUILTIN_CLASS_LOADER"), (1, u "JDK_NON_UPGRADEABLE_MODULE"), (1, u "serialVersionUID"), (0, u "J")] 51

def k36m0 : Method := { name := "<init>", desc := "()V", sig := { parameters := [], returnType := none }, accessFlags := 2, code := none }
/-- java/lang/StackTraceElement -/
def k36 : Class := { plain "java/lang/StackTraceElement" (some 0) with
  accessFlags := 49
  interfaces := #[2]
  cf := some (fileOf pool36 2 #[.nestMembers #[151]] #[{ accessFlags := 2, nameIndex := 5, descriptorIndex := 11, attributes := #[] }] 49 8 #[171] #[{ accessFlags := 26, nameIndex := 173, descriptorIndex := 19, attributes := #[] }, { accessFlags := 26, nameIndex := 175, descriptorIndex := 19, attributes := #[] }, { accessFlags := 130, nameIndex := 116, descriptorIndex := 117, attributes := #[] }, { accessFlags := 2, nameIndex := 18, descriptorIndex := 19, attributes := #[] }, { accessFlags := 2, nameIndex := 22, descriptorIndex := 19, attributes := #[] }, { accessFlags := 2, nameIndex := 25, descriptorIndex := 19, attributes := #[] }, { accessFlags := 2, nameIndex := 38, descriptorIndex := 19, attributes := #[] }, { accessFlags := 2, nameIndex := 43, descriptorIndex := 19, attributes := #[] }, { accessFlags := 2, nameIndex := 46, descriptorIndex := 19, attributes := #[] }, { accessFlags := 2, nameIndex := 49, descriptorIndex := 50, attributes := #[] }, { accessFlags := 2, nameIndex := 14, descriptorIndex := 15, attributes := #[] }, { accessFlags := 26, nameIndex := 178, descriptorIndex := 15, attributes := #[] }, { accessFlags := 26, nameIndex := 180, descriptorIndex := 15, attributes := #[] }, { accessFlags := 26, nameIndex := 182, descriptorIndex := 183, attributes := #[] }])
  fields := #[{ name := "NATIVE_METHOD", type := (.object "java/lang/String"), accessFlags := 26, slot := 0, constantValue := 0 }, { name := "UNKNOWN_SOURCE", type := (.object "java/lang/String"), accessFlags := 26, slot := 1, constantValue := 0 }, { name := "declaringClassObject", type := (.object "java/lang/Class"), accessFlags := 130, slot := 0, constantValue := 0 }, { name := "classLoaderName", type := (.object "java/lang/String"), accessFlags := 2, slot := 1, constantValue := 0 }, { name := "moduleName", type := (.object "java/lang/String"), accessFlags := 2, slot := 2, constantValue := 0 }, { name := "moduleVersion", type := (.object "java/lang/String"), accessFlags := 2, slot := 3, constantValue := 0 }, { name := "declaringClass", type := (.object "java/lang/String"), accessFlags := 2, slot := 4, constantValue := 0 }, { name := "methodName", type := (.object "java/lang/String"), accessFlags := 2, slot := 5, constantValue := 0 }, { name := "fileName", type := (.object "java/lang/String"), accessFlags := 2, slot := 6, constantValue := 0 }, { name := "lineNumber", type := .int, accessFlags := 2, slot := 7, constantValue := 0 }, { name := "format", type := .byte, accessFlags := 2, slot := 8, constantValue := 0 }, { name := "BUILTIN_CLASS_LOADER", type := .byte, accessFlags := 26, slot := 2, constantValue := 0 }, { name := "JDK_NON_UPGRADEABLE_MODULE", type := .byte, accessFlags := 26, slot := 3, constantValue := 0 }, { name := "serialVersionUID", type := .long, accessFlags := 26, slot := 4, constantValue := 0 }]
  methods := #[k36m0]
  instanceTypes := #[(.object "java/lang/Class"), (.object "java/lang/String"), (.object "java/lang/String"), (.object "java/lang/String"), (.object "java/lang/String"), (.object "java/lang/String"), (.object "java/lang/String"), .int, .byte]
  staticTypes := #[(.object "java/lang/String"), (.object "java/lang/String"), .byte, .byte, .long]
  resolved := Array.replicate 235 none
  statics := none }

/-- the primitive byte -/
def k37 : Class := { plain "byte" none with kind := .primitive 'B', accessFlags := 0x411 }
/-- [B -/
def k38 : Class := { plain "[B" (some 0) with kind := .array 37 .byte, interfaces := #[24, 2], accessFlags := 1041 }

/-- the primitive int -/
def k39 : Class := { plain "int" none with kind := .primitive 'I', accessFlags := 0x411 }
/-- [I -/
def k40 : Class := { plain "[I" (some 0) with kind := .array 39 .int, interfaces := #[24, 2], accessFlags := 1041 }

/-- [Ljava/lang/Object; -/
def k41 : Class := { plain "[Ljava/lang/Object;" (some 0) with kind := .array 0 (.object "java/lang/Object"), interfaces := #[24, 2], accessFlags := 1041 }

/-- [Ljava/lang/StackTraceElement; -/
def k42 : Class := { plain "[Ljava/lang/StackTraceElement;" (some 0) with kind := .array 36 (.object "java/lang/StackTraceElement"), interfaces := #[24, 2], accessFlags := 1041 }

/-- [Ljava/lang/Throwable; -/
def k43 : Class := { plain "[Ljava/lang/Throwable;" (some 0) with kind := .array 3 (.object "java/lang/Throwable"), interfaces := #[24, 2], accessFlags := 1041 }

def heap : Heap := #[{ cls := 3, slots := #[.long 0, .ref 9, .ref 10, .null, .null, .null, .null, .ref 11, .int 1], vm := .statics 3 },
  { cls := 10, slots := #[.null, .null, .ref 6, .null, .null, .null], vm := .statics 10 },
  { cls := 13, slots := #[.long 0, .int 1, .null, .int 0, .null, .int 0, .int 0], vm := .statics 13 },
  { cls := 20, slots := #[.int 0, .int 0, .null, .null, .ref 8, .ref 7, .int 0, .int 0, .long 0], vm := .statics 20 },
  { cls := 26, slots := #[.null, .null, .null], vm := .statics 26 },
  { cls := 27, slots := #[.int 0, .int 0, .int 0, .int 0, .int 0, .int 0, .int 0, .int 0, .null, .null, .ref 10, .null], vm := .statics 27 },
  { cls := 10, slots := #[.null, .int 0, .int 0], vm := .none },
  { cls := 38, slots := #[.int 48, .int 49, .int 50, .int 51, .int 52, .int 53, .int 54, .int 55, .int 56, .int 57, .int 48, .int 49, .int 50, .int 51, .int 52, .int 53, .int 54, .int 55, .int 56, .int 57, .int 48, .int 49, .int 50, .int 51, .int 52, .int 53, .int 54, .int 55, .int 56, .int 57, .int 48, .int 49, .int 50, .int 51, .int 52, .int 53, .int 54, .int 55, .int 56, .int 57, .int 48, .int 49, .int 50, .int 51, .int 52, .int 53, .int 54, .int 55, .int 56, .int 57, .int 48, .int 49, .int 50, .int 51, .int 52, .int 53, .int 54, .int 55, .int 56, .int 57, .int 48, .int 49, .int 50, .int 51, .int 52, .int 53, .int 54, .int 55, .int 56, .int 57, .int 48, .int 49, .int 50, .int 51, .int 52, .int 53, .int 54, .int 55, .int 56, .int 57, .int 48, .int 49, .int 50, .int 51, .int 52, .int 53, .int 54, .int 55, .int 56, .int 57, .int 48, .int 49, .int 50, .int 51, .int 52, .int 53, .int 54, .int 55, .int 56, .int 57], vm := .none },
  { cls := 38, slots := #[.int 48, .int 48, .int 48, .int 48, .int 48, .int 48, .int 48, .int 48, .int 48, .int 48, .int 49, .int 49, .int 49, .int 49, .int 49, .int 49, .int 49, .int 49, .int 49, .int 49, .int 50, .int 50, .int 50, .int 50, .int 50, .int 50, .int 50, .int 50, .int 50, .int 50, .int 51, .int 51, .int 51, .int 51, .int 51, .int 51, .int 51, .int 51, .int 51, .int 51, .int 52, .int 52, .int 52, .int 52, .int 52, .int 52, .int 52, .int 52, .int 52, .int 52, .int 53, .int 53, .int 53, .int 53, .int 53, .int 53, .int 53, .int 53, .int 53, .int 53, .int 54, .int 54, .int 54, .int 54, .int 54, .int 54, .int 54, .int 54, .int 54, .int 54, .int 55, .int 55, .int 55, .int 55, .int 55, .int 55, .int 55, .int 55, .int 55, .int 55, .int 56, .int 56, .int 56, .int 56, .int 56, .int 56, .int 56, .int 56, .int 56, .int 56, .int 57, .int 57, .int 57, .int 57, .int 57, .int 57, .int 57, .int 57, .int 57, .int 57], vm := .none },
  { cls := 42, slots := #[], vm := .none },
  { cls := 35, slots := #[.int 0], vm := .none },
  { cls := 43, slots := #[], vm := .none }]
def classes : Array Class := #[k0, k1, k2, k3, k4, k5, k6, k7, k8, k9, k10, k11, k12, k13, k14, k15, k16, k17, k18, k19, k20, k21, k22, k23, k24, k25, k26, k27, k28, k29, k30, k31, k32, k33, k34, k35, k36, k37, k38, k39, k40, k41, k42, k43]
def interned : List (Array UInt16 × Addr) := []
def slotsUsed : Nat := 250
def theMethod : MethodId := ⟨1, 1⟩
def args0 : Array Value := #[.long 5]
def aboutOver (below : List Frame) : State where
  vm := { classes := classes, interned := interned.toArray }
  heap := heap
  slotsUsed := slotsUsed
  threads := #[{ frames := .invoking theMethod args0 :: below }]
def below0 : List Frame := [.native { method := ⟨0, 0⟩, args := #[] }]
def about1 : State := aboutOver below0
def p0 : Program := .bare "" "" ""
def e0 : Env := launch0.env 0 0 0
theorem w_frames : about1.frames = Frame.invoking theMethod args0 :: below0 := rfl
set_option maxRecDepth 65536 in
theorem w_args : argsFit about1.vm theMethod args0 = true := by decide +kernel
set_option maxRecDepth 65536 in
theorem w_heap : heapFits about1 = true := by decide +kernel
set_option maxRecDepth 65536 in
theorem w_runnable : about1.curStatus? = some .runnable := by decide +kernel
set_option maxRecDepth 65536 in
theorem w_alone : about1.alone = true := by decide +kernel
set_option maxRecDepth 65536 in
theorem w_named : about1.methodNamed? x = some theMethod := by decide +kernel
set_option maxRecDepth 65536 in
theorem w_hears : about1.hears theMethod below0 = true := by decide +kernel
set_option maxRecDepth 65536 in
theorem w_ripe : about1.ripe theMethod args0 below0 = true := by decide +kernel
theorem w_running : about1.status = .running := rfl
set_option maxRecDepth 65536 in
theorem w_room : about1.hasRoom e0.platform room_1 = true :=
  launch0.hasRoom_least _ room_1 (by decide +kernel) (by decide +kernel) (by decide +kernel) (by decide +kernel) (by decide +kernel) (by decide +kernel)
theorem allAtoms_all (ts : List Jvm.Cond) (a : Array Jvm.Value) (st : Jvm.State) : (allAtoms ts).before a st = ts.all (fun c => c.before a st) := by
  induction ts with
  | nil => rfl
  | cons c t ih =>
    show (Jvm.Cond.and c (allAtoms t)).before a st = _
    rw [Jvm.Cond.before_and, ih, List.all_cons]
def words1 : List Jvm.Cond := Jvm.Cond.code x code maxLocals ret :: tables_1
/-- a 'code' word, met by the world's own term for the bytes: nothing is compared byte by byte -/
theorem code_word {y : MethodName} {bytes : ByteArray} {mx : Nat} {rt : Option FieldType} {a : Array Value} {s : State} {m : MethodId} {meth : Method} {c : Code} (h1 : s.methodNamed? y = some m) (h2 : s.vm.method? m = some meth) (h3 : meth.code = some c) (h4 : c.code = bytes)
    (h5 : (c.maxLocals == mx && c.exceptionTable.isEmpty && decide (c.maxStack ≤ mostOperands) && decide (meth.sig.returnType = rt) && !meth.locks && decide (parseMethodDescriptor y.desc = some meth.sig)) = true) : (Jvm.Cond.code y bytes mx rt).before a s = true := by
  simp only [Bool.and_eq_true, beq_iff_eq, Bool.not_eq_true', decide_eq_true_eq] at h5
  obtain ⟨⟨⟨⟨⟨g1, g2⟩, g3⟩, g4⟩, g5⟩, g6⟩ := h5
  simp [Cond.before, Cond.holds, Cond.value, h1, h2, h3, h4, g1, g2, g3, g4, g5, g6]
def isCode : Jvm.Cond → Bool
  | .code _ _ _ _ => true
  | _ => false
theorem all_split {L : List Jvm.Cond} {P : Jvm.Cond → Bool} (h1 : L.all (fun c => isCode c || P c) = true) (h2 : ∀ c ∈ L.filter isCode, P c = true) : L.all P = true := by
  refine List.all_eq_true.mpr fun c hc => ?_
  have h := List.all_eq_true.mp h1 c hc
  rcases Bool.eq_false_or_eq_true (isCode c) with hi | hi
  · exact h2 c (List.mem_filter.mpr ⟨hc, hi⟩)
  · simpa [hi] using h
set_option maxRecDepth 65536 in
theorem w_c0 : (Jvm.Cond.code x code maxLocals ret).before args0 about1 = true := code_word (m := ⟨1, 1⟩) (meth := k1m1) (c := k1c1) (by decide +kernel) rfl rfl rfl (by decide +kernel)
set_option maxRecDepth 65536 in
theorem w_c1 : (Jvm.Cond.code ({ cls := "com/example/dequeue/dequeue/RefusedException", name := "noSuchEvent", desc := "(J)Lcom/example/dequeue/dequeue/RefusedException;" } : Jvm.MethodName) prog_12_method_2_code (2 : Nat) (Option.some (Jvm.ClassFile.FieldType.object "com/example/dequeue/dequeue/RefusedException"))).before args0 about1 = true := code_word (m := ⟨6, 1⟩) (meth := k6m1) (c := k6c1) (by decide +kernel) rfl rfl rfl (by decide +kernel)
set_option maxRecDepth 65536 in
theorem w_c2 : (Jvm.Cond.code ({ cls := "java/lang/StringBuilder", name := "<init>", desc := "()V" } : Jvm.MethodName) jdk_67_method_1_code (1 : Nat) (Option.none : Option Jvm.ClassFile.FieldType)).before args0 about1 = true := code_word (m := ⟨16, 0⟩) (meth := k16m0) (c := k16c0) (by decide +kernel) rfl rfl rfl (by decide +kernel)
set_option maxRecDepth 65536 in
theorem w_c3 : (Jvm.Cond.code ({ cls := "java/lang/AbstractStringBuilder", name := "<init>", desc := "(I)V" } : Jvm.MethodName) jdk_68_method_2_code (2 : Nat) (Option.none : Option Jvm.ClassFile.FieldType)).before args0 about1 = true := code_word (m := ⟨15, 1⟩) (meth := k15m1) (c := k15c1) (by decide +kernel) rfl rfl rfl (by decide +kernel)
set_option maxRecDepth 65536 in
theorem w_c4 : (Jvm.Cond.code ({ cls := "java/lang/Object", name := "<init>", desc := "()V" } : Jvm.MethodName) object_method_1_code (1 : Nat) (Option.none : Option Jvm.ClassFile.FieldType)).before args0 about1 = true := code_word (m := ⟨0, 0⟩) (meth := k0m0) (c := k0c0) (by decide +kernel) rfl rfl rfl (by decide +kernel)
set_option maxRecDepth 65536 in
theorem w_c5 : (Jvm.Cond.code ({ cls := "java/lang/StringBuilder", name := "append", desc := "(Ljava/lang/String;)Ljava/lang/StringBuilder;" } : Jvm.MethodName) jdk_67_method_7_code (2 : Nat) (Option.some (Jvm.ClassFile.FieldType.object "java/lang/StringBuilder"))).before args0 about1 = true := code_word (m := ⟨16, 1⟩) (meth := k16m1) (c := k16c1) (by decide +kernel) rfl rfl rfl (by decide +kernel)
set_option maxRecDepth 65536 in
theorem w_c6 : (Jvm.Cond.code ({ cls := "java/lang/AbstractStringBuilder", name := "append", desc := "(Ljava/lang/String;)Ljava/lang/AbstractStringBuilder;" } : Jvm.MethodName) jdk_68_method_22_code (3 : Nat) (Option.some (Jvm.ClassFile.FieldType.object "java/lang/AbstractStringBuilder"))).before args0 about1 = true := code_word (m := ⟨15, 5⟩) (meth := k15m5) (c := k15c5) (by decide +kernel) rfl rfl rfl (by decide +kernel)
set_option maxRecDepth 65536 in
theorem w_c7 : (Jvm.Cond.code ({ cls := "java/lang/String", name := "length", desc := "()I" } : Jvm.MethodName) jdk_42_method_54_code (1 : Nat) (Option.some Jvm.ClassFile.FieldType.int)).before args0 about1 = true := code_word (m := ⟨13, 2⟩) (meth := k13m2) (c := k13c2) (by decide +kernel) rfl rfl rfl (by decide +kernel)
set_option maxRecDepth 65536 in
theorem w_c8 : (Jvm.Cond.code ({ cls := "java/lang/String", name := "coder", desc := "()B" } : Jvm.MethodName) jdk_42_method_152_code (1 : Nat) (Option.some Jvm.ClassFile.FieldType.byte)).before args0 about1 = true := code_word (m := ⟨13, 5⟩) (meth := k13m5) (c := k13c5) (by decide +kernel) rfl rfl rfl (by decide +kernel)
set_option maxRecDepth 65536 in
theorem w_c9 : (Jvm.Cond.code ({ cls := "java/lang/AbstractStringBuilder", name := "ensureCapacityInternal", desc := "(I)V" } : Jvm.MethodName) jdk_68_method_9_code (3 : Nat) (Option.none : Option Jvm.ClassFile.FieldType)).before args0 about1 = true := code_word (m := ⟨15, 3⟩) (meth := k15m3) (c := k15c3) (by decide +kernel) rfl rfl rfl (by decide +kernel)
set_option maxRecDepth 65536 in
theorem w_c10 : (Jvm.Cond.code ({ cls := "java/lang/AbstractStringBuilder", name := "putStringAt", desc := "(ILjava/lang/String;)V" } : Jvm.MethodName) jdk_68_method_73_code (3 : Nat) (Option.none : Option Jvm.ClassFile.FieldType)).before args0 about1 = true := code_word (m := ⟨15, 10⟩) (meth := k15m10) (c := k15c10) (by decide +kernel) rfl rfl rfl (by decide +kernel)
set_option maxRecDepth 65536 in
theorem w_c11 : (Jvm.Cond.code ({ cls := "java/lang/AbstractStringBuilder", name := "inflateIfNeededFor", desc := "(Ljava/lang/String;)V" } : Jvm.MethodName) jdk_68_method_71_code (2 : Nat) (Option.none : Option Jvm.ClassFile.FieldType)).before args0 about1 = true := code_word (m := ⟨15, 9⟩) (meth := k15m9) (c := k15c9) (by decide +kernel) rfl rfl rfl (by decide +kernel)
set_option maxRecDepth 65536 in
theorem w_c12 : (Jvm.Cond.code ({ cls := "java/lang/String", name := "getBytes", desc := "([BIB)V" } : Jvm.MethodName) jdk_42_method_147_code (4 : Nat) (Option.none : Option Jvm.ClassFile.FieldType)).before args0 about1 = true := code_word (m := ⟨13, 3⟩) (meth := k13m3) (c := k13c3) (by decide +kernel) rfl rfl rfl (by decide +kernel)
set_option maxRecDepth 65536 in
theorem w_c13 : (Jvm.Cond.code ({ cls := "java/lang/StringBuilder", name := "append", desc := "(J)Ljava/lang/StringBuilder;" } : Jvm.MethodName) jdk_67_method_16_code (3 : Nat) (Option.some (Jvm.ClassFile.FieldType.object "java/lang/StringBuilder"))).before args0 about1 = true := code_word (m := ⟨16, 2⟩) (meth := k16m2) (c := k16c2) (by decide +kernel) rfl rfl rfl (by decide +kernel)
set_option maxRecDepth 65536 in
theorem w_c14 : (Jvm.Cond.code ({ cls := "java/lang/AbstractStringBuilder", name := "append", desc := "(J)Ljava/lang/AbstractStringBuilder;" } : Jvm.MethodName) jdk_68_method_33_code (5 : Nat) (Option.some (Jvm.ClassFile.FieldType.object "java/lang/AbstractStringBuilder"))).before args0 about1 = true := code_word (m := ⟨15, 6⟩) (meth := k15m6) (c := k15c6) (by decide +kernel) rfl rfl rfl (by decide +kernel)
set_option maxRecDepth 65536 in
theorem w_c15 : (Jvm.Cond.code ({ cls := "java/lang/Long", name := "stringSize", desc := "(J)I" } : Jvm.MethodName) jdk_35_method_15_code (6 : Nat) (Option.some Jvm.ClassFile.FieldType.int)).before args0 about1 = true := code_word (m := ⟨19, 1⟩) (meth := k19m1) (c := k19c1) (by decide +kernel) rfl rfl rfl (by decide +kernel)
set_option maxRecDepth 65536 in
theorem w_c16 : (Jvm.Cond.code ({ cls := "java/lang/AbstractStringBuilder", name := "isLatin1", desc := "()Z" } : Jvm.MethodName) jdk_68_method_68_code (1 : Nat) (Option.some Jvm.ClassFile.FieldType.boolean)).before args0 about1 = true := code_word (m := ⟨15, 8⟩) (meth := k15m8) (c := k15c8) (by decide +kernel) rfl rfl rfl (by decide +kernel)
set_option maxRecDepth 65536 in
theorem w_c17 : (Jvm.Cond.code ({ cls := "java/lang/Long", name := "getChars", desc := "(JI[B)I" } : Jvm.MethodName) jdk_35_method_14_code (11 : Nat) (Option.some Jvm.ClassFile.FieldType.int)).before args0 about1 = true := code_word (m := ⟨19, 0⟩) (meth := k19m0) (c := k19c0) (by decide +kernel) rfl rfl rfl (by decide +kernel)
set_option maxRecDepth 65536 in
theorem w_c18 : (Jvm.Cond.code ({ cls := "java/lang/StringBuilder", name := "toString", desc := "()Ljava/lang/String;" } : Jvm.MethodName) jdk_67_method_42_code (1 : Nat) (Option.some (Jvm.ClassFile.FieldType.object "java/lang/String"))).before args0 about1 = true := code_word (m := ⟨16, 3⟩) (meth := k16m3) (c := k16c3) (by decide +kernel) rfl rfl rfl (by decide +kernel)
set_option maxRecDepth 65536 in
theorem w_c19 : (Jvm.Cond.code ({ cls := "java/lang/String", name := "<init>", desc := "(Ljava/lang/StringBuilder;)V" } : Jvm.MethodName) jdk_42_method_53_code (2 : Nat) (Option.none : Option Jvm.ClassFile.FieldType)).before args0 about1 = true := code_word (m := ⟨13, 1⟩) (meth := k13m1) (c := k13c1) (by decide +kernel) rfl rfl rfl (by decide +kernel)
set_option maxRecDepth 65536 in
theorem w_c20 : (Jvm.Cond.code ({ cls := "java/lang/String", name := "<init>", desc := "(Ljava/lang/AbstractStringBuilder;Ljava/lang/Void;)V" } : Jvm.MethodName) jdk_42_method_150_code (5 : Nat) (Option.none : Option Jvm.ClassFile.FieldType)).before args0 about1 = true := code_word (m := ⟨13, 4⟩) (meth := k13m4) (c := k13c4) (by decide +kernel) rfl rfl rfl (by decide +kernel)
set_option maxRecDepth 65536 in
theorem w_c21 : (Jvm.Cond.code ({ cls := "java/lang/AbstractStringBuilder", name := "getValue", desc := "()[B" } : Jvm.MethodName) jdk_68_method_64_code (1 : Nat) (Option.some (Jvm.ClassFile.FieldType.array Jvm.ClassFile.FieldType.byte))).before args0 about1 = true := code_word (m := ⟨15, 7⟩) (meth := k15m7) (c := k15c7) (by decide +kernel) rfl rfl rfl (by decide +kernel)
set_option maxRecDepth 65536 in
theorem w_c22 : (Jvm.Cond.code ({ cls := "java/lang/StringBuilder", name := "length", desc := "()I" } : Jvm.MethodName) jdk_67_method_93_code (1 : Nat) (Option.some Jvm.ClassFile.FieldType.int)).before args0 about1 = true := code_word (m := ⟨16, 4⟩) (meth := k16m4) (c := k16c4) (by decide +kernel) rfl rfl rfl (by decide +kernel)
set_option maxRecDepth 65536 in
theorem w_c23 : (Jvm.Cond.code ({ cls := "java/lang/AbstractStringBuilder", name := "length", desc := "()I" } : Jvm.MethodName) jdk_68_method_6_code (1 : Nat) (Option.some Jvm.ClassFile.FieldType.int)).before args0 about1 = true := code_word (m := ⟨15, 2⟩) (meth := k15m2) (c := k15c2) (by decide +kernel) rfl rfl rfl (by decide +kernel)
set_option maxRecDepth 65536 in
theorem w_c24 : (Jvm.Cond.code ({ cls := "java/util/Arrays", name := "copyOfRange", desc := "([BII)[B" } : Jvm.MethodName) jdk_65_method_132_code (3 : Nat) (Option.some (Jvm.ClassFile.FieldType.array Jvm.ClassFile.FieldType.byte))).before args0 about1 = true := code_word (m := ⟨21, 3⟩) (meth := k21m3) (c := k21c3) (by decide +kernel) rfl rfl rfl (by decide +kernel)
set_option maxRecDepth 65536 in
theorem w_c25 : (Jvm.Cond.code ({ cls := "java/util/Arrays", name := "copyOfRangeByte", desc := "([BII)[B" } : Jvm.MethodName) jdk_65_method_133_code (5 : Nat) (Option.some (Jvm.ClassFile.FieldType.array Jvm.ClassFile.FieldType.byte))).before args0 about1 = true := code_word (m := ⟨21, 4⟩) (meth := k21m4) (c := k21c4) (by decide +kernel) rfl rfl rfl (by decide +kernel)
set_option maxRecDepth 65536 in
theorem w_c26 : (Jvm.Cond.code ({ cls := "java/util/Arrays", name := "checkLength", desc := "(II)V" } : Jvm.MethodName) jdk_65_method_131_code (2 : Nat) (Option.none : Option Jvm.ClassFile.FieldType)).before args0 about1 = true := code_word (m := ⟨21, 2⟩) (meth := k21m2) (c := k21c2) (by decide +kernel) rfl rfl rfl (by decide +kernel)
set_option maxRecDepth 65536 in
theorem w_c27 : (Jvm.Cond.code ({ cls := "java/lang/Math", name := "min", desc := "(II)I" } : Jvm.MethodName) jdk_29_method_69_code (2 : Nat) (Option.some Jvm.ClassFile.FieldType.int)).before args0 about1 = true := code_word (m := ⟨22, 2⟩) (meth := k22m2) (c := k22c2) (by decide +kernel) rfl rfl rfl (by decide +kernel)
set_option maxRecDepth 65536 in
theorem w_c28 : (Jvm.Cond.code ({ cls := "com/example/dequeue/dequeue/RefusedException", name := "<init>", desc := "(Lcom/example/dequeue/dequeue/RefusedException$Kind;Ljava/lang/String;Ljava/lang/String;)V" } : Jvm.MethodName) prog_12_method_1_code (4 : Nat) (Option.none : Option Jvm.ClassFile.FieldType)).before args0 about1 = true := code_word (m := ⟨6, 0⟩) (meth := k6m0) (c := k6c0) (by decide +kernel) rfl rfl rfl (by decide +kernel)
set_option maxRecDepth 65536 in
theorem w_c29 : (Jvm.Cond.code ({ cls := "java/lang/RuntimeException", name := "<init>", desc := "(Ljava/lang/String;)V" } : Jvm.MethodName) jdk_58_method_2_code (2 : Nat) (Option.none : Option Jvm.ClassFile.FieldType)).before args0 about1 = true := code_word (m := ⟨5, 1⟩) (meth := k5m1) (c := k5c1) (by decide +kernel) rfl rfl rfl (by decide +kernel)
set_option maxRecDepth 65536 in
theorem w_c30 : (Jvm.Cond.code ({ cls := "java/lang/Exception", name := "<init>", desc := "(Ljava/lang/String;)V" } : Jvm.MethodName) jdk_59_method_2_code (2 : Nat) (Option.none : Option Jvm.ClassFile.FieldType)).before args0 about1 = true := code_word (m := ⟨4, 1⟩) (meth := k4m1) (c := k4c1) (by decide +kernel) rfl rfl rfl (by decide +kernel)
set_option maxRecDepth 65536 in
theorem w_c31 : (Jvm.Cond.code ({ cls := "java/lang/Throwable", name := "<init>", desc := "(Ljava/lang/String;)V" } : Jvm.MethodName) jdk_78_method_2_code (2 : Nat) (Option.none : Option Jvm.ClassFile.FieldType)).before args0 about1 = true := code_word (m := ⟨3, 1⟩) (meth := k3m1) (c := k3c1) (by decide +kernel) rfl rfl rfl (by decide +kernel)
set_option maxRecDepth 65536 in
theorem w_c32 : (Jvm.Cond.code ({ cls := "java/lang/Throwable", name := "<init>", desc := "()V" } : Jvm.MethodName) jdk_78_method_1_code (1 : Nat) (Option.none : Option Jvm.ClassFile.FieldType)).before args0 about1 = true := code_word (m := ⟨3, 0⟩) (meth := k3m0) (c := k3c0) (by decide +kernel) rfl rfl rfl (by decide +kernel)
set_option maxRecDepth 65536 in
theorem w_c33 : (Jvm.Cond.code ({ cls := "com/example/dequeue/dequeue/RefusedException", name := "kind", desc := "()Lcom/example/dequeue/dequeue/RefusedException$Kind;" } : Jvm.MethodName) prog_12_method_4_code (1 : Nat) (Option.some (Jvm.ClassFile.FieldType.object "com/example/dequeue/dequeue/RefusedException$Kind"))).before args0 about1 = true := code_word (m := ⟨6, 2⟩) (meth := k6m2) (c := k6c2) (by decide +kernel) rfl rfl rfl (by decide +kernel)
set_option maxRecDepth 65536 in
theorem w_c34 : (Jvm.Cond.code ({ cls := "java/lang/AbstractStringBuilder", name := "newCapacity", desc := "(I)I" } : Jvm.MethodName) jdk_68_method_10_code (6 : Nat) (Option.some Jvm.ClassFile.FieldType.int)).before args0 about1 = true := code_word (m := ⟨15, 4⟩) (meth := k15m4) (c := k15c4) (by decide +kernel) rfl rfl rfl (by decide +kernel)
set_option maxRecDepth 65536 in
theorem w_c35 : (Jvm.Cond.code ({ cls := "jdk/internal/util/ArraysSupport", name := "newLength", desc := "(III)I" } : Jvm.MethodName) jdk_48_method_27_code (4 : Nat) (Option.some Jvm.ClassFile.FieldType.int)).before args0 about1 = true := code_word (m := ⟨23, 1⟩) (meth := k23m1) (c := k23c1) (by decide +kernel) rfl rfl rfl (by decide +kernel)
set_option maxRecDepth 65536 in
theorem w_c36 : (Jvm.Cond.code ({ cls := "java/lang/Math", name := "max", desc := "(II)I" } : Jvm.MethodName) jdk_29_method_65_code (2 : Nat) (Option.some Jvm.ClassFile.FieldType.int)).before args0 about1 = true := code_word (m := ⟨22, 1⟩) (meth := k22m1) (c := k22c1) (by decide +kernel) rfl rfl rfl (by decide +kernel)
set_option maxRecDepth 65536 in
theorem w_c37 : (Jvm.Cond.code ({ cls := "java/util/Arrays", name := "copyOf", desc := "([BI)[B" } : Jvm.MethodName) jdk_65_method_121_code (3 : Nat) (Option.some (Jvm.ClassFile.FieldType.array Jvm.ClassFile.FieldType.byte))).before args0 about1 = true := code_word (m := ⟨21, 1⟩) (meth := k21m1) (c := k21c1) (by decide +kernel) rfl rfl rfl (by decide +kernel)
def codes1 : List Jvm.Cond := [Jvm.Cond.code x code maxLocals ret, Jvm.Cond.code ({ cls := "com/example/dequeue/dequeue/RefusedException", name := "noSuchEvent", desc := "(J)Lcom/example/dequeue/dequeue/RefusedException;" } : Jvm.MethodName) prog_12_method_2_code (2 : Nat) (Option.some (Jvm.ClassFile.FieldType.object "com/example/dequeue/dequeue/RefusedException")), Jvm.Cond.code ({ cls := "java/lang/StringBuilder", name := "<init>", desc := "()V" } : Jvm.MethodName) jdk_67_method_1_code (1 : Nat) (Option.none : Option Jvm.ClassFile.FieldType), Jvm.Cond.code ({ cls := "java/lang/AbstractStringBuilder", name := "<init>", desc := "(I)V" } : Jvm.MethodName) jdk_68_method_2_code (2 : Nat) (Option.none : Option Jvm.ClassFile.FieldType), Jvm.Cond.code ({ cls := "java/lang/Object", name := "<init>", desc := "()V" } : Jvm.MethodName) object_method_1_code (1 : Nat) (Option.none : Option Jvm.ClassFile.FieldType), Jvm.Cond.code ({ cls := "java/lang/StringBuilder", name := "append", desc := "(Ljava/lang/String;)Ljava/lang/StringBuilder;" } : Jvm.MethodName) jdk_67_method_7_code (2 : Nat) (Option.some (Jvm.ClassFile.FieldType.object "java/lang/StringBuilder")), Jvm.Cond.code ({ cls := "java/lang/AbstractStringBuilder", name := "append", desc := "(Ljava/lang/String;)Ljava/lang/AbstractStringBuilder;" } : Jvm.MethodName) jdk_68_method_22_code (3 : Nat) (Option.some (Jvm.ClassFile.FieldType.object "java/lang/AbstractStringBuilder")), Jvm.Cond.code ({ cls := "java/lang/String", name := "length", desc := "()I" } : Jvm.MethodName) jdk_42_method_54_code (1 : Nat) (Option.some Jvm.ClassFile.FieldType.int), Jvm.Cond.code ({ cls := "java/lang/String", name := "coder", desc := "()B" } : Jvm.MethodName) jdk_42_method_152_code (1 : Nat) (Option.some Jvm.ClassFile.FieldType.byte), Jvm.Cond.code ({ cls := "java/lang/AbstractStringBuilder", name := "ensureCapacityInternal", desc := "(I)V" } : Jvm.MethodName) jdk_68_method_9_code (3 : Nat) (Option.none : Option Jvm.ClassFile.FieldType), Jvm.Cond.code ({ cls := "java/lang/AbstractStringBuilder", name := "putStringAt", desc := "(ILjava/lang/String;)V" } : Jvm.MethodName) jdk_68_method_73_code (3 : Nat) (Option.none : Option Jvm.ClassFile.FieldType), Jvm.Cond.code ({ cls := "java/lang/AbstractStringBuilder", name := "inflateIfNeededFor", desc := "(Ljava/lang/String;)V" } : Jvm.MethodName) jdk_68_method_71_code (2 : Nat) (Option.none : Option Jvm.ClassFile.FieldType), Jvm.Cond.code ({ cls := "java/lang/String", name := "getBytes", desc := "([BIB)V" } : Jvm.MethodName) jdk_42_method_147_code (4 : Nat) (Option.none : Option Jvm.ClassFile.FieldType), Jvm.Cond.code ({ cls := "java/lang/StringBuilder", name := "append", desc := "(J)Ljava/lang/StringBuilder;" } : Jvm.MethodName) jdk_67_method_16_code (3 : Nat) (Option.some (Jvm.ClassFile.FieldType.object "java/lang/StringBuilder")), Jvm.Cond.code ({ cls := "java/lang/AbstractStringBuilder", name := "append", desc := "(J)Ljava/lang/AbstractStringBuilder;" } : Jvm.MethodName) jdk_68_method_33_code (5 : Nat) (Option.some (Jvm.ClassFile.FieldType.object "java/lang/AbstractStringBuilder")), Jvm.Cond.code ({ cls := "java/lang/Long", name := "stringSize", desc := "(J)I" } : Jvm.MethodName) jdk_35_method_15_code (6 : Nat) (Option.some Jvm.ClassFile.FieldType.int), Jvm.Cond.code ({ cls := "java/lang/AbstractStringBuilder", name := "isLatin1", desc := "()Z" } : Jvm.MethodName) jdk_68_method_68_code (1 : Nat) (Option.some Jvm.ClassFile.FieldType.boolean), Jvm.Cond.code ({ cls := "java/lang/Long", name := "getChars", desc := "(JI[B)I" } : Jvm.MethodName) jdk_35_method_14_code (11 : Nat) (Option.some Jvm.ClassFile.FieldType.int), Jvm.Cond.code ({ cls := "java/lang/StringBuilder", name := "toString", desc := "()Ljava/lang/String;" } : Jvm.MethodName) jdk_67_method_42_code (1 : Nat) (Option.some (Jvm.ClassFile.FieldType.object "java/lang/String")), Jvm.Cond.code ({ cls := "java/lang/String", name := "<init>", desc := "(Ljava/lang/StringBuilder;)V" } : Jvm.MethodName) jdk_42_method_53_code (2 : Nat) (Option.none : Option Jvm.ClassFile.FieldType), Jvm.Cond.code ({ cls := "java/lang/String", name := "<init>", desc := "(Ljava/lang/AbstractStringBuilder;Ljava/lang/Void;)V" } : Jvm.MethodName) jdk_42_method_150_code (5 : Nat) (Option.none : Option Jvm.ClassFile.FieldType), Jvm.Cond.code ({ cls := "java/lang/AbstractStringBuilder", name := "getValue", desc := "()[B" } : Jvm.MethodName) jdk_68_method_64_code (1 : Nat) (Option.some (Jvm.ClassFile.FieldType.array Jvm.ClassFile.FieldType.byte)), Jvm.Cond.code ({ cls := "java/lang/StringBuilder", name := "length", desc := "()I" } : Jvm.MethodName) jdk_67_method_93_code (1 : Nat) (Option.some Jvm.ClassFile.FieldType.int), Jvm.Cond.code ({ cls := "java/lang/AbstractStringBuilder", name := "length", desc := "()I" } : Jvm.MethodName) jdk_68_method_6_code (1 : Nat) (Option.some Jvm.ClassFile.FieldType.int), Jvm.Cond.code ({ cls := "java/util/Arrays", name := "copyOfRange", desc := "([BII)[B" } : Jvm.MethodName) jdk_65_method_132_code (3 : Nat) (Option.some (Jvm.ClassFile.FieldType.array Jvm.ClassFile.FieldType.byte)), Jvm.Cond.code ({ cls := "java/util/Arrays", name := "copyOfRangeByte", desc := "([BII)[B" } : Jvm.MethodName) jdk_65_method_133_code (5 : Nat) (Option.some (Jvm.ClassFile.FieldType.array Jvm.ClassFile.FieldType.byte)), Jvm.Cond.code ({ cls := "java/util/Arrays", name := "checkLength", desc := "(II)V" } : Jvm.MethodName) jdk_65_method_131_code (2 : Nat) (Option.none : Option Jvm.ClassFile.FieldType), Jvm.Cond.code ({ cls := "java/lang/Math", name := "min", desc := "(II)I" } : Jvm.MethodName) jdk_29_method_69_code (2 : Nat) (Option.some Jvm.ClassFile.FieldType.int), Jvm.Cond.code ({ cls := "com/example/dequeue/dequeue/RefusedException", name := "<init>", desc := "(Lcom/example/dequeue/dequeue/RefusedException$Kind;Ljava/lang/String;Ljava/lang/String;)V" } : Jvm.MethodName) prog_12_method_1_code (4 : Nat) (Option.none : Option Jvm.ClassFile.FieldType), Jvm.Cond.code ({ cls := "java/lang/RuntimeException", name := "<init>", desc := "(Ljava/lang/String;)V" } : Jvm.MethodName) jdk_58_method_2_code (2 : Nat) (Option.none : Option Jvm.ClassFile.FieldType), Jvm.Cond.code ({ cls := "java/lang/Exception", name := "<init>", desc := "(Ljava/lang/String;)V" } : Jvm.MethodName) jdk_59_method_2_code (2 : Nat) (Option.none : Option Jvm.ClassFile.FieldType), Jvm.Cond.code ({ cls := "java/lang/Throwable", name := "<init>", desc := "(Ljava/lang/String;)V" } : Jvm.MethodName) jdk_78_method_2_code (2 : Nat) (Option.none : Option Jvm.ClassFile.FieldType), Jvm.Cond.code ({ cls := "java/lang/Throwable", name := "<init>", desc := "()V" } : Jvm.MethodName) jdk_78_method_1_code (1 : Nat) (Option.none : Option Jvm.ClassFile.FieldType), Jvm.Cond.code ({ cls := "com/example/dequeue/dequeue/RefusedException", name := "kind", desc := "()Lcom/example/dequeue/dequeue/RefusedException$Kind;" } : Jvm.MethodName) prog_12_method_4_code (1 : Nat) (Option.some (Jvm.ClassFile.FieldType.object "com/example/dequeue/dequeue/RefusedException$Kind")), Jvm.Cond.code ({ cls := "java/lang/AbstractStringBuilder", name := "newCapacity", desc := "(I)I" } : Jvm.MethodName) jdk_68_method_10_code (6 : Nat) (Option.some Jvm.ClassFile.FieldType.int), Jvm.Cond.code ({ cls := "jdk/internal/util/ArraysSupport", name := "newLength", desc := "(III)I" } : Jvm.MethodName) jdk_48_method_27_code (4 : Nat) (Option.some Jvm.ClassFile.FieldType.int), Jvm.Cond.code ({ cls := "java/lang/Math", name := "max", desc := "(II)I" } : Jvm.MethodName) jdk_29_method_65_code (2 : Nat) (Option.some Jvm.ClassFile.FieldType.int), Jvm.Cond.code ({ cls := "java/util/Arrays", name := "copyOf", desc := "([BI)[B" } : Jvm.MethodName) jdk_65_method_121_code (3 : Nat) (Option.some (Jvm.ClassFile.FieldType.array Jvm.ClassFile.FieldType.byte))]
set_option maxRecDepth 65536 in
theorem codes_eq : words1.filter isCode = codes1 := rfl
theorem w_codes : ∀ c ∈ words1.filter isCode, c.before args0 about1 = true := by
  rw [codes_eq]
  intro c hc
  simp only [codes1, List.mem_cons, List.not_mem_nil, or_false] at hc
  rcases hc with rfl | rfl | rfl | rfl | rfl | rfl | rfl | rfl | rfl | rfl | rfl | rfl | rfl | rfl | rfl | rfl | rfl | rfl | rfl | rfl | rfl | rfl | rfl | rfl | rfl | rfl | rfl | rfl | rfl | rfl | rfl | rfl | rfl | rfl | rfl | rfl | rfl | rfl
  · exact w_c0
  · exact w_c1
  · exact w_c2
  · exact w_c3
  · exact w_c4
  · exact w_c5
  · exact w_c6
  · exact w_c7
  · exact w_c8
  · exact w_c9
  · exact w_c10
  · exact w_c11
  · exact w_c12
  · exact w_c13
  · exact w_c14
  · exact w_c15
  · exact w_c16
  · exact w_c17
  · exact w_c18
  · exact w_c19
  · exact w_c20
  · exact w_c21
  · exact w_c22
  · exact w_c23
  · exact w_c24
  · exact w_c25
  · exact w_c26
  · exact w_c27
  · exact w_c28
  · exact w_c29
  · exact w_c30
  · exact w_c31
  · exact w_c32
  · exact w_c33
  · exact w_c34
  · exact w_c35
  · exact w_c36
  · exact w_c37
set_option maxRecDepth 65536 in
theorem w_t1 : (words1.take 24).all (fun c => isCode c || c.before args0 about1) = true := by decide +kernel
set_option maxRecDepth 65536 in
theorem w_t2 : ((words1.drop 24).take 24).all (fun c => isCode c || c.before args0 about1) = true := by decide +kernel
set_option maxRecDepth 65536 in
theorem w_t3 : (((words1.drop 24).drop 24).take 24).all (fun c => isCode c || c.before args0 about1) = true := by decide +kernel
set_option maxRecDepth 65536 in
theorem w_t4 : ((((words1.drop 24).drop 24).drop 24).take 24).all (fun c => isCode c || c.before args0 about1) = true := by decide +kernel
set_option maxRecDepth 65536 in
theorem w_t5 : (((((words1.drop 24).drop 24).drop 24).drop 24).take 24).all (fun c => isCode c || c.before args0 about1) = true := by decide +kernel
set_option maxRecDepth 65536 in
theorem w_t6 : ((((((words1.drop 24).drop 24).drop 24).drop 24).drop 24).take 24).all (fun c => isCode c || c.before args0 about1) = true := by decide +kernel
set_option maxRecDepth 65536 in
theorem w_t7 : (((((((words1.drop 24).drop 24).drop 24).drop 24).drop 24).drop 24).take 24).all (fun c => isCode c || c.before args0 about1) = true := by decide +kernel
set_option maxRecDepth 65536 in
theorem w_t8 : ((((((((words1.drop 24).drop 24).drop 24).drop 24).drop 24).drop 24).drop 24).take 24).all (fun c => isCode c || c.before args0 about1) = true := by decide +kernel
set_option maxRecDepth 65536 in
theorem w_t9 : (((((((((words1.drop 24).drop 24).drop 24).drop 24).drop 24).drop 24).drop 24).drop 24).take 24).all (fun c => isCode c || c.before args0 about1) = true := by decide +kernel
set_option maxRecDepth 65536 in
theorem w_t10 : ((((((((((words1.drop 24).drop 24).drop 24).drop 24).drop 24).drop 24).drop 24).drop 24).drop 24).take 24).all (fun c => isCode c || c.before args0 about1) = true := by decide +kernel
set_option maxRecDepth 65536 in
theorem w_t11 : ((((((((((words1.drop 24).drop 24).drop 24).drop 24).drop 24).drop 24).drop 24).drop 24).drop 24).drop 24).all (fun c => isCode c || c.before args0 about1) = true := by decide +kernel
theorem w_tables : (allAtoms (Jvm.Cond.code x code maxLocals ret :: tables_1)).before args0 about1 = true := by
  rw [allAtoms_all]
  show words1.all (fun c => c.before args0 about1) = true
  refine all_split ?_ w_codes
  rw [← List.take_append_drop 24 words1, List.all_append, w_t1, ← List.take_append_drop 24 (words1.drop 24), List.all_append, w_t2, ← List.take_append_drop 24 ((words1.drop 24).drop 24), List.all_append, w_t3, ← List.take_append_drop 24 (((words1.drop 24).drop 24).drop 24), List.all_append, w_t4, ← List.take_append_drop 24 ((((words1.drop 24).drop 24).drop 24).drop 24), List.all_append, w_t5, ← List.take_append_drop 24 (((((words1.drop 24).drop 24).drop 24).drop 24).drop 24), List.all_append, w_t6, ← List.take_append_drop 24 ((((((words1.drop 24).drop 24).drop 24).drop 24).drop 24).drop 24), List.all_append, w_t7, ← List.take_append_drop 24 (((((((words1.drop 24).drop 24).drop 24).drop 24).drop 24).drop 24).drop 24), List.all_append, w_t8, ← List.take_append_drop 24 ((((((((words1.drop 24).drop 24).drop 24).drop 24).drop 24).drop 24).drop 24).drop 24), List.all_append, w_t9, ← List.take_append_drop 24 (((((((((words1.drop 24).drop 24).drop 24).drop 24).drop 24).drop 24).drop 24).drop 24).drop 24), List.all_append, w_t10, w_t11]
  rfl
set_option maxRecDepth 65536 in
theorem w_rest : rest_1_c.before args0 about1 = true := by decide +kernel
set_option maxRecDepth 65536 in
theorem w_case : (Jvm.Cond.and given_1 narrow_1).before args0 about1 = true := by decide +kernel
set_option maxRecDepth 65536 in
theorem w_consts : constsHeld consts_1 about1 := Jvm.Lit.constsHeldB_iff.mp (by decide +kernel)
theorem w_applies : (headSpec (Jvm.Cond.code x code maxLocals ret :: tables_1) room_1).applies x e0.platform about1 = true :=
  (Spec.applies_iff w_frames).mpr ⟨w_running, w_runnable, w_alone, w_named, w_hears, w_ripe, w_room, w_tables⟩
theorem atStart : AtStart classFile x code maxLocals ret World_1 tables_1 room_1 Calls_1 rest_1 Pre_1 launch0 p0 e0 about1 theMethod args0 below0 :=
  ⟨lists_1, trivial, launch0.admits_env _ _ _, launch0.least_env, fairChoices_fair.cas, fairChoices_fair.clock, w_frames, w_args, w_heap, w_applies, ⟨(by decide +kernel : framesKnown about1 = true), ⟨(by decide +kernel : tablesKnown about1 = true), ⟨w_consts, trivial⟩⟩⟩, w_rest, w_case⟩
end start1
theorem witness_1 : WitnessClaimed_1 := ⟨start1.p0, start1.e0, start1.about1, start1.theMethod, start1.args0, start1.below0, start1.atStart⟩
end Jvm.Pilot.@@N@@
