import JvmDerived
import JvmDerived.Pilot.@@N@@Statement
import JvmDerived.Pilot.@@N@@Code
set_option linter.unusedVariables false
set_option linter.unusedSimpArgs false
namespace Jvm.Pilot.@@N@@
open Jvm Jvm.ClassFile Sem Op Lib Jvm.Free Jvm.Stand Jvm.LawKit Jvm.RoadKit Bundle Jvm.Pilot.@@N@@.Jvm.D
/-! my own layer: a walk in continuation form. OGo P T g: from the frame g at T the run comes to an end that meets P. -/
section Own
variable {p : Program} {l : Launch} {e : Env} {R : Room} {s : State} {m : MethodId} {args : Array Value} {below : List Frame} {meth : Method} {c : Code} {T : State} {locs : List Loc} {cells slots : Nat} {Z : State} {a0 : Array Value} {h : Heap}
def OGo (p : Program) (e : Env) (below : List Frame) (P : State → Outcome → Prop) (T : State) (g : JFrame) : Prop :=
  ∃ t o, Steps p.tables e below (T.setTop g) t ∧ t.status = .running ∧ Ended t below o ∧ P t o
def OEnd (s : State) (Q : Option Value → Heap → List Loc → Prop) (ck sk : Nat) (t : State) (o : Outcome) : Prop :=
  ∃ v L, o = .returned v ∧ Q v t.heap L ∧ FrameEnd s o t L ck sk
def OMet (l : Launch) (y : MethodName) (bytes : ByteArray) (maxL : Nat) (ret : Option FieldType) (ws : List Jvm.Cond) (rm : Room) (Z : State) (as' : Array Value) (h : Heap) (Q : Option Value → Heap → List Loc → Prop) : Prop :=
  MetFree l y (head1 (Jvm.Cond.code y bytes maxL ret :: ws) rm) (fun a U => a = as' ∧ Z.Warmed39 U.vm ∧ U.heap = h) (fun _ _ _ _ _ => True)
    (fun _ U o U' => ∃ v L, o = .returned v ∧ Q v U'.heap L ∧ FrameEnd U o U' L rm.cells rm.slots)
variable {P : State → Outcome → Prop}
theorem own_step {g g' : JFrame} (k : ∀ target, Steps p.tables e below (T.setTop g') target → Steps p.tables e below (T.setTop g) target) (d : OGo p e below P T g') : OGo p e below P T g := by
  obtain ⟨t, o, h1, h2⟩ := d
  exact ⟨t, o, k t h1, h2⟩
theorem own_via {T' : State} {g g' : JFrame} (k : ∀ target, Steps p.tables e below (T'.setTop g') target → Steps p.tables e below (T.setTop g) target) (d : OGo p e below P T' g') : OGo p e below P T g := by
  obtain ⟨t, o, h1, h2⟩ := d
  exact ⟨t, o, k t h1, h2⟩
theorem own_entry {g g' : JFrame} (q : g = g') (d : OGo p e below P T g') : OGo p e below P T g := q ▸ d
/-- a body by its walk -/
theorem own_body {y : MethodName} {bytes : ByteArray} {maxL : Nat} {ret : Option FieldType} {ws : List Jvm.Cond} {rm : Room} {as' : Array Value} {Q : Option Value → Heap → List Loc → Prop} (hpl : plainFor y = true)
    (body : ∀ (p : Program) (e : Env) (s : State) (m : MethodId) (below : List Frame) (meth : Method) (c : Code) (T : State), Stand p l e rm s m as' below meth c T [] 0 0 → p.tables.exec = Jvm.exec → Z.Warmed39 s.vm → c.code = bytes → c.maxLocals = maxL →
      s.vm.findClass y.cls = some m.cls → meth.name = y.name → meth.sig.returnType = ret → meth.locks = false → T.heap = h → OGo p e below (OEnd s Q rm.cells rm.slots) T (entryFrame m as' maxL)) :
    OMet l y bytes maxL ret ws rm Z as' h Q := by
  refine MetFree.of_bodySF hpl hisR ?_
  intro p e s m args below meth c s₁ Bd hml0 hP hK
  obtain ⟨rfl, hZ, hh⟩ := hP
  exact body p e s m below meth c s₁ (Stand.of_body Bd) Bd.exec hZ Bd.bytes hml0 (findClass_of_methodNamed Bd.named) (name_of_methodNamed Bd.named Bd.method).1 Bd.returns Bd.notSynchronized (by rw [← hh, Bd.state]; rfl)
variable {Q : Option Value → Heap → List Loc → Prop} {ck sk : Nat}
theorem own_retN (X : Stand p l e R s m args below meth c T locs cells slots) (hx : p.tables.exec = Jvm.exec) {pc : Nat} {Ls : Array Slot} {z : Int32} {t : FieldType} {rest : List Value} (hret : meth.sig.returnType = some t) (ht : t = .boolean ∨ t = .byte ∨ t = .char ∨ t = .short)
    (hlk : meth.locks = false) (hd : decode c.code pc = .ok (.ireturn, 1)) (eT : T.heap = h) (hQ : Q (some (.int (nar t z))) h locs) (hc : cells ≤ ck) (hs : slots ≤ sk) :
    OGo p e below (OEnd s Q ck sk) T (mkF m pc Ls (.int z :: rest)) := by
  obtain ⟨fs, hr, hrun, hended, hW, hsame⟩ := X.leave (v := some (.int (nar t z))) (fun h => by rw [hret] at h; cases h) hlk
  exact ⟨_, _, retN X hx hret ht hd hr, hrun, hended, _, locs, rfl, (show Q _ T.heap locs by rw [eT]; exact hQ), ⟨_, rfl⟩, hW, hsame.mono hc hs⟩
theorem own_retO (X : Stand p l e R s m args below meth c T locs cells slots) (hx : p.tables.exec = Jvm.exec) {pc : Nat} {Ls : Array Slot} {w : Value} {t : FieldType} {i : Instr} {rest : List Value} (hret : meth.sig.returnType = some t) (hn : narrow t w = w)
    (hi : (i = .ireturn ∧ (t = .int ∨ t = .boolean ∨ t = .byte ∨ t = .char ∨ t = .short) ∧ ∃ z, w = .int z) ∨ (i = .lreturn ∧ t = .long ∧ ∃ z, w = .long z) ∨ (i = .dreturn ∧ t = .double ∧ ∃ z, w = .double z) ∨ (i = .freturn ∧ t = .float ∧ ∃ z, w = .float z) ∨ (i = .areturn ∧ t.isReference = true ∧ w.isRef = true))
    (hlk : meth.locks = false) (hd : decode c.code pc = .ok (i, 1)) (eT : T.heap = h) (hQ : Q (some w) h locs) (hc : cells ≤ ck) (hs : slots ≤ sk) :
    OGo p e below (OEnd s Q ck sk) T (mkF m pc Ls (w :: rest)) := by
  obtain ⟨fs, hr, hrun, hended, hW, hsame⟩ := X.leave (v := some w) (fun h => by rw [hret] at h; cases h) hlk
  exact ⟨_, _, retOut X hx hret hn hi hd hr, hrun, hended, _, locs, rfl, (show Q _ T.heap locs by rw [eT]; exact hQ), ⟨_, rfl⟩, hW, hsame.mono hc hs⟩
theorem own_retI (X : Stand p l e R s m args below meth c T locs cells slots) (hx : p.tables.exec = Jvm.exec) {pc : Nat} {Ls : Array Slot} {z : Int32} {rest : List Value} (hret : meth.sig.returnType = some .int)
    (hlk : meth.locks = false) (hd : decode c.code pc = .ok (.ireturn, 1)) (eT : T.heap = h) (hQ : Q (some (.int z)) h locs) (hc : cells ≤ ck) (hs : slots ≤ sk) :
    OGo p e below (OEnd s Q ck sk) T (mkF m pc Ls (.int z :: rest)) := own_retO X hx hret rfl (Or.inl ⟨rfl, Or.inl rfl, z, rfl⟩) hlk hd eT hQ hc hs
theorem own_retA (X : Stand p l e R s m args below meth c T locs cells slots) (hx : p.tables.exec = Jvm.exec) {pc : Nat} {Ls : Array Slot} {w : Value} {t : FieldType} {rest : List Value} (hret : meth.sig.returnType = some t) (ht : t.isReference = true) (hw : w.isRef = true)
    (hlk : meth.locks = false) (hd : decode c.code pc = .ok (.areturn, 1)) (eT : T.heap = h) (hQ : Q (some w) h locs) (hc : cells ≤ ck) (hs : slots ≤ sk) :
    OGo p e below (OEnd s Q ck sk) T (mkF m pc Ls (w :: rest)) :=
  own_retO X hx hret (by cases t <;> cases w <;> first | rfl | (cases ht; done) | (cases hw; done)) (Or.inr (Or.inr (Or.inr (Or.inr ⟨rfl, ht, hw⟩)))) hlk hd eT hQ hc hs
theorem own_retV (X : Stand p l e R s m args below meth c T locs cells slots) (hx : p.tables.exec = Jvm.exec) {pc : Nat} {Ls : Array Slot} (hret : meth.sig.returnType = none)
    (hlk : meth.locks = false) (hd : decode c.code pc = .ok (.return_, 1)) (eT : T.heap = h) (hQ : Q none h locs) (hc : cells ≤ ck) (hs : slots ≤ sk) :
    OGo p e below (OEnd s Q ck sk) T (mkF m pc Ls []) := by
  obtain ⟨fs, hr, hrun, hended, hW, hsame⟩ := X.leave (v := none) (fun _ => rfl) hlk
  exact ⟨_, _, X.returnOut hx hret hd hr, hrun, hended, _, locs, rfl, (show Q _ T.heap locs by rw [eT]; exact hQ), ⟨_, rfl⟩, hW, hsame.mono hc hs⟩
variable {y : MethodName} {bytes : ByteArray} {maxL : Nat} {ret : Option FieldType} {rm : Room} {as' : Array Value}
theorem own_callS (X : Stand p l e R s m args below meth c T locs cells slots) (hx : p.tables.exec = Jvm.exec) (hZ : Z.Warmed39 s.vm) {own : String} {index W : Nat} (hown : s.vm.findClass own = some m.cls) (eT : T.heap = h)
    (hM : OMet l y bytes maxL ret [] rm Z as' h Q)
    (w1 : (Cond.methodLink own index y).before a0 Z = true) (w2 : (Cond.static y).before a0 Z = true) (w3 : (Cond.initialized y.cls).before a0 Z = true) (w4 : (Cond.code y bytes maxL ret).before a0 Z = true)
    (hy : y.cls ≠ "java/lang/invoke/MethodHandle" ∧ y.cls ≠ "java/lang/invoke/VarHandle") (hf : rm.frames + 1 ≤ R.frames) (hl : W + (maxL + 11) + rm.locals ≤ R.locals)
    {g : JFrame} (hg : g.method = m) (hsize : g.locals.size = c.maxLocals) {argsL rest : List Value} (has : argsL.toArray = as') (hlen : ∀ sig, parseMethodDescriptor y.desc = some sig → argsL.length = sig.parameters.length)
    (hstack : g.stack = argsL.reverse ++ rest) (hW : 2 * g.monitorRoom + (rest.map fun v => v.category).sum ≤ W) (hdg : decode c.code g.pc = .ok (.invokestatic index, 3))
    (hc : cells + rm.cells ≤ R.cells) (hs : slots + rm.slots ≤ R.slots)
    (k : ∀ (v : Option Value) (T' : State) (L : List Loc), Stand p l e R s m args below meth c T' (locs ++ L) (cells + rm.cells) (slots + rm.slots) → Q v T'.heap L → OGo p e below P T' { g with pc := g.pc + 3, stack := v.toList ++ rest }) :
    OGo p e below P T g := by
  obtain ⟨v, _, ⟨T', L', k', n'⟩, -, X', ⟨Lc, hQ, e1, e2, e3⟩, st⟩ := Jvm.LawKit.callS X hx (y := y) hown (mvT hZ w1) (mvT hZ w2) (mvT hZ w3) (mvT hZ w4) hy (backOf (W := W) hM hZ w4 w3 hf hl) hg hsize hlen hstack hW hdg (fun _ _ => ⟨has, eT, hc, hs⟩)
  dsimp only [Pt.U, Pt.locs, Pt.cells, Pt.slots] at X' e1 e2 e3 st hQ
  subst e1 e2 e3
  exact own_via st (k v T' Lc X' hQ)
theorem own_callV (X : Stand p l e R s m args below meth c T locs cells slots) (hx : p.tables.exec = Jvm.exec) (hZ : Z.Warmed39 s.vm) {own C : String} {index W : Nat} {z : MethodName} (hown : s.vm.findClass own = some m.cls) (eT : T.heap = h)
    (hM : OMet l z bytes maxL ret [] rm Z as' h Q) {b : Addr} (E : Exa Z h b C)
    (w1 : (Cond.methodLink own index y).before a0 Z = true) (w2 : (Cond.declares y).before a0 Z = true) (nf : NotFace s y) (w3 : (Cond.selects C y z).before a0 Z = true) (w4 : (Cond.instanceMethod z).before a0 Z = true) (w5 : (Cond.code z bytes maxL ret).before a0 Z = true) (w6 : (Cond.initialized z.cls).before a0 Z = true)
    (hy : y.cls ≠ "java/lang/invoke/MethodHandle" ∧ y.cls ≠ "java/lang/invoke/VarHandle") (hf : rm.frames + 1 ≤ R.frames) (hl : W + (maxL + 11) + rm.locals ≤ R.locals)
    {g : JFrame} (hg : g.method = m) (hsize : g.locals.size = c.maxLocals) {argsL rest : List Value} (has : (.ref b :: argsL).toArray = as') (hlen : ∀ sig, parseMethodDescriptor y.desc = some sig → argsL.length = sig.parameters.length)
    (hstack : g.stack = argsL.reverse ++ .ref b :: rest) (hW : 2 * g.monitorRoom + (rest.map fun v => v.category).sum ≤ W) (hdg : decode c.code g.pc = .ok (.invokevirtual index, 3))
    (hc : cells + rm.cells ≤ R.cells) (hs : slots + rm.slots ≤ R.slots)
    (k : ∀ (v : Option Value) (T' : State) (L : List Loc), Stand p l e R s m args below meth c T' (locs ++ L) (cells + rm.cells) (slots + rm.slots) → Q v T'.heap L → OGo p e below P T' { g with pc := g.pc + 3, stack := v.toList ++ rest }) :
    OGo p e below P T g := by
  obtain ⟨cq, kq, qa, qb, qc⟩ := isOf hZ eT E
  obtain ⟨v, _, ⟨T', L', k', n'⟩, -, X', ⟨Lc, hQ, e1, e2, e3⟩, st⟩ := X.virtualBack hx (y := y) (z := z) hown (mvT hZ w1) (mvT hZ w2) nf (mvT hZ w3) (mvT hZ w4) hy (backOf (W := W) hM hZ w5 w6 hf hl) qa qc hg hsize (Steps.refl _) hlen hstack hW hdg (fun _ _ => ⟨has, eT, hc, hs⟩)
  dsimp only [Pt.U, Pt.locs, Pt.cells, Pt.slots] at X' e1 e2 e3 st hQ
  subst e1 e2 e3
  exact own_via (fun _ kk => st.trans kk) (k v T' Lc X' hQ)
theorem own_callI (X : Stand p l e R s m args below meth c T locs cells slots) (hx : p.tables.exec = Jvm.exec) (hZ : Z.Warmed39 s.vm) {own C : String} {index count W : Nat} {z : MethodName} (hown : s.vm.findClass own = some m.cls) (eT : T.heap = h)
    (hM : OMet l z bytes maxL ret [] rm Z as' h Q) {b : Addr} (E : Exa Z h b C)
    (w1 : (Cond.methodLink own index y).before a0 Z = true) (w2 : (Cond.declares y).before a0 Z = true) (wf : (Cond.interfaceMethod y.cls y.cls y.name y.desc).before args s = true) (w3 : (Cond.selects C y z).before a0 Z = true) (w4 : (Cond.instanceMethod z).before a0 Z = true)
    (wp : (Cond.publicMethod z).before a0 Z = true) (wu : (Cond.unhidden C y.name y.desc).before a0 Z = true) (wc : (Cond.castable C y.cls).before a0 Z = true) (w5 : (Cond.code z bytes maxL ret).before a0 Z = true) (w6 : (Cond.initialized z.cls).before a0 Z = true)
    (hy : y.cls ≠ "java/lang/invoke/MethodHandle" ∧ y.cls ≠ "java/lang/invoke/VarHandle") (hf : rm.frames + 1 ≤ R.frames) (hl : W + (maxL + 11) + rm.locals ≤ R.locals)
    {g : JFrame} (hg : g.method = m) (hsize : g.locals.size = c.maxLocals) {argsL rest : List Value} (has : (.ref b :: argsL).toArray = as') (hlen : ∀ sig, parseMethodDescriptor y.desc = some sig → argsL.length = sig.parameters.length)
    (hstack : g.stack = argsL.reverse ++ .ref b :: rest) (hW : 2 * g.monitorRoom + (rest.map fun v => v.category).sum ≤ W) (hdg : decode c.code g.pc = .ok (.invokeinterface index count, 5))
    (hc : cells + rm.cells ≤ R.cells) (hs : slots + rm.slots ≤ R.slots)
    (k : ∀ (v : Option Value) (T' : State) (L : List Loc), Stand p l e R s m args below meth c T' (locs ++ L) (cells + rm.cells) (slots + rm.slots) → Q v T'.heap L → OGo p e below P T' { g with pc := g.pc + 5, stack := v.toList ++ rest }) :
    OGo p e below P T g := by
  obtain ⟨cq, kq, qa, qb, qc⟩ := isOf hZ eT E
  obtain ⟨v, _, ⟨T', L', k', n'⟩, -, X', ⟨Lc, hQ, e1, e2, e3⟩, st⟩ := X.interfaceBack hx (xi := y) (y := z) hown (mvT hZ w1) (mvT hZ w2) wf (mvT hZ w3) (mvT hZ w4) (mvT hZ wp) (mvT hZ wu) (mvT hZ wc) hy (backOf (W := W) hM hZ w5 w6 hf hl) qa qb qc hg hsize (Steps.refl _) hlen hstack hW hdg (fun _ _ => ⟨has, eT, hc, hs⟩)
  dsimp only [Pt.U, Pt.locs, Pt.cells, Pt.slots] at X' e1 e2 e3 st hQ
  subst e1 e2 e3
  exact own_via (fun _ kk => st.trans kk) (k v T' Lc X' hQ)
theorem own_init (X : Stand p l e R s m args below meth c T locs cells slots) (hx : p.tables.exec = Jvm.exec) (hZ : Z.Warmed39 s.vm) {own : String} {index W : Nat} (hown : s.vm.findClass own = some m.cls) (eT : T.heap = h)
    (hM : OMet l y bytes maxL none [] rm Z as' h Q) {b : Addr} (hy1 : y.name = "<init>")
    (w1 : (Cond.methodLink own index y).before a0 Z = true) (w2 : (Cond.instanceMethod y).before a0 Z = true) (w3 : (Cond.code y bytes maxL none).before a0 Z = true) (w4 : (Cond.initialized y.cls).before a0 Z = true)
    (hy : y.cls ≠ "java/lang/invoke/MethodHandle" ∧ y.cls ≠ "java/lang/invoke/VarHandle") (hf : rm.frames + 1 ≤ R.frames) (hl : W + (maxL + 11) + rm.locals ≤ R.locals)
    {g : JFrame} (hg : g.method = m) (hsize : g.locals.size = c.maxLocals) {argsL rest : List Value} (has : (.ref b :: argsL).toArray = as') (hlen : ∀ sig, parseMethodDescriptor y.desc = some sig → argsL.length = sig.parameters.length)
    (hstack : g.stack = argsL.reverse ++ .ref b :: rest) (hW : 2 * g.monitorRoom + (rest.map fun v => v.category).sum ≤ W) (hdg : decode c.code g.pc = .ok (.invokespecial index, 3))
    (hc : cells + rm.cells ≤ R.cells) (hs : slots + rm.slots ≤ R.slots)
    (k : ∀ (v : Option Value) (T' : State) (L : List Loc), Stand p l e R s m args below meth c T' (locs ++ L) (cells + rm.cells) (slots + rm.slots) → Q v T'.heap L → OGo p e below P T' { g with pc := g.pc + 3, stack := v.toList ++ rest }) :
    OGo p e below P T g := by
  obtain ⟨v, _, ⟨T', L', k', n'⟩, -, X', ⟨Lc, hQ, e1, e2, e3⟩, st⟩ := X.specialBack hx (y := y) hy1 hown (mvT hZ w1) (mvT hZ w2) (mvT hZ w3) hy (backOf (W := W) hM hZ w3 w4 hf hl) hg hsize (Steps.refl _) hlen hstack hW hdg (fun _ _ => ⟨has, eT, hc, hs⟩)
  dsimp only [Pt.U, Pt.locs, Pt.cells, Pt.slots] at X' e1 e2 e3 st hQ
  subst e1 e2 e3
  exact own_via (fun _ kk => st.trans kk) (k v T' Lc X' hQ)
theorem own_initB (X : Stand p l e R s m args below meth c T locs cells slots) (hx : p.tables.exec = Jvm.exec) (hZ : Z.Warmed39 s.vm) {own : String} {index W ck' sk' : Nat} (hown : s.vm.findClass own = some m.cls) (eT : T.heap = h)
    (hK : Back l R p e below s args y 3 W (fun A a => a = as' ∧ A.U.heap = h ∧ A.cells + ck' ≤ R.cells ∧ A.slots + sk' ≤ R.slots) (fun A _ v B => ∃ L, Q v B.U.heap L ∧ B.locs = A.locs ++ L ∧ B.cells = A.cells + ck' ∧ B.slots = A.slots + sk')) {b : Addr} (hy1 : y.name = "<init>")
    (w1 : (Cond.methodLink own index y).before a0 Z = true) (w2 : (Cond.instanceMethod y).before a0 Z = true) (w3 : (Cond.code y bytes maxL none).before a0 Z = true)
    (hy : y.cls ≠ "java/lang/invoke/MethodHandle" ∧ y.cls ≠ "java/lang/invoke/VarHandle")
    {g : JFrame} (hg : g.method = m) (hsize : g.locals.size = c.maxLocals) {argsL rest : List Value} (has : (.ref b :: argsL).toArray = as') (hlen : ∀ sig, parseMethodDescriptor y.desc = some sig → argsL.length = sig.parameters.length)
    (hstack : g.stack = argsL.reverse ++ .ref b :: rest) (hW : 2 * g.monitorRoom + (rest.map fun v => v.category).sum ≤ W) (hdg : decode c.code g.pc = .ok (.invokespecial index, 3))
    (hc : cells + ck' ≤ R.cells) (hs : slots + sk' ≤ R.slots)
    (k : ∀ (v : Option Value) (T' : State) (L : List Loc), Stand p l e R s m args below meth c T' (locs ++ L) (cells + ck') (slots + sk') → Q v T'.heap L → OGo p e below P T' { g with pc := g.pc + 3, stack := v.toList ++ rest }) :
    OGo p e below P T g := by
  obtain ⟨v, _, ⟨T', L', k', n'⟩, -, X', ⟨Lc, hQ, e1, e2, e3⟩, st⟩ := X.specialBack hx (y := y) hy1 hown (mvT hZ w1) (mvT hZ w2) (mvT hZ w3) hy hK hg hsize (Steps.refl _) hlen hstack hW hdg (fun _ _ => ⟨has, eT, hc, hs⟩)
  dsimp only [Pt.U, Pt.locs, Pt.cells, Pt.slots] at X' e1 e2 e3 st hQ
  subst e1 e2 e3
  exact own_via (fun _ kk => st.trans kk) (k v T' Lc X' hQ)
theorem own_irem {tb : Tables} [Ours tb] {e : Env} {below : List Frame} {T target : State} {m : MethodId} {c : Code} {g : JFrame} (h : At T m c below) (hx : tb.exec = Jvm.exec) (hg : g.method = m) {x y : Int32} {rest : List Value} (hd : decode c.code g.pc = .ok (.irem, 1)) (hs : g.stack = .int y :: .int x :: rest) (hy : y ≠ 0)
    (hr : Steps tb e below (T.setTop { g with pc := g.pc + 1, stack := .int (x % y) :: rest }) target) : Steps tb e below (T.setTop g) target := XS.irem h hx hg hd hs hy (by rw [irem_eq_mod]; exact hr)
theorem own_len {z w : Int32} (q : z = w) {g : JFrame} {rest : List Value} {pc : Nat} (k : ∀ target, Steps p.tables e below (T.setTop { g with pc := pc, stack := .int z :: rest }) target → Steps p.tables e below (T.setTop g) target) :
    ∀ target, Steps p.tables e below (T.setTop { g with pc := pc, stack := .int w :: rest }) target → Steps p.tables e below (T.setTop g) target := q ▸ k
theorem own_narZ {x : Int32} (hx : x = 0 ∨ x = 1) : narrow .boolean (.int x) = .int x := by rcases hx with rfl | rfl <;> rfl
theorem own_fitZ {x : Int32} (hx : x = 0 ∨ x = 1) : fits .boolean (.int x) = true := by rcases hx with rfl | rfl <;> rfl
theorem own_fits_byte (x : Int32) : fits .byte (.int (nar .byte x)) = true := fits_nar_byte x
theorem own_lat (x : Int32) : ¬ (x &&& (255 : Int32)).toUInt32.toUInt16.toUInt32.toInt32 < (0 : Int32) ∧ ¬ (255 : Int32) < (x &&& (255 : Int32)).toUInt32.toUInt16.toUInt32.toInt32 := by
  rw [i2c_mask]
  have q := c_and x 255 (by decide)
  rw [Int32.lt_iff_toInt_lt, Int32.lt_iff_toInt_lt]
  have e1 : (0 : Int32).toInt = 0 := by decide
  have e2 : (255 : Int32).toInt = 255 := by decide
  omega
theorem own_latN (x : Int32) : ¬ nar .char ((x &&& (255 : Int32)).toUInt32.toUInt16.toUInt32.toInt32) < (0 : Int32) ∧ ¬ (255 : Int32) < nar .char ((x &&& (255 : Int32)).toUInt32.toUInt16.toUInt32.toInt32) := by
  have e : nar .char ((x &&& (255 : Int32)).toUInt32.toUInt16.toUInt32.toInt32) = (x &&& (255 : Int32)).toUInt32.toUInt16.toUInt32.toInt32 := by simp only [nar, i2c_mask]
  rw [e]
  exact own_lat x
theorem own_callP (X : Stand p l e R s m args below meth c T locs cells slots) (hx : p.tables.exec = Jvm.exec) (hZ : Z.Warmed39 s.vm) {own C : String} {index W : Nat} (hown : s.vm.findClass own = some m.cls) (eT : T.heap = h)
    (hM : OMet l y bytes maxL ret [] rm Z as' h Q) {b : Addr} (E : Exa Z h b C)
    (w1 : (Cond.methodLink own index y).before a0 Z = true) (w2 : (Cond.instanceMethod y).before a0 Z = true) (w3 : (Cond.selects y.cls y y).before a0 Z = true) (w4 : (Cond.privateMethod y).before a0 Z = true) (w5 : (Cond.code y bytes maxL ret).before a0 Z = true) (w6 : (Cond.initialized y.cls).before a0 Z = true)
    (hy : y.cls ≠ "java/lang/invoke/MethodHandle" ∧ y.cls ≠ "java/lang/invoke/VarHandle") (hf : rm.frames + 1 ≤ R.frames) (hl : W + (maxL + 11) + rm.locals ≤ R.locals)
    {g : JFrame} (hg : g.method = m) (hsize : g.locals.size = c.maxLocals) {argsL rest : List Value} (has : (.ref b :: argsL).toArray = as') (hlen : ∀ sig, parseMethodDescriptor y.desc = some sig → argsL.length = sig.parameters.length)
    (hstack : g.stack = argsL.reverse ++ .ref b :: rest) (hW : 2 * g.monitorRoom + (rest.map fun v => v.category).sum ≤ W) (hdg : decode c.code g.pc = .ok (.invokevirtual index, 3))
    (hc : cells + rm.cells ≤ R.cells) (hs : slots + rm.slots ≤ R.slots)
    (k : ∀ (v : Option Value) (T' : State) (L : List Loc), Stand p l e R s m args below meth c T' (locs ++ L) (cells + rm.cells) (slots + rm.slots) → Q v T'.heap L → OGo p e below P T' { g with pc := g.pc + 3, stack := v.toList ++ rest }) :
    OGo p e below P T g := by
  obtain ⟨cq, qa, qb⟩ := E.cell
  obtain ⟨v, _, ⟨T', L', k', n'⟩, -, X', ⟨Lc, hQ, e1, e2, e3⟩, st⟩ := X.privateBack hx (y := y) hown (mvT hZ w1) (mvT hZ w2) (mvT hZ w3) (Cond.privateMethod_at (mvP hZ w4 (args := #[]))) (mvT hZ w5) hy (backOf (W := W) hM hZ w5 w6 hf hl) hg hsize (Steps.refl _) (by rw [eT]; exact qa) qb hlen hstack hW hdg (fun _ _ => ⟨has, eT, hc, hs⟩)
  dsimp only [Pt.U, Pt.locs, Pt.cells, Pt.slots] at X' e1 e2 e3 st hQ
  subst e1 e2 e3
  exact own_via (fun _ kk => st.trans kk) (k v T' Lc X' hQ)
theorem own_superB (X : Stand p l e R s m args below meth c T locs cells slots) (hx : p.tables.exec = Jvm.exec) (hZ : Z.Warmed39 s.vm) {own K : String} {index W : Nat} (hown : s.vm.findClass own = some m.cls) (eT : T.heap = h)
    (hM : OMet l y bytes maxL ret [] rm Z as' h Q) {b : Addr} (F : Ins Z h b K true) (hn : y.name ≠ "<init>")
    (w1 : (Cond.methodLink own index y).before a0 Z = true) (w2 : (Cond.sameMethod y.cls y.cls y.name y.desc).before a0 Z = true) (w3 : (Cond.instanceMethod y).before a0 Z = true) (w4 : (Cond.superclass own y.cls).before a0 Z = true) (w5 : (Cond.code y bytes maxL ret).before a0 Z = true) (w6 : (Cond.initialized y.cls).before a0 Z = true)
    (hf : rm.frames + 1 ≤ R.frames) (hl : W + (maxL + 11) + rm.locals ≤ R.locals)
    {g : JFrame} (hg : g.method = m) (hsize : g.locals.size = c.maxLocals) {argsL rest : List Value} (has : (.ref b :: argsL).toArray = as') (hlen : ∀ sig, parseMethodDescriptor y.desc = some sig → argsL.length = sig.parameters.length)
    (hstack : g.stack = argsL.reverse ++ .ref b :: rest) (hW : 2 * g.monitorRoom + (rest.map fun v => v.category).sum ≤ W) (hdg : decode c.code g.pc = .ok (.invokespecial index, 3))
    (hc : cells + rm.cells ≤ R.cells) (hs : slots + rm.slots ≤ R.slots)
    (k : ∀ (v : Option Value) (T' : State) (L : List Loc), Stand p l e R s m args below meth c T' (locs ++ L) (cells + rm.cells) (slots + rm.slots) → Q v T'.heap L → OGo p e below P T' { g with pc := g.pc + 3, stack := v.toList ++ rest }) :
    OGo p e below P T g := by
  obtain ⟨v, _, ⟨T', L', k', n'⟩, -, X', ⟨Lc, hQ, e1, e2, e3⟩, st⟩ := superBack X hx hZ (y := y) hown w1 w2 w3 w4 hn (backOf (W := W) hM hZ w5 w6 hf hl) eT F hg hsize w5 hlen hstack hW hdg (fun _ _ => ⟨has, eT, hc, hs⟩)
  dsimp only [Pt.U, Pt.locs, Pt.cells, Pt.slots] at X' e1 e2 e3 st hQ
  subst e1 e2 e3
  exact own_via (fun _ kk => st.trans kk) (k v T' Lc X' hQ)
theorem own_pureX (X : Stand p l e R s m args below meth c T (locs ++ []) (cells + 0) (slots + 0)) : Stand p l e R s m args below meth c T locs cells slots := by simpa using X
theorem own_sta_keep {h' : Heap} {ws : List Addr} {C n d : String} {v : Value} (F : Sta Z h C n d v) (K : Keep h h' ws) (q : ∀ x ∈ ws, ∀ c : Cell, h[x]? = some c → c.vm.isStatics = false) : Sta Z h' C n d v := by
  obtain ⟨cf, i, k, f, st, cell, h1, h2, h3, h4, h5, h6, h7⟩ := F
  exact ⟨cf, i, k, f, st, cell, h1, h2, h3, h4, K.2.1 st cell h5 (fun mm => by have := q st mm cell h5; rw [h6] at this; cases this), h6, h7⟩
theorem own_ins_keep {h' : Heap} {ws : List Addr} {a : Addr} {C : String} {b : Bool} (F : Ins Z h a C b) (K : Keep h h' ws) : Ins Z h' a C b := by
  obtain ⟨cell, cT, h1, h2, h3⟩ := F
  obtain ⟨c', q1, q2, q3, -⟩ := K.2.2 a cell h1
  exact ⟨c', cT, q1, h2, by rw [q2, q3]; exact h3⟩
theorem own_nsE {a : Addr} {C : String} (E : Exa Z h a C) : ∀ c : Cell, h[a]? = some c → c.vm.isStatics = false := fun c hc => by
  obtain ⟨cell, k, h1, h2, h3, h4, h5⟩ := E
  cases h1.symm.trans hc
  exact h4
theorem own_nsA {a : Addr} {k : ClassId} {ty : FieldType} {z : Int32} {vs : List Value} {dv : Value} (F : Arv Z h a k ty z vs dv) : ∀ c : Cell, h[a]? = some c → c.vm.isStatics = false := fun c hc => by
  obtain ⟨cell, A, -⟩ := F
  cases A.1.symm.trans hc
  exact A.plain
theorem own_nar_ref {t : FieldType} {w : Value} (hw : w.isRef = true) (ht : t.isReference = true) : narrow t w = w := by cases t <;> cases w <;> first | rfl | (cases ht; done) | (cases hw; done)
theorem own_fits_ref {t : FieldType} {w : Value} (hw : w.isRef = true) (ht : t.isReference = true) : fits t w = true := by cases t <;> cases w <;> first | rfl | (cases ht; done) | (cases hw; done)
theorem own_len0 {t : Term} {x : Addr} {cl : Cell} {ty : FieldType} (ht : t.eval args s none [] s = some (.ref x)) (A : Arr s s.heap x cl ty) (hq : (Jvm.Cond.eq (.length t) (.int 0)).value args s none s [] = some true) : cl.slots.size = 0 := by
  have e1 := A.fin (U := s) (Vm.Alike.refl _)
  simp only [Cond.value, Term.eval, ht, e1] at hq
  by_cases q : cl.slots.size < 2 ^ 31
  · simp [e1, q] at hq
    have e2 := len_toInt q
    rw [hq] at e2
    have e3 : (0 : Int32).toInt = 0 := by decide
    omega
  · simp [e1, q] at hq
theorem own_arv0 {x : Addr} {cl : Cell} {ty : FieldType} {dv : Value} (A : Arr s s.heap x cl ty) (hq : cl.slots.size = 0) : Arv s s.heap x cl.cls ty (0 : Int32) [] dv :=
  ⟨cl, A, rfl, by rw [hq]; decide, by decide, fun i hi => by omega, fun i hi => by omega⟩
/-- a static's object and its int field, out of the case's words -/
theorem own_fldI {t : Term} {C n d : String} {x : Addr} {k : Int32} (ht : t.eval args s none [] s = some (.ref x)) (h : (Jvm.Cond.eq (.field t C n d) (.int k)).value args s none s [] = some true) : Fld s s.heap x C n d (.int k) := by
  refine Fld.start ?_
  have e1 := fld_at (C := C) (n := n) (dd := d) ht
  have e2 : (Term.int k).eval args s none [] s = some (.int k) := rfl
  simp only [Cond.value, e1, e2] at h
  cases hv : s.fieldOf? x C n d with
  | none => simp [hv] at h
  | some w => cases w <;> simp_all
end Own
theorem d2_0 : decode prog_3_method_5_code 0 = .ok (.aload_n 0, 1) := by decide +kernel
theorem d2_1 : decode prog_3_method_5_code 1 = .ok (.getfield 36, 3) := by decide +kernel
theorem d2_4 : decode prog_3_method_5_code 4 = .ok (.ifCond .eq 10, 3) := by decide +kernel
theorem d2_14 : decode prog_3_method_5_code 14 = .ok (.iconst 1, 1) := by decide +kernel
theorem d2_15 : decode prog_3_method_5_code 15 = .ok (.goto 4, 3) := by decide +kernel
theorem d2_19 : decode prog_3_method_5_code 19 = .ok (.ireturn, 1) := by decide +kernel
theorem pn_2 : plainName "com/example/langouste/langouste/LockNodeName$Kind" = true := by first | (simp [plainName, overriddenIn]; done) | decide +kernel
set_option maxRecDepth 65536 in
set_option maxHeartbeats 40000000 in
theorem rm2_0 (l : Launch) (Z : State) (a0 : Array Value) (hw : ∀ d ∈ tables_1, d.before a0 Z = true) (ws : List Jvm.Cond) (a1 a2 : Addr) (h0 : Heap) (n0 : Nat) (Z0 : n0 ≤ h0.size) (F1 : Fld Z h0 a1 "com/example/langouste/langouste/LockNodeName$Kind" "shared" "Z" (.int (0 : Int32))) :
    OMet l (⟨"com/example/langouste/langouste/LockNodeName$Kind", "waitsFor", "(Lcom/example/langouste/langouste/LockNodeName$Kind;)Z"⟩ : MethodName) prog_3_method_5_code 2 (some .boolean) ws ({ frames := 0, cells := 0, slots := 0, locals := 0 } : Room) Z #[(.ref a1), (.ref a2)] h0 (fun v h L => v = some (.int 1) ∧ L = [] ∧ h = h0) := by
  refine own_body (plainFor_of_name pn_2) ?_
  intro p e s m below meth c T0 X0 hx hZ hby hml hown hnm hret hlk e0
  have N0 := Fr.nil n0
  refine own_entry (g' := (mkF m 0 #[.val (.ref a1), .val (.ref a2)] [])) (by first | rfl | (simp [entryFrame, mkF, argsToLocals, Value.category, maxLocals]; done)) ?_
  refine own_step (g' := (mkF m 1 #[.val (.ref a1), .val (.ref a2)] [(.ref a1)])) (fun _ k => XS.aloadN X0.here hx rfl (hb hby d2_0) rfl rfl k) ?_
  obtain ⟨T1, X1, e1, st1⟩ := getF X0 hx hZ hown (host := "") (Or.inl (hw _ (List.mem_of_getElem? (i := 15) rfl))) Via.refl e0 F1 (g := (mkF m 1 #[.val (.ref a1), .val (.ref a2)] [(.ref a1)])) rfl rfl (hb hby d2_1)
  refine own_via (g' := (mkF m 4 #[.val (.ref a1), .val (.ref a2)] [(.int (0 : Int32))])) st1 ?_
  refine own_step (g' := (mkF m 14 #[.val (.ref a1), .val (.ref a2)] [])) (fun _ k => XS.ifYes X1.here hx rfl (pc0 := 4) (pc' := 14) rfl (hb hby d2_4) rfl ((if0 _ _).trans (teq (by decide : (0 : Int32) = (0 : Int32))).1) (by decide) (by decide) k) ?_
  refine own_step (g' := (mkF m 15 #[.val (.ref a1), .val (.ref a2)] [(.int (1 : Int32))])) (fun _ k => XS.iconst X1.here hx rfl (hb hby d2_14) k) ?_
  refine own_step (g' := (mkF m 19 #[.val (.ref a1), .val (.ref a2)] [(.int (1 : Int32))])) (fun _ k => XS.goto X1.here hx rfl (pc0 := 15) (pc' := 19) rfl (hb hby d2_15) (by decide) (by decide) k) ?_
  exact own_retN X1 hx (t := .boolean) hret (by simp) hlk (hb hby d2_19) e1 (by exact ⟨rfl, rfl, rfl⟩) (by decide) (by decide)
theorem d2_7 : decode prog_3_method_5_code 7 = .ok (.aload_n 1, 1) := by decide +kernel
theorem d2_8 : decode prog_3_method_5_code 8 = .ok (.getfield 36, 3) := by decide +kernel
theorem d2_11 : decode prog_3_method_5_code 11 = .ok (.ifCond .ne 7, 3) := by decide +kernel
set_option maxRecDepth 65536 in
set_option maxHeartbeats 40000000 in
theorem rm2_10 (l : Launch) (Z : State) (a0 : Array Value) (hw : ∀ d ∈ tables_1, d.before a0 Z = true) (ws : List Jvm.Cond) (a1 a2 : Addr) (h0 : Heap) (n0 : Nat) (Z0 : n0 ≤ h0.size) (F1 : Fld Z h0 a1 "com/example/langouste/langouste/LockNodeName$Kind" "shared" "Z" (.int (1 : Int32))) (F2 : Fld Z h0 a2 "com/example/langouste/langouste/LockNodeName$Kind" "shared" "Z" (.int (0 : Int32))) :
    OMet l (⟨"com/example/langouste/langouste/LockNodeName$Kind", "waitsFor", "(Lcom/example/langouste/langouste/LockNodeName$Kind;)Z"⟩ : MethodName) prog_3_method_5_code 2 (some .boolean) ws ({ frames := 0, cells := 0, slots := 0, locals := 0 } : Room) Z #[(.ref a1), (.ref a2)] h0 (fun v h L => v = some (.int 1) ∧ L = [] ∧ h = h0) := by
  refine own_body (plainFor_of_name pn_2) ?_
  intro p e s m below meth c T0 X0 hx hZ hby hml hown hnm hret hlk e0
  have N0 := Fr.nil n0
  refine own_entry (g' := (mkF m 0 #[.val (.ref a1), .val (.ref a2)] [])) (by first | rfl | (simp [entryFrame, mkF, argsToLocals, Value.category, maxLocals]; done)) ?_
  refine own_step (g' := (mkF m 1 #[.val (.ref a1), .val (.ref a2)] [(.ref a1)])) (fun _ k => XS.aloadN X0.here hx rfl (hb hby d2_0) rfl rfl k) ?_
  obtain ⟨T1, X1, e1, st1⟩ := getF X0 hx hZ hown (host := "") (Or.inl (hw _ (List.mem_of_getElem? (i := 15) rfl))) Via.refl e0 F1 (g := (mkF m 1 #[.val (.ref a1), .val (.ref a2)] [(.ref a1)])) rfl rfl (hb hby d2_1)
  refine own_via (g' := (mkF m 4 #[.val (.ref a1), .val (.ref a2)] [(.int (1 : Int32))])) st1 ?_
  refine own_step (g' := (mkF m 7 #[.val (.ref a1), .val (.ref a2)] [])) (fun _ k => XS.ifNo X1.here hx rfl (hb hby d2_4) rfl ((if0 _ _).trans (feq (by decide : ¬ ((1 : Int32) = (0 : Int32)))).1) k) ?_
  refine own_step (g' := (mkF m 8 #[.val (.ref a1), .val (.ref a2)] [(.ref a2)])) (fun _ k => XS.aloadN X1.here hx rfl (hb hby d2_7) rfl rfl k) ?_
  obtain ⟨T2, X2, e2, st2⟩ := getF X1 hx hZ hown (host := "") (Or.inl (hw _ (List.mem_of_getElem? (i := 15) rfl))) Via.refl e1 F2 (g := (mkF m 8 #[.val (.ref a1), .val (.ref a2)] [(.ref a2)])) rfl rfl (hb hby d2_8)
  refine own_via (g' := (mkF m 11 #[.val (.ref a1), .val (.ref a2)] [(.int (0 : Int32))])) st2 ?_
  refine own_step (g' := (mkF m 14 #[.val (.ref a1), .val (.ref a2)] [])) (fun _ k => XS.ifNo X2.here hx rfl (hb hby d2_11) rfl ((if0 _ _).trans (teq (by decide : (0 : Int32) = (0 : Int32))).2) k) ?_
  refine own_step (g' := (mkF m 15 #[.val (.ref a1), .val (.ref a2)] [(.int (1 : Int32))])) (fun _ k => XS.iconst X2.here hx rfl (hb hby d2_14) k) ?_
  refine own_step (g' := (mkF m 19 #[.val (.ref a1), .val (.ref a2)] [(.int (1 : Int32))])) (fun _ k => XS.goto X2.here hx rfl (pc0 := 15) (pc' := 19) rfl (hb hby d2_15) (by decide) (by decide) k) ?_
  exact own_retN X2 hx (t := .boolean) hret (by simp) hlk (hb hby d2_19) e2 (by exact ⟨rfl, rfl, rfl⟩) (by decide) (by decide)
theorem d2_18 : decode prog_3_method_5_code 18 = .ok (.iconst 0, 1) := by decide +kernel
set_option maxRecDepth 65536 in
set_option maxHeartbeats 40000000 in
theorem rm2_11 (l : Launch) (Z : State) (a0 : Array Value) (hw : ∀ d ∈ tables_1, d.before a0 Z = true) (ws : List Jvm.Cond) (a1 a2 : Addr) (h0 : Heap) (n0 : Nat) (Z0 : n0 ≤ h0.size) (F1 : Fld Z h0 a1 "com/example/langouste/langouste/LockNodeName$Kind" "shared" "Z" (.int (1 : Int32))) (F2 : Fld Z h0 a2 "com/example/langouste/langouste/LockNodeName$Kind" "shared" "Z" (.int (1 : Int32))) :
    OMet l (⟨"com/example/langouste/langouste/LockNodeName$Kind", "waitsFor", "(Lcom/example/langouste/langouste/LockNodeName$Kind;)Z"⟩ : MethodName) prog_3_method_5_code 2 (some .boolean) ws ({ frames := 0, cells := 0, slots := 0, locals := 0 } : Room) Z #[(.ref a1), (.ref a2)] h0 (fun v h L => v = some (.int 0) ∧ L = [] ∧ h = h0) := by
  refine own_body (plainFor_of_name pn_2) ?_
  intro p e s m below meth c T0 X0 hx hZ hby hml hown hnm hret hlk e0
  have N0 := Fr.nil n0
  refine own_entry (g' := (mkF m 0 #[.val (.ref a1), .val (.ref a2)] [])) (by first | rfl | (simp [entryFrame, mkF, argsToLocals, Value.category, maxLocals]; done)) ?_
  refine own_step (g' := (mkF m 1 #[.val (.ref a1), .val (.ref a2)] [(.ref a1)])) (fun _ k => XS.aloadN X0.here hx rfl (hb hby d2_0) rfl rfl k) ?_
  obtain ⟨T1, X1, e1, st1⟩ := getF X0 hx hZ hown (host := "") (Or.inl (hw _ (List.mem_of_getElem? (i := 15) rfl))) Via.refl e0 F1 (g := (mkF m 1 #[.val (.ref a1), .val (.ref a2)] [(.ref a1)])) rfl rfl (hb hby d2_1)
  refine own_via (g' := (mkF m 4 #[.val (.ref a1), .val (.ref a2)] [(.int (1 : Int32))])) st1 ?_
  refine own_step (g' := (mkF m 7 #[.val (.ref a1), .val (.ref a2)] [])) (fun _ k => XS.ifNo X1.here hx rfl (hb hby d2_4) rfl ((if0 _ _).trans (feq (by decide : ¬ ((1 : Int32) = (0 : Int32)))).1) k) ?_
  refine own_step (g' := (mkF m 8 #[.val (.ref a1), .val (.ref a2)] [(.ref a2)])) (fun _ k => XS.aloadN X1.here hx rfl (hb hby d2_7) rfl rfl k) ?_
  obtain ⟨T2, X2, e2, st2⟩ := getF X1 hx hZ hown (host := "") (Or.inl (hw _ (List.mem_of_getElem? (i := 15) rfl))) Via.refl e1 F2 (g := (mkF m 8 #[.val (.ref a1), .val (.ref a2)] [(.ref a2)])) rfl rfl (hb hby d2_8)
  refine own_via (g' := (mkF m 11 #[.val (.ref a1), .val (.ref a2)] [(.int (1 : Int32))])) st2 ?_
  refine own_step (g' := (mkF m 18 #[.val (.ref a1), .val (.ref a2)] [])) (fun _ k => XS.ifYes X2.here hx rfl (pc0 := 11) (pc' := 18) rfl (hb hby d2_11) rfl ((if0 _ _).trans (feq (by decide : ¬ ((1 : Int32) = (0 : Int32)))).2) (by decide) (by decide) k) ?_
  refine own_step (g' := (mkF m 19 #[.val (.ref a1), .val (.ref a2)] [(.int (0 : Int32))])) (fun _ k => XS.iconst X2.here hx rfl (hb hby d2_18) k) ?_
  exact own_retN X2 hx (t := .boolean) hret (by simp) hlk (hb hby d2_19) e2 (by exact ⟨rfl, rfl, rfl⟩) (by decide) (by decide)
theorem d1_0 : decode method_2_code 0 = .ok (.iload_n 0, 1) := by decide +kernel
theorem d1_1 : decode method_2_code 1 = .ok (.ldc 7, 2) := by decide +kernel
theorem d1_3 : decode method_2_code 3 = .ok (.iand, 1) := by decide +kernel
theorem d1_4 : decode method_2_code 4 = .ok (.iconst 3, 1) := by decide +kernel
theorem d1_5 : decode method_2_code 5 = .ok (.irem, 1) := by decide +kernel
theorem d1_6 : decode method_2_code 6 = .ok (.istore_n 1, 1) := by decide +kernel
theorem d1_7 : decode method_2_code 7 = .ok (.iload_n 1, 1) := by decide +kernel
theorem d1_8 : decode method_2_code 8 = .ok (.ifCond .ne 7, 3) := by decide +kernel
theorem d1_11 : decode method_2_code 11 = .ok (.getstatic 8, 3) := by decide +kernel
theorem d1_14 : decode method_2_code 14 = .ok (.areturn, 1) := by decide +kernel
theorem d1_15 : decode method_2_code 15 = .ok (.iload_n 1, 1) := by decide +kernel
theorem d1_16 : decode method_2_code 16 = .ok (.iconst 1, 1) := by decide +kernel
theorem d1_17 : decode method_2_code 17 = .ok (.if_icmp .ne 7, 3) := by decide +kernel
theorem d1_20 : decode method_2_code 20 = .ok (.getstatic 14, 3) := by decide +kernel
theorem d1_23 : decode method_2_code 23 = .ok (.areturn, 1) := by decide +kernel
theorem d1_24 : decode method_2_code 24 = .ok (.getstatic 17, 3) := by decide +kernel
theorem d1_27 : decode method_2_code 27 = .ok (.areturn, 1) := by decide +kernel
theorem pn_1 : plainName "com/example/langouste/langouste/KindWaitsForPinLaw" = true := by first | (simp [plainName, overriddenIn]; done) | decide +kernel
set_option maxRecDepth 65536 in
set_option maxHeartbeats 40000000 in
theorem rm1 (l : Launch) (Z : State) (a0 : Array Value) (hw : ∀ d ∈ tables_1, d.before a0 Z = true) (ws : List Jvm.Cond) (p1 : Int32) (w_LOCK w_READ w_WRITE : Addr) (h0 : Heap) (n0 : Nat) (Z0 : n0 ≤ h0.size) (S_LOCK : Sta Z h0 "com/example/langouste/langouste/LockNodeName$Kind" "LOCK" "Lcom/example/langouste/langouste/LockNodeName$Kind;" (.ref w_LOCK)) (S_READ : Sta Z h0 "com/example/langouste/langouste/LockNodeName$Kind" "READ" "Lcom/example/langouste/langouste/LockNodeName$Kind;" (.ref w_READ)) (S_WRITE : Sta Z h0 "com/example/langouste/langouste/LockNodeName$Kind" "WRITE" "Lcom/example/langouste/langouste/LockNodeName$Kind;" (.ref w_WRITE)) (C_LOCK : Exa Z h0 w_LOCK "com/example/langouste/langouste/LockNodeName$Kind") (F_LOCK : Fld Z h0 w_LOCK "com/example/langouste/langouste/LockNodeName$Kind" "shared" "Z" (.int (0 : Int32))) (C_READ : Exa Z h0 w_READ "com/example/langouste/langouste/LockNodeName$Kind") (F_READ : Fld Z h0 w_READ "com/example/langouste/langouste/LockNodeName$Kind" "shared" "Z" (.int (1 : Int32))) (C_WRITE : Exa Z h0 w_WRITE "com/example/langouste/langouste/LockNodeName$Kind") (F_WRITE : Fld Z h0 w_WRITE "com/example/langouste/langouste/LockNodeName$Kind" "shared" "Z" (.int (0 : Int32))) (n_LOCK : ¬ (w_LOCK = w_READ)) (n_WRITE : ¬ (w_WRITE = w_READ)) :
    OMet l (⟨"com/example/langouste/langouste/KindWaitsForPinLaw", "pick", "(I)Lcom/example/langouste/langouste/LockNodeName$Kind;"⟩ : MethodName) method_2_code 2 (some (.object "com/example/langouste/langouste/LockNodeName$Kind")) ws ({ frames := 0, cells := 0, slots := 0, locals := 0 } : Room) Z #[(.int p1)] h0 (fun v h L => (∃ r, v = some (.ref r) ∧ Exa Z h0 r "com/example/langouste/langouste/LockNodeName$Kind" ∧ ((r = w_READ ∧ Fld Z h0 r "com/example/langouste/langouste/LockNodeName$Kind" "shared" "Z" (.int (1 : Int32))) ∨ (¬ (r = w_READ) ∧ Fld Z h0 r "com/example/langouste/langouste/LockNodeName$Kind" "shared" "Z" (.int (0 : Int32))))) ∧ L = [] ∧ h = h0) := by
  refine own_body (plainFor_of_name pn_1) ?_
  intro p e s m below meth c T0 X0 hx hZ hby hml hown hnm hret hlk e0
  have N0 := Fr.nil n0
  refine own_entry (g' := (mkF m 0 #[.val (.int p1), .unset] [])) (by first | rfl | (simp [entryFrame, mkF, argsToLocals, Value.category, maxLocals]; done)) ?_
  refine own_step (g' := (mkF m 1 #[.val (.int p1), .unset] [(.int p1)])) (fun _ k => XS.iloadN X0.here hx rfl (hb hby d1_0) rfl k) ?_
  refine own_step (g' := (mkF m 3 #[.val (.int p1), .unset] [(.int (2147483647 : Int32)), (.int p1)])) (X0.ldcInt hx hown (mvT hZ (hw _ (List.mem_of_getElem? (i := 4) rfl))) (g := (mkF m 1 #[.val (.int p1), .unset] [(.int p1)])) rfl (hb hby d1_1)) ?_
  refine own_step (g' := (mkF m 4 #[.val (.int p1), .unset] [(.int (p1 &&& (2147483647 : Int32)))])) (fun _ k => XS.iand X0.here hx rfl (hb hby d1_3) rfl k) ?_
  refine own_step (g' := (mkF m 5 #[.val (.int p1), .unset] [(.int (3 : Int32)), (.int (p1 &&& (2147483647 : Int32)))])) (fun _ k => XS.iconst X0.here hx rfl (hb hby d1_4) k) ?_
  refine own_step (g' := (mkF m 6 #[.val (.int p1), .unset] [(.int ((p1 &&& (2147483647 : Int32)) % (3 : Int32)))])) (fun _ k => own_irem X0.here hx rfl (hb hby d1_5) rfl (by decide) k) ?_
  refine own_step (g' := (mkF m 7 #[.val (.int p1), .val (.int ((p1 &&& (2147483647 : Int32)) % (3 : Int32)))] [])) (fun _ k => XS.istoreN X0.here hx rfl (hb hby d1_6) rfl (l' := #[.val (.int p1), .val (.int ((p1 &&& (2147483647 : Int32)) % (3 : Int32)))]) rfl k) ?_
  refine own_step (g' := (mkF m 8 #[.val (.int p1), .val (.int ((p1 &&& (2147483647 : Int32)) % (3 : Int32)))] [(.int ((p1 &&& (2147483647 : Int32)) % (3 : Int32)))])) (fun _ k => XS.iloadN X0.here hx rfl (hb hby d1_7) rfl k) ?_
  by_cases hc1 : ((p1 &&& (2147483647 : Int32)) % (3 : Int32)) = (0 : Int32)
  · refine own_step (g' := (mkF m 11 #[.val (.int p1), .val (.int ((p1 &&& (2147483647 : Int32)) % (3 : Int32)))] [])) (fun _ k => XS.ifNo X0.here hx rfl (hb hby d1_8) rfl ((if0 _ _).trans (teq hc1).2) k) ?_
    obtain ⟨T2, X2, e2, st2⟩ := getS2 X0 hx hZ hown (host := "") (Or.inl (hw _ (List.mem_of_getElem? (i := 5) rfl))) Via.refl e0 S_LOCK (g := (mkF m 11 #[.val (.int p1), .val (.int ((p1 &&& (2147483647 : Int32)) % (3 : Int32)))] [])) rfl (hb hby d1_11)
    refine own_via (g' := (mkF m 14 #[.val (.int p1), .val (.int ((p1 &&& (2147483647 : Int32)) % (3 : Int32)))] [(.ref w_LOCK)])) st2 ?_
    exact own_retA X2 hx hret rfl rfl hlk (hb hby d1_14) e2 (by exact ⟨⟨_, rfl, C_LOCK, Or.inr ⟨n_LOCK, F_LOCK⟩⟩, rfl, rfl⟩) (by decide) (by decide)
  · refine own_step (g' := (mkF m 15 #[.val (.int p1), .val (.int ((p1 &&& (2147483647 : Int32)) % (3 : Int32)))] [])) (fun _ k => XS.ifYes X0.here hx rfl (pc0 := 8) (pc' := 15) rfl (hb hby d1_8) rfl ((if0 _ _).trans (feq hc1).2) (by decide) (by decide) k) ?_
    refine own_step (g' := (mkF m 16 #[.val (.int p1), .val (.int ((p1 &&& (2147483647 : Int32)) % (3 : Int32)))] [(.int ((p1 &&& (2147483647 : Int32)) % (3 : Int32)))])) (fun _ k => XS.iloadN X0.here hx rfl (hb hby d1_15) rfl k) ?_
    refine own_step (g' := (mkF m 17 #[.val (.int p1), .val (.int ((p1 &&& (2147483647 : Int32)) % (3 : Int32)))] [(.int (1 : Int32)), (.int ((p1 &&& (2147483647 : Int32)) % (3 : Int32)))])) (fun _ k => XS.iconst X0.here hx rfl (hb hby d1_16) k) ?_
    by_cases hc3 : ((p1 &&& (2147483647 : Int32)) % (3 : Int32)) = (1 : Int32)
    · refine own_step (g' := (mkF m 20 #[.val (.int p1), .val (.int ((p1 &&& (2147483647 : Int32)) % (3 : Int32)))] [])) (fun _ k => XS.icmpNo X0.here hx rfl (hb hby d1_17) rfl (teq hc3).2 k) ?_
      obtain ⟨T4, X4, e4, st4⟩ := getS2 X0 hx hZ hown (host := "") (Or.inl (hw _ (List.mem_of_getElem? (i := 8) rfl))) Via.refl e0 S_READ (g := (mkF m 20 #[.val (.int p1), .val (.int ((p1 &&& (2147483647 : Int32)) % (3 : Int32)))] [])) rfl (hb hby d1_20)
      refine own_via (g' := (mkF m 23 #[.val (.int p1), .val (.int ((p1 &&& (2147483647 : Int32)) % (3 : Int32)))] [(.ref w_READ)])) st4 ?_
      exact own_retA X4 hx hret rfl rfl hlk (hb hby d1_23) e4 (by exact ⟨⟨_, rfl, C_READ, Or.inl ⟨rfl, F_READ⟩⟩, rfl, rfl⟩) (by decide) (by decide)
    · refine own_step (g' := (mkF m 24 #[.val (.int p1), .val (.int ((p1 &&& (2147483647 : Int32)) % (3 : Int32)))] [])) (fun _ k => XS.icmpYes X0.here hx rfl (pc0 := 17) (pc' := 24) rfl (hb hby d1_17) rfl (feq hc3).2 (by decide) (by decide) k) ?_
      obtain ⟨T5, X5, e5, st5⟩ := getS2 X0 hx hZ hown (host := "") (Or.inl (hw _ (List.mem_of_getElem? (i := 17) rfl))) Via.refl e0 S_WRITE (g := (mkF m 24 #[.val (.int p1), .val (.int ((p1 &&& (2147483647 : Int32)) % (3 : Int32)))] [])) rfl (hb hby d1_24)
      refine own_via (g' := (mkF m 27 #[.val (.int p1), .val (.int ((p1 &&& (2147483647 : Int32)) % (3 : Int32)))] [(.ref w_WRITE)])) st5 ?_
      exact own_retA X5 hx hret rfl rfl hlk (hb hby d1_27) e5 (by exact ⟨⟨_, rfl, C_WRITE, Or.inr ⟨n_WRITE, F_WRITE⟩⟩, rfl, rfl⟩) (by decide) (by decide)
def Q0 (n0 : Nat) : Option Value → Heap → List Loc → Prop := fun v h L => v = some (.int 1) ∧ Fr n0 L
theorem pd_0 : parseMethodDescriptor "(I)Lcom/example/langouste/langouste/LockNodeName$Kind;" = some ⟨[.int], some (.object "com/example/langouste/langouste/LockNodeName$Kind")⟩ := by decide +kernel
theorem pd_1 : parseMethodDescriptor "(Lcom/example/langouste/langouste/LockNodeName$Kind;)Z" = some ⟨[(.object "com/example/langouste/langouste/LockNodeName$Kind")], some .boolean⟩ := by decide +kernel
set_option maxRecDepth 65536 in
set_option maxHeartbeats 40000000 in
theorem rm0 (l : Launch) (Z : State) (a0 : Array Value) (hw : ∀ d ∈ tables_1, d.before a0 Z = true) (ws : List Jvm.Cond) (p1 p2 : Int32) (w_LOCK w_READ w_WRITE : Addr) (h0 : Heap) (n0 : Nat) (Z0 : n0 ≤ h0.size) (S_LOCK : Sta Z h0 "com/example/langouste/langouste/LockNodeName$Kind" "LOCK" "Lcom/example/langouste/langouste/LockNodeName$Kind;" (.ref w_LOCK)) (S_READ : Sta Z h0 "com/example/langouste/langouste/LockNodeName$Kind" "READ" "Lcom/example/langouste/langouste/LockNodeName$Kind;" (.ref w_READ)) (S_WRITE : Sta Z h0 "com/example/langouste/langouste/LockNodeName$Kind" "WRITE" "Lcom/example/langouste/langouste/LockNodeName$Kind;" (.ref w_WRITE)) (C_LOCK : Exa Z h0 w_LOCK "com/example/langouste/langouste/LockNodeName$Kind") (F_LOCK : Fld Z h0 w_LOCK "com/example/langouste/langouste/LockNodeName$Kind" "shared" "Z" (.int (0 : Int32))) (C_READ : Exa Z h0 w_READ "com/example/langouste/langouste/LockNodeName$Kind") (F_READ : Fld Z h0 w_READ "com/example/langouste/langouste/LockNodeName$Kind" "shared" "Z" (.int (1 : Int32))) (C_WRITE : Exa Z h0 w_WRITE "com/example/langouste/langouste/LockNodeName$Kind") (F_WRITE : Fld Z h0 w_WRITE "com/example/langouste/langouste/LockNodeName$Kind" "shared" "Z" (.int (0 : Int32))) (n_LOCK : ¬ (w_LOCK = w_READ)) (n_WRITE : ¬ (w_WRITE = w_READ)) :
    OMet l x code maxLocals ret ws room_1 Z #[(.int p1), (.int p2)] h0 (Q0 n0) := by
  refine own_body (plainFor_of_name pn_1) ?_
  intro p e s m below meth c T0 X0 hx hZ hby hml hown hnm hret hlk e0
  have N0 := Fr.nil n0
  refine own_entry (g' := (mkF m 0 #[.val (.int p1), .val (.int p2), .unset, .unset, .unset, .unset] [])) (by first | rfl | (simp [entryFrame, mkF, argsToLocals, Value.category, maxLocals]; done)) ?_
  refine own_step (g' := (mkF m 1 #[.val (.int p1), .val (.int p2), .unset, .unset, .unset, .unset] [(.int p1)])) (fun _ k => XS.iloadN X0.here hx rfl (hb hby at_0) rfl k) ?_
  refine own_callS X0 hx hZ (W := 0) hown e0 (rm1 l Z a0 hw [] p1 w_LOCK w_READ w_WRITE h0 n0 Z0 S_LOCK S_READ S_WRITE C_LOCK F_LOCK C_READ F_READ C_WRITE F_WRITE n_LOCK n_WRITE) (hw _ (List.mem_of_getElem? (i := 0) rfl)) (hw _ (List.mem_of_getElem? (i := 1) rfl)) (hw _ (List.mem_of_getElem? (i := 2) rfl)) (hw _ (List.mem_of_getElem? (i := 3) rfl)) (by decide) (by decide) (by decide) (g := (mkF m 1 #[.val (.int p1), .val (.int p2), .unset, .unset, .unset, .unset] [(.int p1)])) rfl (by rw [hml]; rfl) (argsL := [(.int p1)]) (rest := []) rfl (lenOf pd_0 rfl) rfl (by show 2 * 0 + _ ≤ _; exact Nat.le_of_eq rfl) (hb hby at_1) (by decide) (by decide) ?_
  intro v1 T1 L1 X1 hQ1
  obtain ⟨⟨r1, rfl, Cr1, hr1⟩, rfl, e1⟩ := hQ1
  replace X1 := own_pureX X1
  show OGo p e below _ T1 (mkF m 4 #[.val (.int p1), .val (.int p2), .unset, .unset, .unset, .unset] [(.ref r1)])
  rcases hr1 with ⟨qr1, Fr1⟩ | ⟨qr1, Fr1⟩
  · refine own_step (g' := (mkF m 5 #[.val (.int p1), .val (.int p2), .val (.ref r1), .unset, .unset, .unset] [])) (fun _ k => XS.astoreN X1.here hx rfl (hb hby at_4) rfl rfl (l' := #[.val (.int p1), .val (.int p2), .val (.ref r1), .unset, .unset, .unset]) rfl k) ?_
    refine own_step (g' := (mkF m 6 #[.val (.int p1), .val (.int p2), .val (.ref r1), .unset, .unset, .unset] [(.int p2)])) (fun _ k => XS.iloadN X1.here hx rfl (hb hby at_5) rfl k) ?_
    refine own_callS X1 hx hZ (W := 0) hown e1 (rm1 l Z a0 hw [] p2 w_LOCK w_READ w_WRITE h0 n0 Z0 S_LOCK S_READ S_WRITE C_LOCK F_LOCK C_READ F_READ C_WRITE F_WRITE n_LOCK n_WRITE) (hw _ (List.mem_of_getElem? (i := 0) rfl)) (hw _ (List.mem_of_getElem? (i := 1) rfl)) (hw _ (List.mem_of_getElem? (i := 2) rfl)) (hw _ (List.mem_of_getElem? (i := 3) rfl)) (by decide) (by decide) (by decide) (g := (mkF m 6 #[.val (.int p1), .val (.int p2), .val (.ref r1), .unset, .unset, .unset] [(.int p2)])) rfl (by rw [hml]; rfl) (argsL := [(.int p2)]) (rest := []) rfl (lenOf pd_0 rfl) rfl (by show 2 * 0 + _ ≤ _; exact Nat.le_of_eq rfl) (hb hby at_6) (by decide) (by decide) ?_
    intro v2 T2 L2 X2 hQ2
    obtain ⟨⟨r6, rfl, Cr6, hr6⟩, rfl, e2⟩ := hQ2
    replace X2 := own_pureX X2
    show OGo p e below _ T2 (mkF m 9 #[.val (.int p1), .val (.int p2), .val (.ref r1), .unset, .unset, .unset] [(.ref r6)])
    rcases hr6 with ⟨qr6, Fr6⟩ | ⟨qr6, Fr6⟩
    · refine own_step (g' := (mkF m 10 #[.val (.int p1), .val (.int p2), .val (.ref r1), .val (.ref r6), .unset, .unset] [])) (fun _ k => XS.astoreN X2.here hx rfl (hb hby at_9) rfl rfl (l' := #[.val (.int p1), .val (.int p2), .val (.ref r1), .val (.ref r6), .unset, .unset]) rfl k) ?_
      refine own_step (g' := (mkF m 11 #[.val (.int p1), .val (.int p2), .val (.ref r1), .val (.ref r6), .unset, .unset] [(.ref r1)])) (fun _ k => XS.aloadN X2.here hx rfl (hb hby at_10) rfl rfl k) ?_
      obtain ⟨T3, X3, e3, st3⟩ := getS2 X2 hx hZ hown (host := "") (Or.inl (hw _ (List.mem_of_getElem? (i := 8) rfl))) Via.refl e2 S_READ (g := (mkF m 11 #[.val (.int p1), .val (.int p2), .val (.ref r1), .val (.ref r6), .unset, .unset] [(.ref r1)])) rfl (hb hby at_11)
      refine own_via (g' := (mkF m 14 #[.val (.int p1), .val (.int p2), .val (.ref r1), .val (.ref r6), .unset, .unset] [(.ref w_READ), (.ref r1)])) st3 ?_
      refine own_step (g' := (mkF m 17 #[.val (.int p1), .val (.int p2), .val (.ref r1), .val (.ref r6), .unset, .unset] [])) (fun _ k => Jvm.RoadKit.acmp (g := (mkF m 14 #[.val (.int p1), .val (.int p2), .val (.ref r1), .val (.ref r6), .unset, .unset] [(.ref w_READ), (.ref r1)])) X3 hx rfl rfl rfl (pc0 := 14) (pc' := 17) (same := true) rfl (hb hby at_14) rfl (decide_eq_true (congrArg Value.ref qr1)) (by decide) (by decide) k) ?_
      refine own_step (g' := (mkF m 18 #[.val (.int p1), .val (.int p2), .val (.ref r1), .val (.ref r6), .unset, .unset] [(.ref r6)])) (fun _ k => XS.aloadN X3.here hx rfl (hb hby at_17) rfl rfl k) ?_
      obtain ⟨T4, X4, e4, st4⟩ := getS2 X3 hx hZ hown (host := "") (Or.inl (hw _ (List.mem_of_getElem? (i := 8) rfl))) Via.refl e3 S_READ (g := (mkF m 18 #[.val (.int p1), .val (.int p2), .val (.ref r1), .val (.ref r6), .unset, .unset] [(.ref r6)])) rfl (hb hby at_18)
      refine own_via (g' := (mkF m 21 #[.val (.int p1), .val (.int p2), .val (.ref r1), .val (.ref r6), .unset, .unset] [(.ref w_READ), (.ref r6)])) st4 ?_
      refine own_step (g' := (mkF m 24 #[.val (.int p1), .val (.int p2), .val (.ref r1), .val (.ref r6), .unset, .unset] [])) (fun _ k => Jvm.RoadKit.acmp (g := (mkF m 21 #[.val (.int p1), .val (.int p2), .val (.ref r1), .val (.ref r6), .unset, .unset] [(.ref w_READ), (.ref r6)])) X4 hx rfl rfl rfl (pc0 := 21) (pc' := 24) (same := true) rfl (hb hby at_21) rfl (decide_eq_true (congrArg Value.ref qr6)) (by decide) (by decide) k) ?_
      refine own_step (g' := (mkF m 25 #[.val (.int p1), .val (.int p2), .val (.ref r1), .val (.ref r6), .unset, .unset] [(.int (1 : Int32))])) (fun _ k => XS.iconst X4.here hx rfl (hb hby at_24) k) ?_
      refine own_step (g' := (mkF m 29 #[.val (.int p1), .val (.int p2), .val (.ref r1), .val (.ref r6), .unset, .unset] [(.int (1 : Int32))])) (fun _ k => XS.goto X4.here hx rfl (pc0 := 25) (pc' := 29) rfl (hb hby at_25) (by decide) (by decide) k) ?_
      refine own_step (g' := (mkF m 31 #[.val (.int p1), .val (.int p2), .val (.ref r1), .val (.ref r6), .val (.int (1 : Int32)), .unset] [])) (fun _ k => XS.istore X4.here hx rfl (hb hby at_29) rfl (l' := #[.val (.int p1), .val (.int p2), .val (.ref r1), .val (.ref r6), .val (.int (1 : Int32)), .unset]) rfl k) ?_
      refine own_step (g' := (mkF m 33 #[.val (.int p1), .val (.int p2), .val (.ref r1), .val (.ref r6), .val (.int (1 : Int32)), .unset] [(.int (1 : Int32))])) (fun _ k => XS.iload X4.here hx rfl (hb hby at_31) rfl k) ?_
      refine own_step (g' := (mkF m 40 #[.val (.int p1), .val (.int p2), .val (.ref r1), .val (.ref r6), .val (.int (1 : Int32)), .unset] [])) (fun _ k => XS.ifYes X4.here hx rfl (pc0 := 33) (pc' := 40) rfl (hb hby at_33) rfl ((if0 _ _).trans (feq (by decide : ¬ ((1 : Int32) = (0 : Int32)))).2) (by decide) (by decide) k) ?_
      refine own_step (g' := (mkF m 41 #[.val (.int p1), .val (.int p2), .val (.ref r1), .val (.ref r6), .val (.int (1 : Int32)), .unset] [(.int (0 : Int32))])) (fun _ k => XS.iconst X4.here hx rfl (hb hby at_40) k) ?_
      refine own_step (g' := (mkF m 43 #[.val (.int p1), .val (.int p2), .val (.ref r1), .val (.ref r6), .val (.int (1 : Int32)), .val (.int (0 : Int32))] [])) (fun _ k => XS.istore X4.here hx rfl (hb hby at_41) rfl (l' := #[.val (.int p1), .val (.int p2), .val (.ref r1), .val (.ref r6), .val (.int (1 : Int32)), .val (.int (0 : Int32))]) rfl k) ?_
      refine own_step (g' := (mkF m 44 #[.val (.int p1), .val (.int p2), .val (.ref r1), .val (.ref r6), .val (.int (1 : Int32)), .val (.int (0 : Int32))] [(.ref r1)])) (fun _ k => XS.aloadN X4.here hx rfl (hb hby at_43) rfl rfl k) ?_
      refine own_step (g' := (mkF m 45 #[.val (.int p1), .val (.int p2), .val (.ref r1), .val (.ref r6), .val (.int (1 : Int32)), .val (.int (0 : Int32))] [(.ref r6), (.ref r1)])) (fun _ k => XS.aloadN X4.here hx rfl (hb hby at_44) rfl rfl k) ?_
      refine own_callV X4 hx hZ (W := 0) hown e4 (rm2_11 l Z a0 hw [] r1 r6 h0 n0 Z0 Fr1 Fr6) Cr1 (hw _ (List.mem_of_getElem? (i := 10) rfl)) (hw _ (List.mem_of_getElem? (i := 11) rfl)) (notFace_of_selects (args := #[]) (mvT hZ (hw _ (List.mem_of_getElem? (i := 13) rfl)))) (hw _ (List.mem_of_getElem? (i := 13) rfl)) (hw _ (List.mem_of_getElem? (i := 12) rfl)) (hw _ (List.mem_of_getElem? (i := 14) rfl)) (hw _ (List.mem_of_getElem? (i := 6) rfl)) (by decide) (by decide) (by decide) (g := (mkF m 45 #[.val (.int p1), .val (.int p2), .val (.ref r1), .val (.ref r6), .val (.int (1 : Int32)), .val (.int (0 : Int32))] [(.ref r6), (.ref r1)])) rfl (by rw [hml]; rfl) (argsL := [(.ref r6)]) (rest := []) rfl (lenOf pd_1 rfl) rfl (by show 2 * 0 + _ ≤ _; exact Nat.le_of_eq rfl) (hb hby at_45) (by decide) (by decide) ?_
      intro v5 T5 L5 X5 hQ5
      obtain ⟨rfl, rfl, e5⟩ := hQ5
      replace X5 := own_pureX X5
      show OGo p e below _ T5 (mkF m 48 #[.val (.int p1), .val (.int p2), .val (.ref r1), .val (.ref r6), .val (.int (1 : Int32)), .val (.int (0 : Int32))] [(.int (0 : Int32))])
      refine own_step (g' := (mkF m 50 #[.val (.int p1), .val (.int p2), .val (.ref r1), .val (.ref r6), .val (.int (1 : Int32)), .val (.int (0 : Int32))] [(.int (0 : Int32)), (.int (0 : Int32))])) (fun _ k => XS.iload X5.here hx rfl (hb hby at_48) rfl k) ?_
      refine own_step (g' := (mkF m 53 #[.val (.int p1), .val (.int p2), .val (.ref r1), .val (.ref r6), .val (.int (1 : Int32)), .val (.int (0 : Int32))] [])) (fun _ k => XS.icmpNo X5.here hx rfl (hb hby at_50) rfl (teq (by decide : (0 : Int32) = (0 : Int32))).2 k) ?_
      refine own_step (g' := (mkF m 54 #[.val (.int p1), .val (.int p2), .val (.ref r1), .val (.ref r6), .val (.int (1 : Int32)), .val (.int (0 : Int32))] [(.int (1 : Int32))])) (fun _ k => XS.iconst X5.here hx rfl (hb hby at_53) k) ?_
      refine own_step (g' := (mkF m 58 #[.val (.int p1), .val (.int p2), .val (.ref r1), .val (.ref r6), .val (.int (1 : Int32)), .val (.int (0 : Int32))] [(.int (1 : Int32))])) (fun _ k => XS.goto X5.here hx rfl (pc0 := 54) (pc' := 58) rfl (hb hby at_54) (by decide) (by decide) k) ?_
      exact own_retN X5 hx (t := .boolean) hret (by simp) hlk (hb hby at_58) e5 (by exact ⟨rfl, N0⟩) (by decide) (by decide)
    · refine own_step (g' := (mkF m 10 #[.val (.int p1), .val (.int p2), .val (.ref r1), .val (.ref r6), .unset, .unset] [])) (fun _ k => XS.astoreN X2.here hx rfl (hb hby at_9) rfl rfl (l' := #[.val (.int p1), .val (.int p2), .val (.ref r1), .val (.ref r6), .unset, .unset]) rfl k) ?_
      refine own_step (g' := (mkF m 11 #[.val (.int p1), .val (.int p2), .val (.ref r1), .val (.ref r6), .unset, .unset] [(.ref r1)])) (fun _ k => XS.aloadN X2.here hx rfl (hb hby at_10) rfl rfl k) ?_
      obtain ⟨T6, X6, e6, st6⟩ := getS2 X2 hx hZ hown (host := "") (Or.inl (hw _ (List.mem_of_getElem? (i := 8) rfl))) Via.refl e2 S_READ (g := (mkF m 11 #[.val (.int p1), .val (.int p2), .val (.ref r1), .val (.ref r6), .unset, .unset] [(.ref r1)])) rfl (hb hby at_11)
      refine own_via (g' := (mkF m 14 #[.val (.int p1), .val (.int p2), .val (.ref r1), .val (.ref r6), .unset, .unset] [(.ref w_READ), (.ref r1)])) st6 ?_
      refine own_step (g' := (mkF m 17 #[.val (.int p1), .val (.int p2), .val (.ref r1), .val (.ref r6), .unset, .unset] [])) (fun _ k => Jvm.RoadKit.acmp (g := (mkF m 14 #[.val (.int p1), .val (.int p2), .val (.ref r1), .val (.ref r6), .unset, .unset] [(.ref w_READ), (.ref r1)])) X6 hx rfl rfl rfl (pc0 := 14) (pc' := 17) (same := true) rfl (hb hby at_14) rfl (decide_eq_true (congrArg Value.ref qr1)) (by decide) (by decide) k) ?_
      refine own_step (g' := (mkF m 18 #[.val (.int p1), .val (.int p2), .val (.ref r1), .val (.ref r6), .unset, .unset] [(.ref r6)])) (fun _ k => XS.aloadN X6.here hx rfl (hb hby at_17) rfl rfl k) ?_
      obtain ⟨T7, X7, e7, st7⟩ := getS2 X6 hx hZ hown (host := "") (Or.inl (hw _ (List.mem_of_getElem? (i := 8) rfl))) Via.refl e6 S_READ (g := (mkF m 18 #[.val (.int p1), .val (.int p2), .val (.ref r1), .val (.ref r6), .unset, .unset] [(.ref r6)])) rfl (hb hby at_18)
      refine own_via (g' := (mkF m 21 #[.val (.int p1), .val (.int p2), .val (.ref r1), .val (.ref r6), .unset, .unset] [(.ref w_READ), (.ref r6)])) st7 ?_
      refine own_step (g' := (mkF m 28 #[.val (.int p1), .val (.int p2), .val (.ref r1), .val (.ref r6), .unset, .unset] [])) (fun _ k => Jvm.RoadKit.acmp (g := (mkF m 21 #[.val (.int p1), .val (.int p2), .val (.ref r1), .val (.ref r6), .unset, .unset] [(.ref w_READ), (.ref r6)])) X7 hx rfl rfl rfl (pc0 := 21) (pc' := 28) (same := false) rfl (hb hby at_21) rfl (decide_eq_false fun q => qr6 (Value.ref.inj q)) (by decide) (by decide) k) ?_
      refine own_step (g' := (mkF m 29 #[.val (.int p1), .val (.int p2), .val (.ref r1), .val (.ref r6), .unset, .unset] [(.int (0 : Int32))])) (fun _ k => XS.iconst X7.here hx rfl (hb hby at_28) k) ?_
      refine own_step (g' := (mkF m 31 #[.val (.int p1), .val (.int p2), .val (.ref r1), .val (.ref r6), .val (.int (0 : Int32)), .unset] [])) (fun _ k => XS.istore X7.here hx rfl (hb hby at_29) rfl (l' := #[.val (.int p1), .val (.int p2), .val (.ref r1), .val (.ref r6), .val (.int (0 : Int32)), .unset]) rfl k) ?_
      refine own_step (g' := (mkF m 33 #[.val (.int p1), .val (.int p2), .val (.ref r1), .val (.ref r6), .val (.int (0 : Int32)), .unset] [(.int (0 : Int32))])) (fun _ k => XS.iload X7.here hx rfl (hb hby at_31) rfl k) ?_
      refine own_step (g' := (mkF m 36 #[.val (.int p1), .val (.int p2), .val (.ref r1), .val (.ref r6), .val (.int (0 : Int32)), .unset] [])) (fun _ k => XS.ifNo X7.here hx rfl (hb hby at_33) rfl ((if0 _ _).trans (teq (by decide : (0 : Int32) = (0 : Int32))).2) k) ?_
      refine own_step (g' := (mkF m 37 #[.val (.int p1), .val (.int p2), .val (.ref r1), .val (.ref r6), .val (.int (0 : Int32)), .unset] [(.int (1 : Int32))])) (fun _ k => XS.iconst X7.here hx rfl (hb hby at_36) k) ?_
      refine own_step (g' := (mkF m 41 #[.val (.int p1), .val (.int p2), .val (.ref r1), .val (.ref r6), .val (.int (0 : Int32)), .unset] [(.int (1 : Int32))])) (fun _ k => XS.goto X7.here hx rfl (pc0 := 37) (pc' := 41) rfl (hb hby at_37) (by decide) (by decide) k) ?_
      refine own_step (g' := (mkF m 43 #[.val (.int p1), .val (.int p2), .val (.ref r1), .val (.ref r6), .val (.int (0 : Int32)), .val (.int (1 : Int32))] [])) (fun _ k => XS.istore X7.here hx rfl (hb hby at_41) rfl (l' := #[.val (.int p1), .val (.int p2), .val (.ref r1), .val (.ref r6), .val (.int (0 : Int32)), .val (.int (1 : Int32))]) rfl k) ?_
      refine own_step (g' := (mkF m 44 #[.val (.int p1), .val (.int p2), .val (.ref r1), .val (.ref r6), .val (.int (0 : Int32)), .val (.int (1 : Int32))] [(.ref r1)])) (fun _ k => XS.aloadN X7.here hx rfl (hb hby at_43) rfl rfl k) ?_
      refine own_step (g' := (mkF m 45 #[.val (.int p1), .val (.int p2), .val (.ref r1), .val (.ref r6), .val (.int (0 : Int32)), .val (.int (1 : Int32))] [(.ref r6), (.ref r1)])) (fun _ k => XS.aloadN X7.here hx rfl (hb hby at_44) rfl rfl k) ?_
      refine own_callV X7 hx hZ (W := 0) hown e7 (rm2_10 l Z a0 hw [] r1 r6 h0 n0 Z0 Fr1 Fr6) Cr1 (hw _ (List.mem_of_getElem? (i := 10) rfl)) (hw _ (List.mem_of_getElem? (i := 11) rfl)) (notFace_of_selects (args := #[]) (mvT hZ (hw _ (List.mem_of_getElem? (i := 13) rfl)))) (hw _ (List.mem_of_getElem? (i := 13) rfl)) (hw _ (List.mem_of_getElem? (i := 12) rfl)) (hw _ (List.mem_of_getElem? (i := 14) rfl)) (hw _ (List.mem_of_getElem? (i := 6) rfl)) (by decide) (by decide) (by decide) (g := (mkF m 45 #[.val (.int p1), .val (.int p2), .val (.ref r1), .val (.ref r6), .val (.int (0 : Int32)), .val (.int (1 : Int32))] [(.ref r6), (.ref r1)])) rfl (by rw [hml]; rfl) (argsL := [(.ref r6)]) (rest := []) rfl (lenOf pd_1 rfl) rfl (by show 2 * 0 + _ ≤ _; exact Nat.le_of_eq rfl) (hb hby at_45) (by decide) (by decide) ?_
      intro v8 T8 L8 X8 hQ8
      obtain ⟨rfl, rfl, e8⟩ := hQ8
      replace X8 := own_pureX X8
      show OGo p e below _ T8 (mkF m 48 #[.val (.int p1), .val (.int p2), .val (.ref r1), .val (.ref r6), .val (.int (0 : Int32)), .val (.int (1 : Int32))] [(.int (1 : Int32))])
      refine own_step (g' := (mkF m 50 #[.val (.int p1), .val (.int p2), .val (.ref r1), .val (.ref r6), .val (.int (0 : Int32)), .val (.int (1 : Int32))] [(.int (1 : Int32)), (.int (1 : Int32))])) (fun _ k => XS.iload X8.here hx rfl (hb hby at_48) rfl k) ?_
      refine own_step (g' := (mkF m 53 #[.val (.int p1), .val (.int p2), .val (.ref r1), .val (.ref r6), .val (.int (0 : Int32)), .val (.int (1 : Int32))] [])) (fun _ k => XS.icmpNo X8.here hx rfl (hb hby at_50) rfl (teq (by decide : (1 : Int32) = (1 : Int32))).2 k) ?_
      refine own_step (g' := (mkF m 54 #[.val (.int p1), .val (.int p2), .val (.ref r1), .val (.ref r6), .val (.int (0 : Int32)), .val (.int (1 : Int32))] [(.int (1 : Int32))])) (fun _ k => XS.iconst X8.here hx rfl (hb hby at_53) k) ?_
      refine own_step (g' := (mkF m 58 #[.val (.int p1), .val (.int p2), .val (.ref r1), .val (.ref r6), .val (.int (0 : Int32)), .val (.int (1 : Int32))] [(.int (1 : Int32))])) (fun _ k => XS.goto X8.here hx rfl (pc0 := 54) (pc' := 58) rfl (hb hby at_54) (by decide) (by decide) k) ?_
      exact own_retN X8 hx (t := .boolean) hret (by simp) hlk (hb hby at_58) e8 (by exact ⟨rfl, N0⟩) (by decide) (by decide)
  · refine own_step (g' := (mkF m 5 #[.val (.int p1), .val (.int p2), .val (.ref r1), .unset, .unset, .unset] [])) (fun _ k => XS.astoreN X1.here hx rfl (hb hby at_4) rfl rfl (l' := #[.val (.int p1), .val (.int p2), .val (.ref r1), .unset, .unset, .unset]) rfl k) ?_
    refine own_step (g' := (mkF m 6 #[.val (.int p1), .val (.int p2), .val (.ref r1), .unset, .unset, .unset] [(.int p2)])) (fun _ k => XS.iloadN X1.here hx rfl (hb hby at_5) rfl k) ?_
    refine own_callS X1 hx hZ (W := 0) hown e1 (rm1 l Z a0 hw [] p2 w_LOCK w_READ w_WRITE h0 n0 Z0 S_LOCK S_READ S_WRITE C_LOCK F_LOCK C_READ F_READ C_WRITE F_WRITE n_LOCK n_WRITE) (hw _ (List.mem_of_getElem? (i := 0) rfl)) (hw _ (List.mem_of_getElem? (i := 1) rfl)) (hw _ (List.mem_of_getElem? (i := 2) rfl)) (hw _ (List.mem_of_getElem? (i := 3) rfl)) (by decide) (by decide) (by decide) (g := (mkF m 6 #[.val (.int p1), .val (.int p2), .val (.ref r1), .unset, .unset, .unset] [(.int p2)])) rfl (by rw [hml]; rfl) (argsL := [(.int p2)]) (rest := []) rfl (lenOf pd_0 rfl) rfl (by show 2 * 0 + _ ≤ _; exact Nat.le_of_eq rfl) (hb hby at_6) (by decide) (by decide) ?_
    intro v9 T9 L9 X9 hQ9
    obtain ⟨⟨r6, rfl, Cr6, hr6⟩, rfl, e9⟩ := hQ9
    replace X9 := own_pureX X9
    show OGo p e below _ T9 (mkF m 9 #[.val (.int p1), .val (.int p2), .val (.ref r1), .unset, .unset, .unset] [(.ref r6)])
    rcases hr6 with ⟨qr6, Fr6⟩ | ⟨qr6, Fr6⟩
    · refine own_step (g' := (mkF m 10 #[.val (.int p1), .val (.int p2), .val (.ref r1), .val (.ref r6), .unset, .unset] [])) (fun _ k => XS.astoreN X9.here hx rfl (hb hby at_9) rfl rfl (l' := #[.val (.int p1), .val (.int p2), .val (.ref r1), .val (.ref r6), .unset, .unset]) rfl k) ?_
      refine own_step (g' := (mkF m 11 #[.val (.int p1), .val (.int p2), .val (.ref r1), .val (.ref r6), .unset, .unset] [(.ref r1)])) (fun _ k => XS.aloadN X9.here hx rfl (hb hby at_10) rfl rfl k) ?_
      obtain ⟨T10, X10, e10, st10⟩ := getS2 X9 hx hZ hown (host := "") (Or.inl (hw _ (List.mem_of_getElem? (i := 8) rfl))) Via.refl e9 S_READ (g := (mkF m 11 #[.val (.int p1), .val (.int p2), .val (.ref r1), .val (.ref r6), .unset, .unset] [(.ref r1)])) rfl (hb hby at_11)
      refine own_via (g' := (mkF m 14 #[.val (.int p1), .val (.int p2), .val (.ref r1), .val (.ref r6), .unset, .unset] [(.ref w_READ), (.ref r1)])) st10 ?_
      refine own_step (g' := (mkF m 28 #[.val (.int p1), .val (.int p2), .val (.ref r1), .val (.ref r6), .unset, .unset] [])) (fun _ k => Jvm.RoadKit.acmp (g := (mkF m 14 #[.val (.int p1), .val (.int p2), .val (.ref r1), .val (.ref r6), .unset, .unset] [(.ref w_READ), (.ref r1)])) X10 hx rfl rfl rfl (pc0 := 14) (pc' := 28) (same := false) rfl (hb hby at_14) rfl (decide_eq_false fun q => qr1 (Value.ref.inj q)) (by decide) (by decide) k) ?_
      refine own_step (g' := (mkF m 29 #[.val (.int p1), .val (.int p2), .val (.ref r1), .val (.ref r6), .unset, .unset] [(.int (0 : Int32))])) (fun _ k => XS.iconst X10.here hx rfl (hb hby at_28) k) ?_
      refine own_step (g' := (mkF m 31 #[.val (.int p1), .val (.int p2), .val (.ref r1), .val (.ref r6), .val (.int (0 : Int32)), .unset] [])) (fun _ k => XS.istore X10.here hx rfl (hb hby at_29) rfl (l' := #[.val (.int p1), .val (.int p2), .val (.ref r1), .val (.ref r6), .val (.int (0 : Int32)), .unset]) rfl k) ?_
      refine own_step (g' := (mkF m 33 #[.val (.int p1), .val (.int p2), .val (.ref r1), .val (.ref r6), .val (.int (0 : Int32)), .unset] [(.int (0 : Int32))])) (fun _ k => XS.iload X10.here hx rfl (hb hby at_31) rfl k) ?_
      refine own_step (g' := (mkF m 36 #[.val (.int p1), .val (.int p2), .val (.ref r1), .val (.ref r6), .val (.int (0 : Int32)), .unset] [])) (fun _ k => XS.ifNo X10.here hx rfl (hb hby at_33) rfl ((if0 _ _).trans (teq (by decide : (0 : Int32) = (0 : Int32))).2) k) ?_
      refine own_step (g' := (mkF m 37 #[.val (.int p1), .val (.int p2), .val (.ref r1), .val (.ref r6), .val (.int (0 : Int32)), .unset] [(.int (1 : Int32))])) (fun _ k => XS.iconst X10.here hx rfl (hb hby at_36) k) ?_
      refine own_step (g' := (mkF m 41 #[.val (.int p1), .val (.int p2), .val (.ref r1), .val (.ref r6), .val (.int (0 : Int32)), .unset] [(.int (1 : Int32))])) (fun _ k => XS.goto X10.here hx rfl (pc0 := 37) (pc' := 41) rfl (hb hby at_37) (by decide) (by decide) k) ?_
      refine own_step (g' := (mkF m 43 #[.val (.int p1), .val (.int p2), .val (.ref r1), .val (.ref r6), .val (.int (0 : Int32)), .val (.int (1 : Int32))] [])) (fun _ k => XS.istore X10.here hx rfl (hb hby at_41) rfl (l' := #[.val (.int p1), .val (.int p2), .val (.ref r1), .val (.ref r6), .val (.int (0 : Int32)), .val (.int (1 : Int32))]) rfl k) ?_
      refine own_step (g' := (mkF m 44 #[.val (.int p1), .val (.int p2), .val (.ref r1), .val (.ref r6), .val (.int (0 : Int32)), .val (.int (1 : Int32))] [(.ref r1)])) (fun _ k => XS.aloadN X10.here hx rfl (hb hby at_43) rfl rfl k) ?_
      refine own_step (g' := (mkF m 45 #[.val (.int p1), .val (.int p2), .val (.ref r1), .val (.ref r6), .val (.int (0 : Int32)), .val (.int (1 : Int32))] [(.ref r6), (.ref r1)])) (fun _ k => XS.aloadN X10.here hx rfl (hb hby at_44) rfl rfl k) ?_
      refine own_callV X10 hx hZ (W := 0) hown e10 (rm2_0 l Z a0 hw [] r1 r6 h0 n0 Z0 Fr1) Cr1 (hw _ (List.mem_of_getElem? (i := 10) rfl)) (hw _ (List.mem_of_getElem? (i := 11) rfl)) (notFace_of_selects (args := #[]) (mvT hZ (hw _ (List.mem_of_getElem? (i := 13) rfl)))) (hw _ (List.mem_of_getElem? (i := 13) rfl)) (hw _ (List.mem_of_getElem? (i := 12) rfl)) (hw _ (List.mem_of_getElem? (i := 14) rfl)) (hw _ (List.mem_of_getElem? (i := 6) rfl)) (by decide) (by decide) (by decide) (g := (mkF m 45 #[.val (.int p1), .val (.int p2), .val (.ref r1), .val (.ref r6), .val (.int (0 : Int32)), .val (.int (1 : Int32))] [(.ref r6), (.ref r1)])) rfl (by rw [hml]; rfl) (argsL := [(.ref r6)]) (rest := []) rfl (lenOf pd_1 rfl) rfl (by show 2 * 0 + _ ≤ _; exact Nat.le_of_eq rfl) (hb hby at_45) (by decide) (by decide) ?_
      intro v11 T11 L11 X11 hQ11
      obtain ⟨rfl, rfl, e11⟩ := hQ11
      replace X11 := own_pureX X11
      show OGo p e below _ T11 (mkF m 48 #[.val (.int p1), .val (.int p2), .val (.ref r1), .val (.ref r6), .val (.int (0 : Int32)), .val (.int (1 : Int32))] [(.int (1 : Int32))])
      refine own_step (g' := (mkF m 50 #[.val (.int p1), .val (.int p2), .val (.ref r1), .val (.ref r6), .val (.int (0 : Int32)), .val (.int (1 : Int32))] [(.int (1 : Int32)), (.int (1 : Int32))])) (fun _ k => XS.iload X11.here hx rfl (hb hby at_48) rfl k) ?_
      refine own_step (g' := (mkF m 53 #[.val (.int p1), .val (.int p2), .val (.ref r1), .val (.ref r6), .val (.int (0 : Int32)), .val (.int (1 : Int32))] [])) (fun _ k => XS.icmpNo X11.here hx rfl (hb hby at_50) rfl (teq (by decide : (1 : Int32) = (1 : Int32))).2 k) ?_
      refine own_step (g' := (mkF m 54 #[.val (.int p1), .val (.int p2), .val (.ref r1), .val (.ref r6), .val (.int (0 : Int32)), .val (.int (1 : Int32))] [(.int (1 : Int32))])) (fun _ k => XS.iconst X11.here hx rfl (hb hby at_53) k) ?_
      refine own_step (g' := (mkF m 58 #[.val (.int p1), .val (.int p2), .val (.ref r1), .val (.ref r6), .val (.int (0 : Int32)), .val (.int (1 : Int32))] [(.int (1 : Int32))])) (fun _ k => XS.goto X11.here hx rfl (pc0 := 54) (pc' := 58) rfl (hb hby at_54) (by decide) (by decide) k) ?_
      exact own_retN X11 hx (t := .boolean) hret (by simp) hlk (hb hby at_58) e11 (by exact ⟨rfl, N0⟩) (by decide) (by decide)
    · refine own_step (g' := (mkF m 10 #[.val (.int p1), .val (.int p2), .val (.ref r1), .val (.ref r6), .unset, .unset] [])) (fun _ k => XS.astoreN X9.here hx rfl (hb hby at_9) rfl rfl (l' := #[.val (.int p1), .val (.int p2), .val (.ref r1), .val (.ref r6), .unset, .unset]) rfl k) ?_
      refine own_step (g' := (mkF m 11 #[.val (.int p1), .val (.int p2), .val (.ref r1), .val (.ref r6), .unset, .unset] [(.ref r1)])) (fun _ k => XS.aloadN X9.here hx rfl (hb hby at_10) rfl rfl k) ?_
      obtain ⟨T12, X12, e12, st12⟩ := getS2 X9 hx hZ hown (host := "") (Or.inl (hw _ (List.mem_of_getElem? (i := 8) rfl))) Via.refl e9 S_READ (g := (mkF m 11 #[.val (.int p1), .val (.int p2), .val (.ref r1), .val (.ref r6), .unset, .unset] [(.ref r1)])) rfl (hb hby at_11)
      refine own_via (g' := (mkF m 14 #[.val (.int p1), .val (.int p2), .val (.ref r1), .val (.ref r6), .unset, .unset] [(.ref w_READ), (.ref r1)])) st12 ?_
      refine own_step (g' := (mkF m 28 #[.val (.int p1), .val (.int p2), .val (.ref r1), .val (.ref r6), .unset, .unset] [])) (fun _ k => Jvm.RoadKit.acmp (g := (mkF m 14 #[.val (.int p1), .val (.int p2), .val (.ref r1), .val (.ref r6), .unset, .unset] [(.ref w_READ), (.ref r1)])) X12 hx rfl rfl rfl (pc0 := 14) (pc' := 28) (same := false) rfl (hb hby at_14) rfl (decide_eq_false fun q => qr1 (Value.ref.inj q)) (by decide) (by decide) k) ?_
      refine own_step (g' := (mkF m 29 #[.val (.int p1), .val (.int p2), .val (.ref r1), .val (.ref r6), .unset, .unset] [(.int (0 : Int32))])) (fun _ k => XS.iconst X12.here hx rfl (hb hby at_28) k) ?_
      refine own_step (g' := (mkF m 31 #[.val (.int p1), .val (.int p2), .val (.ref r1), .val (.ref r6), .val (.int (0 : Int32)), .unset] [])) (fun _ k => XS.istore X12.here hx rfl (hb hby at_29) rfl (l' := #[.val (.int p1), .val (.int p2), .val (.ref r1), .val (.ref r6), .val (.int (0 : Int32)), .unset]) rfl k) ?_
      refine own_step (g' := (mkF m 33 #[.val (.int p1), .val (.int p2), .val (.ref r1), .val (.ref r6), .val (.int (0 : Int32)), .unset] [(.int (0 : Int32))])) (fun _ k => XS.iload X12.here hx rfl (hb hby at_31) rfl k) ?_
      refine own_step (g' := (mkF m 36 #[.val (.int p1), .val (.int p2), .val (.ref r1), .val (.ref r6), .val (.int (0 : Int32)), .unset] [])) (fun _ k => XS.ifNo X12.here hx rfl (hb hby at_33) rfl ((if0 _ _).trans (teq (by decide : (0 : Int32) = (0 : Int32))).2) k) ?_
      refine own_step (g' := (mkF m 37 #[.val (.int p1), .val (.int p2), .val (.ref r1), .val (.ref r6), .val (.int (0 : Int32)), .unset] [(.int (1 : Int32))])) (fun _ k => XS.iconst X12.here hx rfl (hb hby at_36) k) ?_
      refine own_step (g' := (mkF m 41 #[.val (.int p1), .val (.int p2), .val (.ref r1), .val (.ref r6), .val (.int (0 : Int32)), .unset] [(.int (1 : Int32))])) (fun _ k => XS.goto X12.here hx rfl (pc0 := 37) (pc' := 41) rfl (hb hby at_37) (by decide) (by decide) k) ?_
      refine own_step (g' := (mkF m 43 #[.val (.int p1), .val (.int p2), .val (.ref r1), .val (.ref r6), .val (.int (0 : Int32)), .val (.int (1 : Int32))] [])) (fun _ k => XS.istore X12.here hx rfl (hb hby at_41) rfl (l' := #[.val (.int p1), .val (.int p2), .val (.ref r1), .val (.ref r6), .val (.int (0 : Int32)), .val (.int (1 : Int32))]) rfl k) ?_
      refine own_step (g' := (mkF m 44 #[.val (.int p1), .val (.int p2), .val (.ref r1), .val (.ref r6), .val (.int (0 : Int32)), .val (.int (1 : Int32))] [(.ref r1)])) (fun _ k => XS.aloadN X12.here hx rfl (hb hby at_43) rfl rfl k) ?_
      refine own_step (g' := (mkF m 45 #[.val (.int p1), .val (.int p2), .val (.ref r1), .val (.ref r6), .val (.int (0 : Int32)), .val (.int (1 : Int32))] [(.ref r6), (.ref r1)])) (fun _ k => XS.aloadN X12.here hx rfl (hb hby at_44) rfl rfl k) ?_
      refine own_callV X12 hx hZ (W := 0) hown e12 (rm2_0 l Z a0 hw [] r1 r6 h0 n0 Z0 Fr1) Cr1 (hw _ (List.mem_of_getElem? (i := 10) rfl)) (hw _ (List.mem_of_getElem? (i := 11) rfl)) (notFace_of_selects (args := #[]) (mvT hZ (hw _ (List.mem_of_getElem? (i := 13) rfl)))) (hw _ (List.mem_of_getElem? (i := 13) rfl)) (hw _ (List.mem_of_getElem? (i := 12) rfl)) (hw _ (List.mem_of_getElem? (i := 14) rfl)) (hw _ (List.mem_of_getElem? (i := 6) rfl)) (by decide) (by decide) (by decide) (g := (mkF m 45 #[.val (.int p1), .val (.int p2), .val (.ref r1), .val (.ref r6), .val (.int (0 : Int32)), .val (.int (1 : Int32))] [(.ref r6), (.ref r1)])) rfl (by rw [hml]; rfl) (argsL := [(.ref r6)]) (rest := []) rfl (lenOf pd_1 rfl) rfl (by show 2 * 0 + _ ≤ _; exact Nat.le_of_eq rfl) (hb hby at_45) (by decide) (by decide) ?_
      intro v13 T13 L13 X13 hQ13
      obtain ⟨rfl, rfl, e13⟩ := hQ13
      replace X13 := own_pureX X13
      show OGo p e below _ T13 (mkF m 48 #[.val (.int p1), .val (.int p2), .val (.ref r1), .val (.ref r6), .val (.int (0 : Int32)), .val (.int (1 : Int32))] [(.int (1 : Int32))])
      refine own_step (g' := (mkF m 50 #[.val (.int p1), .val (.int p2), .val (.ref r1), .val (.ref r6), .val (.int (0 : Int32)), .val (.int (1 : Int32))] [(.int (1 : Int32)), (.int (1 : Int32))])) (fun _ k => XS.iload X13.here hx rfl (hb hby at_48) rfl k) ?_
      refine own_step (g' := (mkF m 53 #[.val (.int p1), .val (.int p2), .val (.ref r1), .val (.ref r6), .val (.int (0 : Int32)), .val (.int (1 : Int32))] [])) (fun _ k => XS.icmpNo X13.here hx rfl (hb hby at_50) rfl (teq (by decide : (1 : Int32) = (1 : Int32))).2 k) ?_
      refine own_step (g' := (mkF m 54 #[.val (.int p1), .val (.int p2), .val (.ref r1), .val (.ref r6), .val (.int (0 : Int32)), .val (.int (1 : Int32))] [(.int (1 : Int32))])) (fun _ k => XS.iconst X13.here hx rfl (hb hby at_53) k) ?_
      refine own_step (g' := (mkF m 58 #[.val (.int p1), .val (.int p2), .val (.ref r1), .val (.ref r6), .val (.int (0 : Int32)), .val (.int (1 : Int32))] [(.int (1 : Int32))])) (fun _ k => XS.goto X13.here hx rfl (pc0 := 54) (pc' := 58) rfl (hb hby at_54) (by decide) (by decide) k) ?_
      exact own_retN X13 hx (t := .boolean) hret (by simp) hlk (hb hby at_58) e13 (by exact ⟨rfl, N0⟩) (by decide) (by decide)
set_option maxRecDepth 65536 in
set_option maxHeartbeats 40000000 in
theorem comes_1 {Post : Tables → Env → Array Value → State → Outcome → State → Prop} (hpost : ∀ tb e args s v u, (limb_1_1.after args s (.returned v) u = true ∧ limb_1_2.after args s (.returned v) u = true ∧ True) → FrameEnd s (.returned v) u (Jvm.fieldLocs frame_1_writes args s ++ Jvm.arrayLocs frame_1_arrays args s ++ Jvm.staticLocs frame_1_statics s) 0 0 → Post tb e args s (.returned v) u) :
    ArmFor flags0 classFile x code maxLocals ret World_1 tables_1 room_1 Calls_1 rest_1 Pre_1 Post := by
  intro l hfl _ _ p e ha hc hk s m args below hf hA hF happ hP
  obtain ⟨hcalls, hrest, hpre⟩ := hP
  obtain ⟨-, -, -, hnamed, -, -, -, hat⟩ := (Spec.applies_iff hf).mp happ
  obtain ⟨hg, hn⟩ := and_e (Cond.before_iff.mp (show (Jvm.Cond.and given_1 narrow_1).before args s = true from hpre))
  obtain ⟨g1, g2⟩ := and_e hg
  obtain ⟨g3, g4⟩ := and_e g2
  obtain ⟨w0, w1, rfl⟩ : ∃ w0 w1 : Value, args = #[w0, w1] := by
    have hs : args.size = 2 := by simpa [Cond.value, given_1] using g1
    obtain ⟨L⟩ := args
    match L, hs with
    | [w0, w1], _ => exact ⟨w0, w1, rfl⟩
  have hw := fun d (hd : d ∈ tables_1) => atoms_spec (ws := Jvm.Cond.code x code maxLocals ret :: tables_1) hat d (List.mem_cons_of_mem _ hd)
  have hfit : Fit s := fun {y c} hc i hi => by
    obtain ⟨ha, rfl⟩ := Array.getElem?_eq_some_iff.mp hc
    have q := List.all_eq_true.mp ((Array.all_eq_true_iff_forall_mem.mp hF) _ (Array.getElem_mem ha)) i (List.mem_range.mpr hi)
    simpa [Array.getElem?_eq_getElem hi] using q
  obtain ⟨i0, ei0⟩ := is_v g3
  obtain rfl : w0 = (.int i0) := Option.some.inj ei0
  obtain ⟨i1, ei1⟩ := is_v g4
  obtain rfl : w1 = (.int i1) := Option.some.inj ei1
  obtain ⟨g5, g6⟩ := and_e hn
  obtain ⟨g7, g8⟩ := and_e g6
  obtain ⟨g9, g10⟩ := and_e g8
  obtain ⟨g11, g12⟩ := and_e g10
  obtain ⟨g13, g14⟩ := and_e g12
  obtain ⟨g15, g16⟩ := and_e g14
  obtain ⟨g17, g18⟩ := and_e g16
  obtain ⟨g19, g20⟩ := and_e g18
  obtain ⟨w_LOCK, ev_LOCK⟩ := exa_v g5
  have S_LOCK := Sta.start ev_LOCK (Or.inr ⟨(hw _ (List.mem_of_getElem? (i := 6) rfl)), (hw _ (List.mem_of_getElem? (i := 7) rfl))⟩)
  have C_LOCK := Exa.start ev_LOCK g5
  obtain ⟨w_READ, ev_READ⟩ := exa_v g7
  have S_READ := Sta.start ev_READ (Or.inr ⟨(hw _ (List.mem_of_getElem? (i := 6) rfl)), (hw _ (List.mem_of_getElem? (i := 9) rfl))⟩)
  have C_READ := Exa.start ev_READ g7
  obtain ⟨w_WRITE, ev_WRITE⟩ := exa_v g15
  have S_WRITE := Sta.start ev_WRITE (Or.inr ⟨(hw _ (List.mem_of_getElem? (i := 6) rfl)), (hw _ (List.mem_of_getElem? (i := 18) rfl))⟩)
  have C_WRITE := Exa.start ev_WRITE g15
  have O_LOCK := own_fldI ev_LOCK g9
  have O_READ := own_fldI ev_READ g11
  have F_LOCK := own_fldI ev_LOCK g13
  have O_WRITE := own_fldI ev_WRITE g17
  have F_WRITE := own_fldI ev_WRITE g19
  have F_READ := own_fldI ev_READ g20
  have n_LOCK : ¬ (w_LOCK = w_READ) := Fld.ne O_LOCK O_READ (by decide)
  have n_WRITE : ¬ (w_WRITE = w_READ) := Fld.ne O_WRITE O_READ (by decide)
  obtain ⟨n, o, h1, h2, h3, _, L, rfl, ⟨rfl, N⟩, hq⟩ := rm0 l s _ hw tables_1 i0 i1 w_LOCK w_READ w_WRITE s.heap s.heap.size (Nat.le_refl _) S_LOCK S_READ S_WRITE C_LOCK F_LOCK C_READ F_READ C_WRITE F_WRITE n_LOCK n_WRITE p e ha hc hk s m _ below hf ((Spec.applies_iff_loose hf).mp happ).1 ⟨rfl, State.Warmed39.refl s, rfl⟩ trivial
  refine ⟨n, _, h1, h2, h3, hpost _ _ _ _ _ _ ⟨Cond.after_iff.mpr rfl, Cond.after_iff.mpr (eq_i res_at (Term.int_eval (1)) rfl), trivial⟩ ⟨hq.1, hq.2.1, (hq.2.2.sift fun y hy => Or.inr (N y hy)).mono (by decide) (by decide)⟩⟩
theorem main_1_1 : Claimed_1_1 := comes_1 fun _ _ _ _ _ _ h hF => ⟨h.1, hF⟩
theorem main_1_2 : Claimed_1_2 := comes_1 fun _ _ _ _ _ _ h hF => ⟨h.2.1, hF⟩
end Jvm.Pilot.@@N@@
namespace Jvm.Pilot.@@N@@
open Jvm Jvm.ClassFile Sem Op Lib Jvm.Free Jvm.Stand Jvm.Pilot.@@N@@.Jvm.D
/-! MADE BY PROGRAM (witnessworld.py) out of the Statement's table words and the real class files: 12 classes; the members and pool entries that the words name. The judged class is class 1, her method 2. -/
namespace start1
open Jvm.ClassFile
def u (s : String) : CpInfo := .utf8 (stringToUtf16 s)
/-- a pool by its gaps: so many unusable entries, then the entry; so many at the end -/
def gap : Nat → List CpInfo → List CpInfo
  | 0, r => r
  | n + 1, r => .unusable :: gap n r
def poolList (es : List (Nat × CpInfo)) (last : Nat) : List CpInfo := es.foldr (fun e r => gap e.1 (e.2 :: r)) (gap last [])
def pool (es : List (Nat × CpInfo)) (last : Nat) : Array CpInfo := ⟨poolList es last⟩
def fileOf (pool : Array CpInfo) (this : Nat) (attrs : Array Attribute := #[]) (ms : Array MethodInfo := #[]) (fl : Nat := 33) (sup : Nat := 0) (ifs : Array Nat := #[]) (fds : Array FieldInfo := #[]) : ClassFile where
  minorVersion := 0
  majorVersion := 65
  constantPool := pool
  accessFlags := fl
  thisClass := this
  superClass := sup
  interfaces := ifs
  fields := fds
  methods := ms
  attributes := attrs
def plain (name : String) (sup : Option ClassId) : Class where
  name := name
  kind := .ordinary
  loader := none
  accessFlags := 33
  super := sup
  interfaces := #[]
  cf := none
  fields := #[]
  methods := #[]
  instanceTypes := #[]
  staticTypes := #[]
  resolved := #[]
  callSites := []
  init := .initialized
  statics := none
  mirror := none

def pool0 : Array CpInfo := pool [(5, u "<init>"), (0, u "()V"), (1, .class_ 10), (1, u "java/lang/Object")] 113

def k0m0 : Method := { name := "<init>", desc := "()V", sig := { parameters := [], returnType := none }, accessFlags := 1, code := none }
/-- java/lang/Object -/
def k0 : Class := { plain "java/lang/Object" none with
  accessFlags := 33
  interfaces := #[]
  cf := some (fileOf pool0 8 #[] #[{ accessFlags := 1, nameIndex := 5, descriptorIndex := 6, attributes := #[] }] 33 0 #[] #[])
  fields := #[]
  methods := #[k0m0]
  instanceTypes := #[]
  staticTypes := #[]
  resolved := Array.replicate 124 none
  statics := none }

def pool1 : Array CpInfo := pool [(2, .class_ 4), (1, u "java/lang/Object"), (0, u "<init>"), (0, u "()V"), (0, .integer 2147483647), (0, .fieldref 9 10), (0, .class_ 11), (0, .nameAndType 12 13), (0, u "com/example/langouste/langouste/LockNodeName$Kind"), (0, u "LOCK"), (0, u "Lcom/example/langouste/langouste/LockNodeName$Kind;"), (0, .fieldref 9 15), (0, .nameAndType 16 13), (0, u "READ"), (0, .fieldref 9 18), (0, .nameAndType 19 13), (0, u "WRITE"), (0, .methodref 21 22), (0, .class_ 23), (0, .nameAndType 24 25), (0, u "com/example/langouste/langouste/KindWaitsForPinLaw"), (0, u "pick"), (0, u "(I)Lcom/example/langouste/langouste/LockNodeName$Kind;"), (0, .methodref 9 27), (0, .nameAndType 28 29), (0, u "waitsFor"), (0, u "(Lcom/example/langouste/langouste/LockNodeName$Kind;)Z"), (3, u "law"), (0, u "(II)Z")] 6

def k1m0 : Method := { name := "<init>", desc := "()V", sig := { parameters := [], returnType := none }, accessFlags := 2, code := none }
def k1c1 : Code := { maxStack := 2, maxLocals := 2, code := method_2_code, exceptionTable := #[], attributes := #[] }
def k1m1 : Method := { name := "pick", desc := "(I)Lcom/example/langouste/langouste/LockNodeName$Kind;", sig := { parameters := [.int], returnType := some (.object "com/example/langouste/langouste/LockNodeName$Kind") }, accessFlags := 10, code := some k1c1 }
def k1c2 : Code := { maxStack := 2, maxLocals := 6, code := code, exceptionTable := #[], attributes := #[] }
def k1m2 : Method := { name := "law", desc := "(II)Z", sig := { parameters := [.int, .int], returnType := some .boolean }, accessFlags := 9, code := some k1c2 }
/-- com/example/langouste/langouste/KindWaitsForPinLaw -/
def k1 : Class := { plain "com/example/langouste/langouste/KindWaitsForPinLaw" (some 0) with
  accessFlags := 49
  interfaces := #[]
  cf := some (fileOf pool1 21 #[] #[{ accessFlags := 2, nameIndex := 5, descriptorIndex := 6, attributes := #[] }, { accessFlags := 10, nameIndex := 24, descriptorIndex := 25, attributes := #[] }, { accessFlags := 9, nameIndex := 33, descriptorIndex := 34, attributes := #[] }] 49 2 #[] #[])
  fields := #[]
  methods := #[k1m0, k1m1, k1m2]
  instanceTypes := #[]
  staticTypes := #[]
  resolved := Array.replicate 41 none
  statics := none }

def pool2 : Array CpInfo := pool [(1, .class_ 2), (0, u "java/lang/constant/Constable"), (0, .class_ 4), (0, u "java/lang/Object")] 6

/-- java/lang/constant/Constable -/
def k2 : Class := { plain "java/lang/constant/Constable" (some 0) with
  accessFlags := 1537
  interfaces := #[]
  cf := some (fileOf pool2 1 #[] #[] 1537 3 #[] #[])
  fields := #[]
  methods := #[]
  instanceTypes := #[]
  staticTypes := #[]
  resolved := Array.replicate 11 none
  statics := none }

def pool3 : Array CpInfo := pool [(1, .class_ 2), (0, u "java/lang/Comparable"), (0, .class_ 4), (0, u "java/lang/Object")] 7

/-- java/lang/Comparable -/
def k3 : Class := { plain "java/lang/Comparable" (some 0) with
  accessFlags := 1537
  interfaces := #[]
  cf := some (fileOf pool3 1 #[] #[] 1537 3 #[] #[])
  fields := #[]
  methods := #[]
  instanceTypes := #[]
  staticTypes := #[]
  resolved := Array.replicate 12 none
  statics := none }

def pool4 : Array CpInfo := pool [(1, .class_ 2), (0, u "java/io/Serializable"), (0, .class_ 4), (0, u "java/lang/Object")] 2

/-- java/io/Serializable -/
def k4 : Class := { plain "java/io/Serializable" (some 0) with
  accessFlags := 1537
  interfaces := #[]
  cf := some (fileOf pool4 1 #[] #[] 1537 3 #[] #[])
  fields := #[]
  methods := #[]
  instanceTypes := #[]
  staticTypes := #[]
  resolved := Array.replicate 7 none
  statics := none }

def pool5 : Array CpInfo := pool [(2, .class_ 4), (1, u "java/lang/Enum"), (0, u "name"), (0, u "Ljava/lang/String;"), (2, u "ordinal"), (0, u "I"), (1, .class_ 14), (1, u "java/lang/Object"), (4, u "hash"), (86, .class_ 108), (1, u "java/lang/Enum$EnumDesc"), (2, .class_ 112), (0, u "java/lang/constant/Constable"), (0, .class_ 114), (0, u "java/lang/Comparable"), (0, .class_ 116), (0, u "java/io/Serializable")] 87

/-- java/lang/Enum -/
def k5 : Class := { plain "java/lang/Enum" (some 0) with
  accessFlags := 1057
  interfaces := #[2, 3, 4]
  cf := some (fileOf pool5 2 #[.nestMembers #[106]] #[] 1057 12 #[111, 113, 115] #[{ accessFlags := 18, nameIndex := 5, descriptorIndex := 6, attributes := #[] }, { accessFlags := 18, nameIndex := 9, descriptorIndex := 10, attributes := #[] }, { accessFlags := 2, nameIndex := 19, descriptorIndex := 10, attributes := #[] }])
  fields := #[{ name := "name", type := (.object "java/lang/String"), accessFlags := 18, slot := 0, constantValue := 0 }, { name := "ordinal", type := .int, accessFlags := 18, slot := 1, constantValue := 0 }, { name := "hash", type := .int, accessFlags := 2, slot := 2, constantValue := 0 }]
  methods := #[]
  instanceTypes := #[(.object "java/lang/String"), .int, .int]
  staticTypes := #[]
  resolved := Array.replicate 204 none
  statics := none }

def pool6 : Array CpInfo := pool [(1, .class_ 2), (0, u "com/example/langouste/langouste/LockNodeName$Kind"), (2, u "LOCK"), (0, u "Lcom/example/langouste/langouste/LockNodeName$Kind;"), (2, u "READ"), (2, u "WRITE"), (2, u "$VALUES"), (0, u "[Lcom/example/langouste/langouste/LockNodeName$Kind;"), (6, .class_ 25), (1, u "java/lang/Enum"), (8, u "marker"), (0, u "Ljava/lang/String;"), (0, .fieldref 1 37), (0, .nameAndType 38 39), (0, u "shared"), (0, u "Z"), (24, u "waitsFor"), (0, u "(Lcom/example/langouste/langouste/LockNodeName$Kind;)Z"), (7, .class_ 74), (0, u "com/example/langouste/langouste/LockNodeName")] 2

def k6c0 : Code := { maxStack := 1, maxLocals := 2, code := prog_3_method_5_code, exceptionTable := #[], attributes := #[] }
def k6m0 : Method := { name := "waitsFor", desc := "(Lcom/example/langouste/langouste/LockNodeName$Kind;)Z", sig := { parameters := [(.object "com/example/langouste/langouste/LockNodeName$Kind")], returnType := some .boolean }, accessFlags := 0, code := some k6c0 }
/-- com/example/langouste/langouste/LockNodeName$Kind -/
def k6 : Class := { plain "com/example/langouste/langouste/LockNodeName$Kind" (some 5) with
  accessFlags := 16432
  interfaces := #[]
  cf := some (fileOf pool6 1 #[.nestHost 73] #[{ accessFlags := 0, nameIndex := 64, descriptorIndex := 65, attributes := #[] }] 16432 23 #[] #[{ accessFlags := 16409, nameIndex := 5, descriptorIndex := 6, attributes := #[] }, { accessFlags := 16409, nameIndex := 9, descriptorIndex := 6, attributes := #[] }, { accessFlags := 16409, nameIndex := 12, descriptorIndex := 6, attributes := #[] }, { accessFlags := 18, nameIndex := 34, descriptorIndex := 35, attributes := #[] }, { accessFlags := 18, nameIndex := 38, descriptorIndex := 39, attributes := #[] }, { accessFlags := 4122, nameIndex := 15, descriptorIndex := 16, attributes := #[] }])
  fields := #[{ name := "LOCK", type := (.object "com/example/langouste/langouste/LockNodeName$Kind"), accessFlags := 16409, slot := 0, constantValue := 0 }, { name := "READ", type := (.object "com/example/langouste/langouste/LockNodeName$Kind"), accessFlags := 16409, slot := 1, constantValue := 0 }, { name := "WRITE", type := (.object "com/example/langouste/langouste/LockNodeName$Kind"), accessFlags := 16409, slot := 2, constantValue := 0 }, { name := "marker", type := (.object "java/lang/String"), accessFlags := 18, slot := 3, constantValue := 0 }, { name := "shared", type := .boolean, accessFlags := 18, slot := 4, constantValue := 0 }, { name := "$VALUES", type := (.array (.object "com/example/langouste/langouste/LockNodeName$Kind")), accessFlags := 4122, slot := 3, constantValue := 0 }]
  methods := #[k6m0]
  instanceTypes := #[(.object "java/lang/String"), .int, .int, (.object "java/lang/String"), .boolean]
  staticTypes := #[(.object "com/example/langouste/langouste/LockNodeName$Kind"), (.object "com/example/langouste/langouste/LockNodeName$Kind"), (.object "com/example/langouste/langouste/LockNodeName$Kind"), (.array (.object "com/example/langouste/langouste/LockNodeName$Kind"))]
  resolved := Array.replicate 77 none
  statics := some 0 }

def pool7 : Array CpInfo := pool [(1, u "java/lang/Cloneable"), (0, .class_ 1), (0, u "java/lang/Object"), (0, .class_ 3)] 3

/-- java/lang/Cloneable -/
def k7 : Class := { plain "java/lang/Cloneable" (some 0) with
  accessFlags := 1537
  interfaces := #[]
  cf := some (fileOf pool7 2 #[] #[] 1537 4 #[] #[])
  fields := #[]
  methods := #[]
  instanceTypes := #[]
  staticTypes := #[]
  resolved := Array.replicate 8 none
  statics := none }

/-- the primitive byte -/
def k8 : Class := { plain "byte" none with kind := .primitive 'B', accessFlags := 0x411 }
/-- [B -/
def k9 : Class := { plain "[B" (some 0) with kind := .array 8 .byte, interfaces := #[7, 4], accessFlags := 1041 }

/-- the primitive int -/
def k10 : Class := { plain "int" none with kind := .primitive 'I', accessFlags := 0x411 }
/-- [I -/
def k11 : Class := { plain "[I" (some 0) with kind := .array 10 .int, interfaces := #[7, 4], accessFlags := 1041 }

def heap : Heap := #[{ cls := 6, slots := #[.ref 1, .ref 2, .ref 3, .null], vm := .statics 6 },
  { cls := 6, slots := #[.null, .int 0, .int 0, .null, .int 0], vm := .none },
  { cls := 6, slots := #[.null, .int 1, .int 0, .null, .int 1], vm := .none },
  { cls := 6, slots := #[.null, .int 2, .int 0, .null, .int 0], vm := .none }]
def classes : Array Class := #[k0, k1, k2, k3, k4, k5, k6, k7, k8, k9, k10, k11]
def interned : List (Array UInt16 × Addr) := []
def slotsUsed : Nat := 19
def theMethod : MethodId := ⟨1, 2⟩
def args0 : Array Value := #[.int 5, .int 5]
def aboutOver (below : List Frame) : State where
  vm := { classes := classes, interned := interned.toArray }
  heap := heap
  slotsUsed := slotsUsed
  threads := #[{ frames := .invoking theMethod args0 :: below }]
def below0 : List Frame := [.native { method := ⟨0, 0⟩, args := #[] }]
def about1 : State := aboutOver below0
def p0 : Program := .bare "" "" ""
def e0 : Env := launch0.env 0 0 0
theorem w_frames : about1.frames = Frame.invoking theMethod args0 :: below0 := rfl
set_option maxRecDepth 65536 in
theorem w_args : argsFit about1.vm theMethod args0 = true := by decide +kernel
set_option maxRecDepth 65536 in
theorem w_heap : heapFits about1 = true := by decide +kernel
set_option maxRecDepth 65536 in
theorem w_runnable : about1.curStatus? = some .runnable := by decide +kernel
set_option maxRecDepth 65536 in
theorem w_alone : about1.alone = true := by decide +kernel
set_option maxRecDepth 65536 in
theorem w_named : about1.methodNamed? x = some theMethod := by decide +kernel
set_option maxRecDepth 65536 in
theorem w_hears : about1.hears theMethod below0 = true := by decide +kernel
set_option maxRecDepth 65536 in
theorem w_ripe : about1.ripe theMethod args0 below0 = true := by decide +kernel
theorem w_running : about1.status = .running := rfl
set_option maxRecDepth 65536 in
theorem w_room : about1.hasRoom e0.platform room_1 = true :=
  launch0.hasRoom_least _ room_1 (by decide +kernel) (by decide +kernel) (by decide +kernel) (by decide +kernel) (by decide +kernel) (by decide +kernel)
theorem allAtoms_all (ts : List Jvm.Cond) (a : Array Jvm.Value) (st : Jvm.State) : (allAtoms ts).before a st = ts.all (fun c => c.before a st) := by
  induction ts with
  | nil => rfl
  | cons c t ih =>
    show (Jvm.Cond.and c (allAtoms t)).before a st = _
    rw [Jvm.Cond.before_and, ih, List.all_cons]
def words1 : List Jvm.Cond := Jvm.Cond.code x code maxLocals ret :: tables_1
/-- a 'code' word, met by the world's own term for the bytes: nothing is compared byte by byte -/
theorem code_word {y : MethodName} {bytes : ByteArray} {mx : Nat} {rt : Option FieldType} {a : Array Value} {s : State} {m : MethodId} {meth : Method} {c : Code} (h1 : s.methodNamed? y = some m) (h2 : s.vm.method? m = some meth) (h3 : meth.code = some c) (h4 : c.code = bytes)
    (h5 : (c.maxLocals == mx && c.exceptionTable.isEmpty && decide (c.maxStack ≤ mostOperands) && decide (meth.sig.returnType = rt) && !meth.locks && decide (parseMethodDescriptor y.desc = some meth.sig)) = true) : (Jvm.Cond.code y bytes mx rt).before a s = true := by
  simp only [Bool.and_eq_true, beq_iff_eq, Bool.not_eq_true', decide_eq_true_eq] at h5
  obtain ⟨⟨⟨⟨⟨g1, g2⟩, g3⟩, g4⟩, g5⟩, g6⟩ := h5
  simp [Cond.before, Cond.holds, Cond.value, h1, h2, h3, h4, g1, g2, g3, g4, g5, g6]
def isCode : Jvm.Cond → Bool
  | .code _ _ _ _ => true
  | _ => false
theorem all_split {L : List Jvm.Cond} {P : Jvm.Cond → Bool} (h1 : L.all (fun c => isCode c || P c) = true) (h2 : ∀ c ∈ L.filter isCode, P c = true) : L.all P = true := by
  refine List.all_eq_true.mpr fun c hc => ?_
  have h := List.all_eq_true.mp h1 c hc
  rcases Bool.eq_false_or_eq_true (isCode c) with hi | hi
  · exact h2 c (List.mem_filter.mpr ⟨hc, hi⟩)
  · simpa [hi] using h
set_option maxRecDepth 65536 in
theorem w_c0 : (Jvm.Cond.code x code maxLocals ret).before args0 about1 = true := code_word (m := ⟨1, 2⟩) (meth := k1m2) (c := k1c2) (by decide +kernel) rfl rfl rfl (by decide +kernel)
set_option maxRecDepth 65536 in
theorem w_c1 : (Jvm.Cond.code ({ cls := "com/example/langouste/langouste/KindWaitsForPinLaw", name := "pick", desc := "(I)Lcom/example/langouste/langouste/LockNodeName$Kind;" } : Jvm.MethodName) method_2_code (2 : Nat) (Option.some (Jvm.ClassFile.FieldType.object "com/example/langouste/langouste/LockNodeName$Kind"))).before args0 about1 = true := code_word (m := ⟨1, 1⟩) (meth := k1m1) (c := k1c1) (by decide +kernel) rfl rfl rfl (by decide +kernel)
set_option maxRecDepth 65536 in
theorem w_c2 : (Jvm.Cond.code ({ cls := "com/example/langouste/langouste/LockNodeName$Kind", name := "waitsFor", desc := "(Lcom/example/langouste/langouste/LockNodeName$Kind;)Z" } : Jvm.MethodName) prog_3_method_5_code (2 : Nat) (Option.some Jvm.ClassFile.FieldType.boolean)).before args0 about1 = true := code_word (m := ⟨6, 0⟩) (meth := k6m0) (c := k6c0) (by decide +kernel) rfl rfl rfl (by decide +kernel)
def codes1 : List Jvm.Cond := [Jvm.Cond.code x code maxLocals ret, Jvm.Cond.code ({ cls := "com/example/langouste/langouste/KindWaitsForPinLaw", name := "pick", desc := "(I)Lcom/example/langouste/langouste/LockNodeName$Kind;" } : Jvm.MethodName) method_2_code (2 : Nat) (Option.some (Jvm.ClassFile.FieldType.object "com/example/langouste/langouste/LockNodeName$Kind")), Jvm.Cond.code ({ cls := "com/example/langouste/langouste/LockNodeName$Kind", name := "waitsFor", desc := "(Lcom/example/langouste/langouste/LockNodeName$Kind;)Z" } : Jvm.MethodName) prog_3_method_5_code (2 : Nat) (Option.some Jvm.ClassFile.FieldType.boolean)]
set_option maxRecDepth 65536 in
theorem codes_eq : words1.filter isCode = codes1 := rfl
theorem w_codes : ∀ c ∈ words1.filter isCode, c.before args0 about1 = true := by
  rw [codes_eq]
  intro c hc
  simp only [codes1, List.mem_cons, List.not_mem_nil, or_false] at hc
  rcases hc with rfl | rfl | rfl
  · exact w_c0
  · exact w_c1
  · exact w_c2
set_option maxRecDepth 65536 in
theorem w_t1 : words1.all (fun c => isCode c || c.before args0 about1) = true := by decide +kernel
theorem w_tables : (allAtoms (Jvm.Cond.code x code maxLocals ret :: tables_1)).before args0 about1 = true := by
  rw [allAtoms_all]
  show words1.all (fun c => c.before args0 about1) = true
  refine all_split ?_ w_codes
  rw [w_t1]
set_option maxRecDepth 65536 in
theorem w_case : (Jvm.Cond.and given_1 narrow_1).before args0 about1 = true := by decide +kernel
theorem w_applies : (headSpec (Jvm.Cond.code x code maxLocals ret :: tables_1) room_1).applies x e0.platform about1 = true :=
  (Spec.applies_iff w_frames).mpr ⟨w_running, w_runnable, w_alone, w_named, w_hears, w_ripe, w_room, w_tables⟩
theorem atStart : AtStart classFile x code maxLocals ret World_1 tables_1 room_1 Calls_1 rest_1 Pre_1 launch0 p0 e0 about1 theMethod args0 below0 :=
  ⟨lists_1, trivial, launch0.admits_env _ _ _, launch0.least_env, fairChoices_fair.cas, fairChoices_fair.clock, w_frames, w_args, w_heap, w_applies, trivial, trivial, w_case⟩
end start1
theorem witness_1 : WitnessClaimed_1 := ⟨start1.p0, start1.e0, start1.about1, start1.theMethod, start1.args0, start1.below0, start1.atStart⟩
end Jvm.Pilot.@@N@@
