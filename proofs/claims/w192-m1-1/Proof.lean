import JvmDerived
import JvmDerived.Pilot.@@N@@Statement
import JvmDerived.Pilot.@@N@@Code
set_option linter.unusedVariables false
set_option linter.unusedSimpArgs false
namespace Jvm.RoadKit
open Sem ClassFile Op Lib Jvm.Stand Jvm.Free Jvm.LawKit
section OwnKit
variable {p : Program} {l : Launch} {e : Env} {R : Room} {s : State} {m : MethodId} {args : Array Value} {below : List Frame} {meth : Method} {c : Code} {T : State} {locs : List Loc} {cells slots : Nat}
theorem retI (X : Stand p l e R s m args below meth c T locs cells slots) (hx : p.tables.exec = Jvm.exec) {pc : Nat} {Ls : Array Slot} {z : Int32} {rest : List Value} (hret : meth.sig.returnType = some .int) (hd : decode c.code pc = .ok (.ireturn, 1)) {fs : List Frame}
    (hl : ∀ (f : JFrame) (acts : List Action), f.method = m → f.locked = none → f.entered = [] → (doReturn e (T.setTop f) acts (some (.int z))).1 = T.setFrames fs) : Steps p.tables e below (T.setTop (mkF m pc Ls (.int z :: rest))) (T.setFrames fs) := by
  have hm' : T.vm.method? m = some meth := X.method'
  have hn : narrow .int (.int z) = .int z := rfl
  show Steps p.tables e below (T.setTop { method := m, pc := pc, locals := Ls, stack := _ :: rest, locked := none }) _
  jvm_step X.here [X.here.top, hx, hd, hm', hret, hn]
  first | (intro acts; rw [hl _ acts rfl rfl rfl]) | rw [hl _ _ rfl rfl rfl]
  exact Steps.refl _
/-- from this state and frame the run comes to an end that P says -/
def own_Go (tb : Tables) (e : Env) (below : List Frame) (P : State → Outcome → Prop) (T : State) (g : JFrame) : Prop := ∃ s₂ o, Steps tb e below (T.setTop g) s₂ ∧ P s₂ o
theorem own_go {tb : Tables} {P : State → Outcome → Prop} {T' : State} {g g' : JFrame} (st : ∀ t, Steps tb e below (T'.setTop g') t → Steps tb e below (T.setTop g) t) (k : own_Go tb e below P T' g') : own_Go tb e below P T g := by
  obtain ⟨s, o, h, q⟩ := k
  exact ⟨s, o, st s h, q⟩
/-- how a body ends: what it returned, its heap and the places that it wrote stand in Q -/
def own_P (below : List Frame) (s : State) (Q : Option Value → Heap → List Loc → Prop) (k n : Nat) (s₂ : State) (o : Outcome) : Prop := s₂.status = .running ∧ Ended s₂ below o ∧ ∃ v L, o = .returned v ∧ Q v s₂.heap L ∧ FrameEnd s o s₂ L k n
theorem own_leave (X : Stand p l e R s m args below meth c T locs cells slots) {Q : Option Value → Heap → List Loc → Prop} {k n : Nat} {v : Option Value} {g : JFrame} (hlk : meth.locks = false) (hv : meth.sig.returnType = none → v = none) (hq : Q v T.heap locs) (hk : cells ≤ k) (hn : slots ≤ n)
    (hst : ∀ fs, (∀ (f : JFrame) (acts : List Action), f.method = m → f.locked = none → f.entered = [] → (doReturn e (T.setTop f) acts v).1 = T.setFrames fs) → Steps p.tables e below (T.setTop g) (T.setFrames fs)) : own_Go p.tables e below (own_P below s Q k n) T g := by
  obtain ⟨fs, hr, hrun, hended, hW, hsame⟩ := X.leave (v := v) hv hlk
  exact ⟨_, _, hst fs hr, hrun, hended, _, _, rfl, hq, ⟨_, rfl⟩, hW, hsame.mono hk hn⟩
section Rets
variable {Q : Option Value → Heap → List Loc → Prop} {k n : Nat} {pc : Nat} {Ls : Array Slot} {rest : List Value}
theorem own_retI (X : Stand p l e R s m args below meth c T locs cells slots) (hx : p.tables.exec = Jvm.exec) {z : Int32} (hret : meth.sig.returnType = some .int) (hlk : meth.locks = false) (hd : decode c.code pc = .ok (.ireturn, 1)) (hk : cells ≤ k) (hn : slots ≤ n) (hq : Q (some (.int z)) T.heap locs) : own_Go p.tables e below (own_P below s Q k n) T (mkF m pc Ls (.int z :: rest)) :=
  own_leave X hlk (fun h => by rw [hret] at h; cases h) hq hk hn (fun fs hr => retI X hx hret hd hr)
theorem own_retN (X : Stand p l e R s m args below meth c T locs cells slots) (hx : p.tables.exec = Jvm.exec) {z : Int32} {t : FieldType} (hret : meth.sig.returnType = some t) (ht : t = .boolean ∨ t = .byte ∨ t = .char ∨ t = .short) (hlk : meth.locks = false) (hd : decode c.code pc = .ok (.ireturn, 1)) (hk : cells ≤ k) (hn : slots ≤ n) (hq : Q (some (.int (nar t z))) T.heap locs) : own_Go p.tables e below (own_P below s Q k n) T (mkF m pc Ls (.int z :: rest)) :=
  own_leave X hlk (fun h => by rw [hret] at h; cases h) hq hk hn (fun fs hr => retN X hx hret ht hd hr)
theorem own_retJ (X : Stand p l e R s m args below meth c T locs cells slots) (hx : p.tables.exec = Jvm.exec) {z : Int64} (hret : meth.sig.returnType = some .long) (hlk : meth.locks = false) (hd : decode c.code pc = .ok (.lreturn, 1)) (hk : cells ≤ k) (hn : slots ≤ n) (hq : Q (some (.long z)) T.heap locs) : own_Go p.tables e below (own_P below s Q k n) T (mkF m pc Ls (.long z :: rest)) :=
  own_leave X hlk (fun h => by rw [hret] at h; cases h) hq hk hn (fun fs hr => retOut X hx hret rfl (Or.inr (Or.inl ⟨rfl, rfl, z, rfl⟩)) hd hr)
theorem own_narR {t : FieldType} {v : Value} (ht : t.isReference = true) : narrow t v = v := by
  cases t <;> simp [FieldType.isReference] at ht <;> rfl
theorem own_retR (X : Stand p l e R s m args below meth c T locs cells slots) (hx : p.tables.exec = Jvm.exec) {z : Value} {t : FieldType} (hret : meth.sig.returnType = some t) (ht : t.isReference = true) (hz : z.isRef = true) (hlk : meth.locks = false) (hd : decode c.code pc = .ok (.areturn, 1)) (hk : cells ≤ k) (hn : slots ≤ n) (hq : Q (some z) T.heap locs) : own_Go p.tables e below (own_P below s Q k n) T (mkF m pc Ls (z :: rest)) :=
  own_leave X hlk (fun h => by rw [hret] at h; cases h) hq hk hn (fun fs hr => retOut X hx hret (own_narR ht) (Or.inr (Or.inr (Or.inr (Or.inr ⟨rfl, ht, hz⟩)))) hd hr)
theorem own_retV (X : Stand p l e R s m args below meth c T locs cells slots) (hx : p.tables.exec = Jvm.exec) (hret : meth.sig.returnType = none) (hlk : meth.locks = false) (hd : decode c.code pc = .ok (.return_, 1)) (hk : cells ≤ k) (hn : slots ≤ n) (hq : Q none T.heap locs) : own_Go p.tables e below (own_P below s Q k n) T (mkF m pc Ls []) :=
  own_leave X hlk (fun _ => rfl) hq hk hn (fun fs hr => X.returnOut hx hret hd hr)
end Rets
/-- a body's contract at one call: its arguments, the heap at the call, what it leaves -/
abbrev own_Met (l : Launch) (y : MethodName) (bytes : ByteArray) (maxL : Nat) (ret : Option FieldType) (ws : List Cond) (rm : Room) (Z : State) (as' : Array Value) (h0 : Heap) (Q : Option Value → Heap → List Loc → Prop) : Prop :=
  MetFree l y (head1 (Cond.code y bytes maxL ret :: ws) rm) (fun a U => a = as' ∧ Z.Warmed39 U.vm ∧ U.heap = h0) (fun _ _ _ _ _ => True) (fun _ U o U' => ∃ v L, o = .returned v ∧ Q v U'.heap L ∧ FrameEnd U o U' L rm.cells rm.slots)
theorem own_body {y : MethodName} {bytes : ByteArray} {maxL : Nat} {ret : Option FieldType} {ws : List Cond} {rm : Room} {Z : State} {as' : Array Value} {h0 : Heap} {Q : Option Value → Heap → List Loc → Prop} (hpl : plainFor y = true)
    (H : ∀ (p : Program) (e : Env) (s : State) (m : MethodId) (below : List Frame) (meth : Method) (c : Code) (s₁ : State), Stand p l e rm s m as' below meth c s₁ [] 0 0 → p.tables.exec = Jvm.exec → c.code = bytes → c.maxLocals = maxL → s.vm.findClass y.cls = some m.cls → meth.name = y.name → meth.sig.returnType = ret → meth.locks = false → Z.Warmed39 s.vm → s₁.heap = h0 → own_Go p.tables e below (own_P below s Q rm.cells rm.slots) s₁ (entryFrame m as' maxL)) :
    own_Met l y bytes maxL ret ws rm Z as' h0 Q := by
  refine MetFree.of_bodySF hpl hisR ?_
  intro p e s m args below meth c s₁ Bd hml hP hK
  obtain ⟨rfl, hZ, hh⟩ := hP
  exact H p e s m below meth c s₁ (Stand.of_body Bd) Bd.exec Bd.bytes hml (findClass_of_methodNamed Bd.named) (name_of_methodNamed Bd.named Bd.method).1 Bd.returns Bd.notSynchronized hZ (by rw [← hh, Bd.state]; rfl)
theorem own_cast {tb : Tables} {P : State → Outcome → Prop} {g g' : JFrame} (q : g = g') (k : own_Go tb e below P T g') : own_Go tb e below P T g := q ▸ k
section Calls
variable {Z : State} {a0 : Array Value} {h : Heap} {own : String} {index : Nat} {y : MethodName} {bytes : ByteArray} {maxL : Nat} {ret : Option FieldType} {rm : Room} {Q : Option Value → Heap → List Loc → Prop}
theorem own_callS (X : Stand p l e R s m args below meth c T locs cells slots) (hx : p.tables.exec = Jvm.exec) (hZ : Z.Warmed39 s.vm) (hown : s.vm.findClass own = some m.cls) (w1 : (Cond.methodLink own index y).before a0 Z = true) (w2 : (Cond.static y).before a0 Z = true) (w3 : (Cond.initialized y.cls).before a0 Z = true) (w4 : (Cond.code y bytes maxL ret).before a0 Z = true)
    (hy : y.cls ≠ "java/lang/invoke/MethodHandle" ∧ y.cls ≠ "java/lang/invoke/VarHandle") (eT : T.heap = h) {argsL rest : List Value} (hM : own_Met l y bytes maxL ret [] rm Z argsL.toArray h Q) (W : Nat) (hf : rm.frames + 1 ≤ R.frames) (hl : W + (maxL + 11) + rm.locals ≤ R.locals) (hc : cells + rm.cells ≤ R.cells) (hs : slots + rm.slots ≤ R.slots)
    {g : JFrame} (hg : g.method = m) (hsize : g.locals.size = c.maxLocals) (hlen : ∀ sig, parseMethodDescriptor y.desc = some sig → argsL.length = sig.parameters.length) (hstack : g.stack = argsL.reverse ++ rest) (hW : 2 * g.monitorRoom + (rest.map fun v => v.category).sum ≤ W) (hdg : decode c.code g.pc = .ok (.invokestatic index, 3)) :
    ∃ (v : Option Value) (T' : State) (h' : Heap) (L : List Loc), Stand p l e R s m args below meth c T' (locs ++ L) (cells + rm.cells) (slots + rm.slots) ∧ T'.heap = h' ∧ Q v h' L ∧ ∀ t, Steps p.tables e below (T'.setTop { g with pc := g.pc + 3, stack := v.toList ++ rest }) t → Steps p.tables e below (T.setTop g) t := by
  obtain ⟨v, _, ⟨T', L', k', n'⟩, -, X', ⟨Lc, hQ, l', y', z'⟩, st⟩ := Jvm.LawKit.callS X hx hown (mvT hZ w1) (mvT hZ w2) (mvT hZ w3) (mvT hZ w4) hy (backOf (W := W) hM hZ w4 w3 hf hl) hg hsize hlen hstack hW hdg (fun _ _ => ⟨rfl, eT, hc, hs⟩)
  dsimp only [Pt.U, Pt.locs, Pt.cells, Pt.slots] at X' l' y' z' st hQ
  subst l' y' z'
  exact ⟨v, T', _, Lc, X', rfl, hQ, st⟩
theorem own_callI (X : Stand p l e R s m args below meth c T locs cells slots) (hx : p.tables.exec = Jvm.exec) (hZ : Z.Warmed39 s.vm) (hn : y.name = "<init>") (hown : s.vm.findClass own = some m.cls) (w1 : (Cond.methodLink own index y).before a0 Z = true) (w2 : (Cond.instanceMethod y).before a0 Z = true) (w3 : (Cond.initialized y.cls).before a0 Z = true) (w4 : (Cond.code y bytes maxL none).before a0 Z = true)
    (hy : y.cls ≠ "java/lang/invoke/MethodHandle" ∧ y.cls ≠ "java/lang/invoke/VarHandle") (eT : T.heap = h) {a : Addr} {argsL rest : List Value} (hM : own_Met l y bytes maxL none [] rm Z (.ref a :: argsL).toArray h Q) (W : Nat) (hf : rm.frames + 1 ≤ R.frames) (hl : W + (maxL + 11) + rm.locals ≤ R.locals) (hc : cells + rm.cells ≤ R.cells) (hs : slots + rm.slots ≤ R.slots)
    {g : JFrame} (hg : g.method = m) (hsize : g.locals.size = c.maxLocals) (hlen : ∀ sig, parseMethodDescriptor y.desc = some sig → argsL.length = sig.parameters.length) (hstack : g.stack = argsL.reverse ++ .ref a :: rest) (hW : 2 * g.monitorRoom + (rest.map fun v => v.category).sum ≤ W) (hdg : decode c.code g.pc = .ok (.invokespecial index, 3)) :
    ∃ (v : Option Value) (T' : State) (h' : Heap) (L : List Loc), Stand p l e R s m args below meth c T' (locs ++ L) (cells + rm.cells) (slots + rm.slots) ∧ T'.heap = h' ∧ Q v h' L ∧ ∀ t, Steps p.tables e below (T'.setTop { g with pc := g.pc + 3, stack := v.toList ++ rest }) t → Steps p.tables e below (T.setTop g) t := by
  obtain ⟨v, _, ⟨T', L', k', n'⟩, -, X', ⟨Lc, hQ, l', y', z'⟩, st⟩ := X.specialBack hx hn hown (mvT hZ w1) (mvT hZ w2) (mvT hZ w4) hy (backOf (W := W) hM hZ w4 w3 hf hl) hg hsize (Steps.refl _) hlen hstack hW hdg (fun _ _ => ⟨rfl, eT, hc, hs⟩)
  dsimp only [Pt.U, Pt.locs, Pt.cells, Pt.slots] at X' l' y' z' st hQ
  subst l' y' z'
  exact ⟨v, T', _, Lc, X', rfl, hQ, fun t k => st.trans k⟩
theorem own_callV {C : String} {z : MethodName} (X : Stand p l e R s m args below meth c T locs cells slots) (hx : p.tables.exec = Jvm.exec) (hZ : Z.Warmed39 s.vm) (hown : s.vm.findClass own = some m.cls) (w1 : (Cond.methodLink own index y).before a0 Z = true) (w2 : (Cond.declares y).before a0 Z = true) (w3 : (Cond.selects C y z).before a0 Z = true) (hnf : NotFace s y) (w5 : (Cond.instanceMethod z).before a0 Z = true) (w6 : (Cond.initialized z.cls).before a0 Z = true) (w4 : (Cond.code z bytes maxL ret).before a0 Z = true)
    (hy : y.cls ≠ "java/lang/invoke/MethodHandle" ∧ y.cls ≠ "java/lang/invoke/VarHandle") (eT : T.heap = h) {a : Addr} (E : Exa Z h a C) {argsL rest : List Value} (hM : own_Met l z bytes maxL ret [] rm Z (.ref a :: argsL).toArray h Q) (W : Nat) (hf : rm.frames + 1 ≤ R.frames) (hl : W + (maxL + 11) + rm.locals ≤ R.locals) (hc : cells + rm.cells ≤ R.cells) (hs : slots + rm.slots ≤ R.slots)
    {g : JFrame} (hg : g.method = m) (hsize : g.locals.size = c.maxLocals) (hlen : ∀ sig, parseMethodDescriptor y.desc = some sig → argsL.length = sig.parameters.length) (hstack : g.stack = argsL.reverse ++ .ref a :: rest) (hW : 2 * g.monitorRoom + (rest.map fun v => v.category).sum ≤ W) (hdg : decode c.code g.pc = .ok (.invokevirtual index, 3)) :
    ∃ (v : Option Value) (T' : State) (h' : Heap) (L : List Loc), Stand p l e R s m args below meth c T' (locs ++ L) (cells + rm.cells) (slots + rm.slots) ∧ T'.heap = h' ∧ Q v h' L ∧ ∀ t, Steps p.tables e below (T'.setTop { g with pc := g.pc + 3, stack := v.toList ++ rest }) t → Steps p.tables e below (T.setTop g) t := by
  obtain ⟨cq, kq, qa, qb, qc⟩ := isOf hZ eT E
  obtain ⟨v, _, ⟨T', L', k', n'⟩, -, X', ⟨Lc, hQ, l', y', z'⟩, st⟩ := X.virtualBack hx hown (mvT hZ w1) (mvT hZ w2) hnf (mvT hZ w3) (mvT hZ w5) hy (backOf (W := W) hM hZ w4 w6 hf hl) qa qc hg hsize (Steps.refl _) hlen hstack hW hdg (fun _ _ => ⟨rfl, eT, hc, hs⟩)
  dsimp only [Pt.U, Pt.locs, Pt.cells, Pt.slots] at X' l' y' z' st hQ
  subst l' y' z'
  exact ⟨v, T', _, Lc, X', rfl, hQ, fun t k => st.trans k⟩
theorem own_callP (X : Stand p l e R s m args below meth c T locs cells slots) (hx : p.tables.exec = Jvm.exec) (hZ : Z.Warmed39 s.vm) (hown : s.vm.findClass own = some m.cls) (w1 : (Cond.methodLink own index y).before a0 Z = true) (w2 : (Cond.instanceMethod y).before a0 Z = true) (w3 : (Cond.selects y.cls y y).before a0 Z = true) (w5 : (Cond.privateMethod y).before a0 Z = true) (w6 : (Cond.initialized y.cls).before a0 Z = true) (w4 : (Cond.code y bytes maxL ret).before a0 Z = true)
    (hy : y.cls ≠ "java/lang/invoke/MethodHandle" ∧ y.cls ≠ "java/lang/invoke/VarHandle") (eT : T.heap = h) {a : Addr} {C : String} (E : Exa Z h a C) {argsL rest : List Value} (hM : own_Met l y bytes maxL ret [] rm Z (.ref a :: argsL).toArray h Q) (W : Nat) (hf : rm.frames + 1 ≤ R.frames) (hl : W + (maxL + 11) + rm.locals ≤ R.locals) (hc : cells + rm.cells ≤ R.cells) (hs : slots + rm.slots ≤ R.slots)
    {g : JFrame} (hg : g.method = m) (hsize : g.locals.size = c.maxLocals) (hlen : ∀ sig, parseMethodDescriptor y.desc = some sig → argsL.length = sig.parameters.length) (hstack : g.stack = argsL.reverse ++ .ref a :: rest) (hW : 2 * g.monitorRoom + (rest.map fun v => v.category).sum ≤ W) (hdg : decode c.code g.pc = .ok (.invokevirtual index, 3)) :
    ∃ (v : Option Value) (T' : State) (h' : Heap) (L : List Loc), Stand p l e R s m args below meth c T' (locs ++ L) (cells + rm.cells) (slots + rm.slots) ∧ T'.heap = h' ∧ Q v h' L ∧ ∀ t, Steps p.tables e below (T'.setTop { g with pc := g.pc + 3, stack := v.toList ++ rest }) t → Steps p.tables e below (T.setTop g) t := by
  obtain ⟨cq, q1, q2⟩ := E.cell
  obtain ⟨v, _, ⟨T', L', k', n'⟩, -, X', ⟨Lc, hQ, l', y', z'⟩, st⟩ := X.privateBack hx hown (mvT hZ w1) (mvT hZ w2) (mvT hZ w3) (Cond.privateMethod_at (mvP hZ w5 (args := #[]))) (mvT hZ w4) hy (backOf (W := W) hM hZ w4 w6 hf hl) hg hsize (Steps.refl _) (by rw [eT]; exact q1) q2 hlen hstack hW hdg (fun _ _ => ⟨rfl, eT, hc, hs⟩)
  dsimp only [Pt.U, Pt.locs, Pt.cells, Pt.slots] at X' l' y' z' st hQ
  subst l' y' z'
  exact ⟨v, T', _, Lc, X', rfl, hQ, fun t k => st.trans k⟩
theorem own_callF {C : String} {z : MethodName} {count : Nat} (X : Stand p l e R s m args below meth c T locs cells slots) (hx : p.tables.exec = Jvm.exec) (hZ : Z.Warmed39 s.vm) (hown : s.vm.findClass own = some m.cls) (w1 : (Cond.methodLink own index y).before a0 Z = true) (w2 : (Cond.declares y).before a0 Z = true) (w3 : (Cond.interfaceMethod y.cls y.cls y.name y.desc).before args s = true) (w5 : (Cond.selects C y z).before a0 Z = true) (w7 : (Cond.instanceMethod z).before a0 Z = true) (w8 : (Cond.publicMethod z).before a0 Z = true) (w9 : (Cond.unhidden C y.name y.desc).before a0 Z = true) (w10 : (Cond.castable C y.cls).before a0 Z = true) (w6 : (Cond.initialized z.cls).before a0 Z = true) (w4 : (Cond.code z bytes maxL ret).before a0 Z = true)
    (hy : y.cls ≠ "java/lang/invoke/MethodHandle" ∧ y.cls ≠ "java/lang/invoke/VarHandle") (eT : T.heap = h) {a : Addr} (E : Exa Z h a C) {argsL rest : List Value} (hM : own_Met l z bytes maxL ret [] rm Z (.ref a :: argsL).toArray h Q) (W : Nat) (hf : rm.frames + 1 ≤ R.frames) (hl : W + (maxL + 11) + rm.locals ≤ R.locals) (hc : cells + rm.cells ≤ R.cells) (hs : slots + rm.slots ≤ R.slots)
    {g : JFrame} (hg : g.method = m) (hsize : g.locals.size = c.maxLocals) (hlen : ∀ sig, parseMethodDescriptor y.desc = some sig → argsL.length = sig.parameters.length) (hstack : g.stack = argsL.reverse ++ .ref a :: rest) (hW : 2 * g.monitorRoom + (rest.map fun v => v.category).sum ≤ W) (hdg : decode c.code g.pc = .ok (.invokeinterface index count, 5)) :
    ∃ (v : Option Value) (T' : State) (h' : Heap) (L : List Loc), Stand p l e R s m args below meth c T' (locs ++ L) (cells + rm.cells) (slots + rm.slots) ∧ T'.heap = h' ∧ Q v h' L ∧ ∀ t, Steps p.tables e below (T'.setTop { g with pc := g.pc + 5, stack := v.toList ++ rest }) t → Steps p.tables e below (T.setTop g) t := by
  obtain ⟨cq, kq, qa, qb, qc⟩ := isOf hZ eT E
  obtain ⟨v, _, ⟨T', L', k', n'⟩, -, X', ⟨Lc, hQ, l', y', z'⟩, st⟩ := X.interfaceBack hx hown (mvT hZ w1) (mvT hZ w2) w3 (mvT hZ w5) (mvT hZ w7) (mvT hZ w8) (mvT hZ w9) (mvT hZ w10) hy (backOf (W := W) hM hZ w4 w6 hf hl) qa qb qc hg hsize (Steps.refl _) hlen hstack hW hdg (fun _ _ => ⟨rfl, eT, hc, hs⟩)
  dsimp only [Pt.U, Pt.locs, Pt.cells, Pt.slots] at X' l' y' z' st hQ
  subst l' y' z'
  exact ⟨v, T', _, Lc, X', rfl, hQ, fun t k => st.trans k⟩
end Calls
end OwnKit
end Jvm.RoadKit
namespace Jvm.Pilot.@@N@@
open Jvm Jvm.ClassFile Sem Op Lib Jvm.Free Jvm.Stand Jvm.LawKit Jvm.RoadKit Bundle Jvm.Pilot.@@N@@.Jvm.D

theorem d1_0 : decode prog_192_method_2_code 0 = .ok (.aload_n 0, 1) := by decide +kernel
theorem d1_1 : decode prog_192_method_2_code 1 = .ok (.invokespecial 9, 3) := by decide +kernel
theorem d1_4 : decode prog_192_method_2_code 4 = .ok (.aload_n 0, 1) := by decide +kernel
theorem d1_5 : decode prog_192_method_2_code 5 = .ok (.lload_n 1, 1) := by decide +kernel
theorem d1_6 : decode prog_192_method_2_code 6 = .ok (.putfield 14, 3) := by decide +kernel
theorem d1_9 : decode prog_192_method_2_code 9 = .ok (.aload_n 0, 1) := by decide +kernel
theorem d1_10 : decode prog_192_method_2_code 10 = .ok (.lload_n 3, 1) := by decide +kernel
theorem d1_11 : decode prog_192_method_2_code 11 = .ok (.putfield 18, 3) := by decide +kernel
theorem d1_14 : decode prog_192_method_2_code 14 = .ok (.aload_n 0, 1) := by decide +kernel
theorem d1_15 : decode prog_192_method_2_code 15 = .ok (.lload 5, 2) := by decide +kernel
theorem d1_17 : decode prog_192_method_2_code 17 = .ok (.putfield 21, 3) := by decide +kernel
theorem d1_20 : decode prog_192_method_2_code 20 = .ok (.aload_n 0, 1) := by decide +kernel
theorem d1_21 : decode prog_192_method_2_code 21 = .ok (.lload 7, 2) := by decide +kernel
theorem d1_23 : decode prog_192_method_2_code 23 = .ok (.putfield 24, 3) := by decide +kernel
theorem d1_26 : decode prog_192_method_2_code 26 = .ok (.aload_n 0, 1) := by decide +kernel
theorem d1_27 : decode prog_192_method_2_code 27 = .ok (.lload 9, 2) := by decide +kernel
theorem d1_29 : decode prog_192_method_2_code 29 = .ok (.putfield 27, 3) := by decide +kernel
theorem d1_32 : decode prog_192_method_2_code 32 = .ok (.aload_n 0, 1) := by decide +kernel
theorem d1_33 : decode prog_192_method_2_code 33 = .ok (.lload 11, 2) := by decide +kernel
theorem d1_35 : decode prog_192_method_2_code 35 = .ok (.putfield 30, 3) := by decide +kernel
theorem d1_38 : decode prog_192_method_2_code 38 = .ok (.aload_n 0, 1) := by decide +kernel
theorem d1_39 : decode prog_192_method_2_code 39 = .ok (.lload 13, 2) := by decide +kernel
theorem d1_41 : decode prog_192_method_2_code 41 = .ok (.putfield 33, 3) := by decide +kernel
theorem d1_44 : decode prog_192_method_2_code 44 = .ok (.aload_n 0, 1) := by decide +kernel
theorem d1_45 : decode prog_192_method_2_code 45 = .ok (.lload 15, 2) := by decide +kernel
theorem d1_47 : decode prog_192_method_2_code 47 = .ok (.putfield 36, 3) := by decide +kernel
theorem d1_50 : decode prog_192_method_2_code 50 = .ok (.aload_n 0, 1) := by decide +kernel
theorem d1_51 : decode prog_192_method_2_code 51 = .ok (.lload 17, 2) := by decide +kernel
theorem d1_53 : decode prog_192_method_2_code 53 = .ok (.putfield 39, 3) := by decide +kernel
theorem d1_56 : decode prog_192_method_2_code 56 = .ok (.return_, 1) := by decide +kernel
theorem d3_0 : decode prog_192_method_3_code 0 = .ok (.bipush 8, 2) := by decide +kernel
theorem d3_2 : decode prog_192_method_3_code 2 = .ok (.newarray .long, 2) := by decide +kernel
theorem d3_4 : decode prog_192_method_3_code 4 = .ok (.dup, 1) := by decide +kernel
theorem d3_5 : decode prog_192_method_3_code 5 = .ok (.iconst 0, 1) := by decide +kernel
theorem d3_6 : decode prog_192_method_3_code 6 = .ok (.aload_n 0, 1) := by decide +kernel
theorem d3_7 : decode prog_192_method_3_code 7 = .ok (.getfield 14, 3) := by decide +kernel
theorem d3_10 : decode prog_192_method_3_code 10 = .ok (.lastore, 1) := by decide +kernel
theorem d3_11 : decode prog_192_method_3_code 11 = .ok (.dup, 1) := by decide +kernel
theorem d3_12 : decode prog_192_method_3_code 12 = .ok (.iconst 1, 1) := by decide +kernel
theorem d3_13 : decode prog_192_method_3_code 13 = .ok (.aload_n 0, 1) := by decide +kernel
theorem d3_14 : decode prog_192_method_3_code 14 = .ok (.getfield 18, 3) := by decide +kernel
theorem d3_17 : decode prog_192_method_3_code 17 = .ok (.lastore, 1) := by decide +kernel
theorem d3_18 : decode prog_192_method_3_code 18 = .ok (.dup, 1) := by decide +kernel
theorem d3_19 : decode prog_192_method_3_code 19 = .ok (.iconst 2, 1) := by decide +kernel
theorem d3_20 : decode prog_192_method_3_code 20 = .ok (.aload_n 0, 1) := by decide +kernel
theorem d3_21 : decode prog_192_method_3_code 21 = .ok (.getfield 21, 3) := by decide +kernel
theorem d3_24 : decode prog_192_method_3_code 24 = .ok (.lastore, 1) := by decide +kernel
theorem d3_25 : decode prog_192_method_3_code 25 = .ok (.dup, 1) := by decide +kernel
theorem d3_26 : decode prog_192_method_3_code 26 = .ok (.iconst 3, 1) := by decide +kernel
theorem d3_27 : decode prog_192_method_3_code 27 = .ok (.aload_n 0, 1) := by decide +kernel
theorem d3_28 : decode prog_192_method_3_code 28 = .ok (.getfield 24, 3) := by decide +kernel
theorem d3_31 : decode prog_192_method_3_code 31 = .ok (.lastore, 1) := by decide +kernel
theorem d3_32 : decode prog_192_method_3_code 32 = .ok (.dup, 1) := by decide +kernel
theorem d3_33 : decode prog_192_method_3_code 33 = .ok (.iconst 4, 1) := by decide +kernel
theorem d3_34 : decode prog_192_method_3_code 34 = .ok (.aload_n 0, 1) := by decide +kernel
theorem d3_35 : decode prog_192_method_3_code 35 = .ok (.getfield 27, 3) := by decide +kernel
theorem d3_38 : decode prog_192_method_3_code 38 = .ok (.lastore, 1) := by decide +kernel
theorem d3_39 : decode prog_192_method_3_code 39 = .ok (.dup, 1) := by decide +kernel
theorem d3_40 : decode prog_192_method_3_code 40 = .ok (.iconst 5, 1) := by decide +kernel
theorem d3_41 : decode prog_192_method_3_code 41 = .ok (.aload_n 0, 1) := by decide +kernel
theorem d3_42 : decode prog_192_method_3_code 42 = .ok (.getfield 30, 3) := by decide +kernel
theorem d3_45 : decode prog_192_method_3_code 45 = .ok (.lastore, 1) := by decide +kernel
theorem d3_46 : decode prog_192_method_3_code 46 = .ok (.dup, 1) := by decide +kernel
theorem d3_47 : decode prog_192_method_3_code 47 = .ok (.bipush 6, 2) := by decide +kernel
theorem d3_49 : decode prog_192_method_3_code 49 = .ok (.aload_n 0, 1) := by decide +kernel
theorem d3_50 : decode prog_192_method_3_code 50 = .ok (.getfield 33, 3) := by decide +kernel
theorem d3_53 : decode prog_192_method_3_code 53 = .ok (.lastore, 1) := by decide +kernel
theorem d3_54 : decode prog_192_method_3_code 54 = .ok (.dup, 1) := by decide +kernel
theorem d3_55 : decode prog_192_method_3_code 55 = .ok (.bipush 7, 2) := by decide +kernel
theorem d3_57 : decode prog_192_method_3_code 57 = .ok (.aload_n 0, 1) := by decide +kernel
theorem d3_58 : decode prog_192_method_3_code 58 = .ok (.getfield 36, 3) := by decide +kernel
theorem d3_61 : decode prog_192_method_3_code 61 = .ok (.lastore, 1) := by decide +kernel
theorem d3_62 : decode prog_192_method_3_code 62 = .ok (.areturn, 1) := by decide +kernel
theorem pd0 : parseMethodDescriptor "(JJJJJJJJJ)V" = some ⟨[.long, .long, .long, .long, .long, .long, .long, .long, .long], none⟩ := by decide +kernel
theorem pd1 : parseMethodDescriptor "()[J" = some ⟨[], some (.array .long)⟩ := by decide +kernel
set_option maxRecDepth 65536 in
set_option maxHeartbeats 40000000 in
theorem rm1 (l : Launch) (Z : State) (a0 : Array Value) (hw : ∀ d ∈ tables_1, d.before a0 Z = true) (ws : List Jvm.Cond) (a1 : Addr) (q2 q3 q4 q5 q6 q7 q8 q9 q10 : Int64) (h0 : Heap) (n0 : Nat) (Z0 : n0 ≤ h0.size) (E_a1 : Exa Z h0 a1 "weirjoin/Summary") (F_leftRows : Fld Z h0 a1 "weirjoin/Summary" "leftRows" "J" (.long (0 : Int64))) (F_rightRows : Fld Z h0 a1 "weirjoin/Summary" "rightRows" "J" (.long (0 : Int64))) (F_pairs : Fld Z h0 a1 "weirjoin/Summary" "pairs" "J" (.long (0 : Int64))) (F_padded : Fld Z h0 a1 "weirjoin/Summary" "padded" "J" (.long (0 : Int64))) (F_late : Fld Z h0 a1 "weirjoin/Summary" "late" "J" (.long (0 : Int64))) (F_dropped : Fld Z h0 a1 "weirjoin/Summary" "dropped" "J" (.long (0 : Int64))) (F_statePeak : Fld Z h0 a1 "weirjoin/Summary" "statePeak" "J" (.long (0 : Int64))) (F_stateEnd : Fld Z h0 a1 "weirjoin/Summary" "stateEnd" "J" (.long (0 : Int64))) (F_fires : Fld Z h0 a1 "weirjoin/Summary" "fires" "J" (.long (0 : Int64))) (g_a1 : n0 ≤ a1) :
    own_Met l (⟨"weirjoin/Summary", "<init>", "(JJJJJJJJJ)V"⟩ : MethodName) prog_192_method_2_code 19 none ws ({ frames := 1, cells := 0, slots := 0, locals := 12 } : Room) Z #[(.ref a1), (.long q2), (.long q3), (.long q4), (.long q5), (.long q6), (.long q7), (.long q8), (.long q9), (.long q10)] h0 (fun v h L => v = none ∧ Fr n0 L ∧ Keep h0 h [a1] ∧ Exa Z h a1 "weirjoin/Summary" ∧ Fld Z h a1 "weirjoin/Summary" "leftRows" "J" (.long q2) ∧ Fld Z h a1 "weirjoin/Summary" "rightRows" "J" (.long q3) ∧ Fld Z h a1 "weirjoin/Summary" "pairs" "J" (.long q4) ∧ Fld Z h a1 "weirjoin/Summary" "padded" "J" (.long q5) ∧ Fld Z h a1 "weirjoin/Summary" "late" "J" (.long q6) ∧ Fld Z h a1 "weirjoin/Summary" "dropped" "J" (.long q7) ∧ Fld Z h a1 "weirjoin/Summary" "statePeak" "J" (.long q8) ∧ Fld Z h a1 "weirjoin/Summary" "stateEnd" "J" (.long q9) ∧ Fld Z h a1 "weirjoin/Summary" "fires" "J" (.long q10)) := by
  refine own_body (plainFor_of_name (by first | (simp [plainName, overriddenIn]; done) | decide +kernel)) ?_
  intro p e s m below meth c s₁ X0 hx hby hml hown hnm hret hlk hZ e0
  have N0 := Fr.nil n0
  refine own_cast (show entryFrame m #[(.ref a1), (.long q2), (.long q3), (.long q4), (.long q5), (.long q6), (.long q7), (.long q8), (.long q9), (.long q10)] 19 = mkF m 0 #[.val (.ref a1), .val (.long q2), .second, .val (.long q3), .second, .val (.long q4), .second, .val (.long q5), .second, .val (.long q6), .second, .val (.long q7), .second, .val (.long q8), .second, .val (.long q9), .second, .val (.long q10), .second] [] from by first | (simp [entryFrame, mkF, argsToLocals, Value.category]; done) | rfl) ?_
  show own_Go _ _ _ _ s₁ (mkF m 0 #[.val (.ref a1), .val (.long q2), .second, .val (.long q3), .second, .val (.long q4), .second, .val (.long q5), .second, .val (.long q6), .second, .val (.long q7), .second, .val (.long q8), .second, .val (.long q9), .second, .val (.long q10), .second] [])
  refine own_go (fun _ k => XS.aloadN X0.here hx rfl (hb hby d1_0) rfl rfl k) ?_
  show own_Go _ _ _ _ s₁ (mkF m 1 #[.val (.ref a1), .val (.long q2), .second, .val (.long q3), .second, .val (.long q4), .second, .val (.long q5), .second, .val (.long q6), .second, .val (.long q7), .second, .val (.long q8), .second, .val (.long q9), .second, .val (.long q10), .second] [(.ref a1)])
  obtain ⟨T1, X1, e1, st1⟩ := initO X0 hx hZ hown (hw _ (List.mem_of_getElem? (i := 7) rfl)) (hw _ (List.mem_of_getElem? (i := 8) rfl)) (hw _ (List.mem_of_getElem? (i := 9) rfl)) e0 (g := (mkF m 1 #[.val (.ref a1), .val (.long q2), .second, .val (.long q3), .second, .val (.long q4), .second, .val (.long q5), .second, .val (.long q6), .second, .val (.long q7), .second, .val (.long q8), .second, .val (.long q9), .second, .val (.long q10), .second] [(.ref a1)])) rfl (by rw [hml]; rfl) rfl (hb hby d1_1) (by decide) (W := 0) (Nat.le_of_eq rfl) (by decide)
  refine own_go (st1) ?_
  show own_Go _ _ _ _ T1 (mkF m 4 #[.val (.ref a1), .val (.long q2), .second, .val (.long q3), .second, .val (.long q4), .second, .val (.long q5), .second, .val (.long q6), .second, .val (.long q7), .second, .val (.long q8), .second, .val (.long q9), .second, .val (.long q10), .second] [])
  refine own_go (fun _ k => XS.aloadN X1.here hx rfl (hb hby d1_4) rfl rfl k) ?_
  show own_Go _ _ _ _ T1 (mkF m 5 #[.val (.ref a1), .val (.long q2), .second, .val (.long q3), .second, .val (.long q4), .second, .val (.long q5), .second, .val (.long q6), .second, .val (.long q7), .second, .val (.long q8), .second, .val (.long q9), .second, .val (.long q10), .second] [(.ref a1)])
  refine own_go (fun _ k => XS.lloadN X1.here hx rfl (hb hby d1_5) rfl k) ?_
  show own_Go _ _ _ _ T1 (mkF m 6 #[.val (.ref a1), .val (.long q2), .second, .val (.long q3), .second, .val (.long q4), .second, .val (.long q5), .second, .val (.long q6), .second, .val (.long q7), .second, .val (.long q8), .second, .val (.long q9), .second, .val (.long q10), .second] [(.long q2), (.ref a1)])
  obtain ⟨T2, h2, X2, e2, W2, st2⟩ := putF X1 hx hZ hown (host := "") (Or.inl (hw _ (List.mem_of_getElem? (i := 10) rfl))) Via.refl e1 F_leftRows E_a1 (Or.inr ⟨(hw _ (List.mem_of_getElem? (i := 11) rfl)), rfl, hnm⟩) (hw _ (List.mem_of_getElem? (i := 2) rfl)) (ty := .long) (by decide) rfl rfl (g := (mkF m 6 #[.val (.ref a1), .val (.long q2), .second, .val (.long q3), .second, .val (.long q4), .second, .val (.long q5), .second, .val (.long q6), .second, .val (.long q7), .second, .val (.long q8), .second, .val (.long q9), .second, .val (.long q10), .second] [(.long q2), (.ref a1)])) rfl rfl (hb hby d1_6)
  refine own_go (st2) ?_
  have Fw2 := F_leftRows.same W2
  have N2 := Fr.snoc X2 N0 g_a1
  show own_Go _ _ _ _ T2 (mkF m 9 #[.val (.ref a1), .val (.long q2), .second, .val (.long q3), .second, .val (.long q4), .second, .val (.long q5), .second, .val (.long q6), .second, .val (.long q7), .second, .val (.long q8), .second, .val (.long q9), .second, .val (.long q10), .second] [])
  refine own_go (fun _ k => XS.aloadN X2.here hx rfl (hb hby d1_9) rfl rfl k) ?_
  show own_Go _ _ _ _ T2 (mkF m 10 #[.val (.ref a1), .val (.long q2), .second, .val (.long q3), .second, .val (.long q4), .second, .val (.long q5), .second, .val (.long q6), .second, .val (.long q7), .second, .val (.long q8), .second, .val (.long q9), .second, .val (.long q10), .second] [(.ref a1)])
  refine own_go (fun _ k => XS.lloadN X2.here hx rfl (hb hby d1_10) rfl k) ?_
  show own_Go _ _ _ _ T2 (mkF m 11 #[.val (.ref a1), .val (.long q2), .second, .val (.long q3), .second, .val (.long q4), .second, .val (.long q5), .second, .val (.long q6), .second, .val (.long q7), .second, .val (.long q8), .second, .val (.long q9), .second, .val (.long q10), .second] [(.long q3), (.ref a1)])
  have f4 := (F_rightRows.other W2 (Or.inr (slot_ne (Or.inr (hw _ (List.mem_of_getElem? (i := 13) rfl))) (Or.inr (hw _ (List.mem_of_getElem? (i := 11) rfl))) (by decide) (t := .long) (t' := .long) (by decide) (by decide))))
  have f5 := (E_a1.wr W2)
  obtain ⟨T3, h3, X3, e3, W3, st3⟩ := putF X2 hx hZ hown (host := "") (Or.inl (hw _ (List.mem_of_getElem? (i := 12) rfl))) Via.refl e2 f4 f5 (Or.inr ⟨(hw _ (List.mem_of_getElem? (i := 13) rfl)), rfl, hnm⟩) (hw _ (List.mem_of_getElem? (i := 2) rfl)) (ty := .long) (by decide) rfl rfl (g := (mkF m 11 #[.val (.ref a1), .val (.long q2), .second, .val (.long q3), .second, .val (.long q4), .second, .val (.long q5), .second, .val (.long q6), .second, .val (.long q7), .second, .val (.long q8), .second, .val (.long q9), .second, .val (.long q10), .second] [(.long q3), (.ref a1)])) rfl rfl (hb hby d1_11)
  refine own_go (st3) ?_
  have Fw3 := f4.same W3
  have N3 := Fr.snoc X3 N2 g_a1
  show own_Go _ _ _ _ T3 (mkF m 14 #[.val (.ref a1), .val (.long q2), .second, .val (.long q3), .second, .val (.long q4), .second, .val (.long q5), .second, .val (.long q6), .second, .val (.long q7), .second, .val (.long q8), .second, .val (.long q9), .second, .val (.long q10), .second] [])
  refine own_go (fun _ k => XS.aloadN X3.here hx rfl (hb hby d1_14) rfl rfl k) ?_
  show own_Go _ _ _ _ T3 (mkF m 15 #[.val (.ref a1), .val (.long q2), .second, .val (.long q3), .second, .val (.long q4), .second, .val (.long q5), .second, .val (.long q6), .second, .val (.long q7), .second, .val (.long q8), .second, .val (.long q9), .second, .val (.long q10), .second] [(.ref a1)])
  refine own_go (fun _ k => XS.lload X3.here hx rfl (hb hby d1_15) rfl k) ?_
  show own_Go _ _ _ _ T3 (mkF m 17 #[.val (.ref a1), .val (.long q2), .second, .val (.long q3), .second, .val (.long q4), .second, .val (.long q5), .second, .val (.long q6), .second, .val (.long q7), .second, .val (.long q8), .second, .val (.long q9), .second, .val (.long q10), .second] [(.long q4), (.ref a1)])
  have f7 := ((F_pairs.other W2 (Or.inr (slot_ne (Or.inr (hw _ (List.mem_of_getElem? (i := 15) rfl))) (Or.inr (hw _ (List.mem_of_getElem? (i := 11) rfl))) (by decide) (t := .long) (t' := .long) (by decide) (by decide)))).other W3 (Or.inr (slot_ne (Or.inr (hw _ (List.mem_of_getElem? (i := 15) rfl))) (Or.inr (hw _ (List.mem_of_getElem? (i := 13) rfl))) (by decide) (t := .long) (t' := .long) (by decide) (by decide))))
  have f8 := (f5.wr W3)
  obtain ⟨T6, h6, X6, e6, W6, st6⟩ := putF X3 hx hZ hown (host := "") (Or.inl (hw _ (List.mem_of_getElem? (i := 14) rfl))) Via.refl e3 f7 f8 (Or.inr ⟨(hw _ (List.mem_of_getElem? (i := 15) rfl)), rfl, hnm⟩) (hw _ (List.mem_of_getElem? (i := 2) rfl)) (ty := .long) (by decide) rfl rfl (g := (mkF m 17 #[.val (.ref a1), .val (.long q2), .second, .val (.long q3), .second, .val (.long q4), .second, .val (.long q5), .second, .val (.long q6), .second, .val (.long q7), .second, .val (.long q8), .second, .val (.long q9), .second, .val (.long q10), .second] [(.long q4), (.ref a1)])) rfl rfl (hb hby d1_17)
  refine own_go (st6) ?_
  have Fw6 := f7.same W6
  have N6 := Fr.snoc X6 N3 g_a1
  show own_Go _ _ _ _ T6 (mkF m 20 #[.val (.ref a1), .val (.long q2), .second, .val (.long q3), .second, .val (.long q4), .second, .val (.long q5), .second, .val (.long q6), .second, .val (.long q7), .second, .val (.long q8), .second, .val (.long q9), .second, .val (.long q10), .second] [])
  refine own_go (fun _ k => XS.aloadN X6.here hx rfl (hb hby d1_20) rfl rfl k) ?_
  show own_Go _ _ _ _ T6 (mkF m 21 #[.val (.ref a1), .val (.long q2), .second, .val (.long q3), .second, .val (.long q4), .second, .val (.long q5), .second, .val (.long q6), .second, .val (.long q7), .second, .val (.long q8), .second, .val (.long q9), .second, .val (.long q10), .second] [(.ref a1)])
  refine own_go (fun _ k => XS.lload X6.here hx rfl (hb hby d1_21) rfl k) ?_
  show own_Go _ _ _ _ T6 (mkF m 23 #[.val (.ref a1), .val (.long q2), .second, .val (.long q3), .second, .val (.long q4), .second, .val (.long q5), .second, .val (.long q6), .second, .val (.long q7), .second, .val (.long q8), .second, .val (.long q9), .second, .val (.long q10), .second] [(.long q5), (.ref a1)])
  have f10 := (((F_padded.other W2 (Or.inr (slot_ne (Or.inr (hw _ (List.mem_of_getElem? (i := 17) rfl))) (Or.inr (hw _ (List.mem_of_getElem? (i := 11) rfl))) (by decide) (t := .long) (t' := .long) (by decide) (by decide)))).other W3 (Or.inr (slot_ne (Or.inr (hw _ (List.mem_of_getElem? (i := 17) rfl))) (Or.inr (hw _ (List.mem_of_getElem? (i := 13) rfl))) (by decide) (t := .long) (t' := .long) (by decide) (by decide)))).other W6 (Or.inr (slot_ne (Or.inr (hw _ (List.mem_of_getElem? (i := 17) rfl))) (Or.inr (hw _ (List.mem_of_getElem? (i := 15) rfl))) (by decide) (t := .long) (t' := .long) (by decide) (by decide))))
  have f11 := (f8.wr W6)
  obtain ⟨T9, h9, X9, e9, W9, st9⟩ := putF X6 hx hZ hown (host := "") (Or.inl (hw _ (List.mem_of_getElem? (i := 16) rfl))) Via.refl e6 f10 f11 (Or.inr ⟨(hw _ (List.mem_of_getElem? (i := 17) rfl)), rfl, hnm⟩) (hw _ (List.mem_of_getElem? (i := 2) rfl)) (ty := .long) (by decide) rfl rfl (g := (mkF m 23 #[.val (.ref a1), .val (.long q2), .second, .val (.long q3), .second, .val (.long q4), .second, .val (.long q5), .second, .val (.long q6), .second, .val (.long q7), .second, .val (.long q8), .second, .val (.long q9), .second, .val (.long q10), .second] [(.long q5), (.ref a1)])) rfl rfl (hb hby d1_23)
  refine own_go (st9) ?_
  have Fw9 := f10.same W9
  have N9 := Fr.snoc X9 N6 g_a1
  show own_Go _ _ _ _ T9 (mkF m 26 #[.val (.ref a1), .val (.long q2), .second, .val (.long q3), .second, .val (.long q4), .second, .val (.long q5), .second, .val (.long q6), .second, .val (.long q7), .second, .val (.long q8), .second, .val (.long q9), .second, .val (.long q10), .second] [])
  refine own_go (fun _ k => XS.aloadN X9.here hx rfl (hb hby d1_26) rfl rfl k) ?_
  show own_Go _ _ _ _ T9 (mkF m 27 #[.val (.ref a1), .val (.long q2), .second, .val (.long q3), .second, .val (.long q4), .second, .val (.long q5), .second, .val (.long q6), .second, .val (.long q7), .second, .val (.long q8), .second, .val (.long q9), .second, .val (.long q10), .second] [(.ref a1)])
  refine own_go (fun _ k => XS.lload X9.here hx rfl (hb hby d1_27) rfl k) ?_
  show own_Go _ _ _ _ T9 (mkF m 29 #[.val (.ref a1), .val (.long q2), .second, .val (.long q3), .second, .val (.long q4), .second, .val (.long q5), .second, .val (.long q6), .second, .val (.long q7), .second, .val (.long q8), .second, .val (.long q9), .second, .val (.long q10), .second] [(.long q6), (.ref a1)])
  have f13 := ((((F_late.other W2 (Or.inr (slot_ne (Or.inr (hw _ (List.mem_of_getElem? (i := 19) rfl))) (Or.inr (hw _ (List.mem_of_getElem? (i := 11) rfl))) (by decide) (t := .long) (t' := .long) (by decide) (by decide)))).other W3 (Or.inr (slot_ne (Or.inr (hw _ (List.mem_of_getElem? (i := 19) rfl))) (Or.inr (hw _ (List.mem_of_getElem? (i := 13) rfl))) (by decide) (t := .long) (t' := .long) (by decide) (by decide)))).other W6 (Or.inr (slot_ne (Or.inr (hw _ (List.mem_of_getElem? (i := 19) rfl))) (Or.inr (hw _ (List.mem_of_getElem? (i := 15) rfl))) (by decide) (t := .long) (t' := .long) (by decide) (by decide)))).other W9 (Or.inr (slot_ne (Or.inr (hw _ (List.mem_of_getElem? (i := 19) rfl))) (Or.inr (hw _ (List.mem_of_getElem? (i := 17) rfl))) (by decide) (t := .long) (t' := .long) (by decide) (by decide))))
  have f14 := (f11.wr W9)
  obtain ⟨T12, h12, X12, e12, W12, st12⟩ := putF X9 hx hZ hown (host := "") (Or.inl (hw _ (List.mem_of_getElem? (i := 18) rfl))) Via.refl e9 f13 f14 (Or.inr ⟨(hw _ (List.mem_of_getElem? (i := 19) rfl)), rfl, hnm⟩) (hw _ (List.mem_of_getElem? (i := 2) rfl)) (ty := .long) (by decide) rfl rfl (g := (mkF m 29 #[.val (.ref a1), .val (.long q2), .second, .val (.long q3), .second, .val (.long q4), .second, .val (.long q5), .second, .val (.long q6), .second, .val (.long q7), .second, .val (.long q8), .second, .val (.long q9), .second, .val (.long q10), .second] [(.long q6), (.ref a1)])) rfl rfl (hb hby d1_29)
  refine own_go (st12) ?_
  have Fw12 := f13.same W12
  have N12 := Fr.snoc X12 N9 g_a1
  show own_Go _ _ _ _ T12 (mkF m 32 #[.val (.ref a1), .val (.long q2), .second, .val (.long q3), .second, .val (.long q4), .second, .val (.long q5), .second, .val (.long q6), .second, .val (.long q7), .second, .val (.long q8), .second, .val (.long q9), .second, .val (.long q10), .second] [])
  refine own_go (fun _ k => XS.aloadN X12.here hx rfl (hb hby d1_32) rfl rfl k) ?_
  show own_Go _ _ _ _ T12 (mkF m 33 #[.val (.ref a1), .val (.long q2), .second, .val (.long q3), .second, .val (.long q4), .second, .val (.long q5), .second, .val (.long q6), .second, .val (.long q7), .second, .val (.long q8), .second, .val (.long q9), .second, .val (.long q10), .second] [(.ref a1)])
  refine own_go (fun _ k => XS.lload X12.here hx rfl (hb hby d1_33) rfl k) ?_
  show own_Go _ _ _ _ T12 (mkF m 35 #[.val (.ref a1), .val (.long q2), .second, .val (.long q3), .second, .val (.long q4), .second, .val (.long q5), .second, .val (.long q6), .second, .val (.long q7), .second, .val (.long q8), .second, .val (.long q9), .second, .val (.long q10), .second] [(.long q7), (.ref a1)])
  have f16 := (((((F_dropped.other W2 (Or.inr (slot_ne (Or.inr (hw _ (List.mem_of_getElem? (i := 21) rfl))) (Or.inr (hw _ (List.mem_of_getElem? (i := 11) rfl))) (by decide) (t := .long) (t' := .long) (by decide) (by decide)))).other W3 (Or.inr (slot_ne (Or.inr (hw _ (List.mem_of_getElem? (i := 21) rfl))) (Or.inr (hw _ (List.mem_of_getElem? (i := 13) rfl))) (by decide) (t := .long) (t' := .long) (by decide) (by decide)))).other W6 (Or.inr (slot_ne (Or.inr (hw _ (List.mem_of_getElem? (i := 21) rfl))) (Or.inr (hw _ (List.mem_of_getElem? (i := 15) rfl))) (by decide) (t := .long) (t' := .long) (by decide) (by decide)))).other W9 (Or.inr (slot_ne (Or.inr (hw _ (List.mem_of_getElem? (i := 21) rfl))) (Or.inr (hw _ (List.mem_of_getElem? (i := 17) rfl))) (by decide) (t := .long) (t' := .long) (by decide) (by decide)))).other W12 (Or.inr (slot_ne (Or.inr (hw _ (List.mem_of_getElem? (i := 21) rfl))) (Or.inr (hw _ (List.mem_of_getElem? (i := 19) rfl))) (by decide) (t := .long) (t' := .long) (by decide) (by decide))))
  have f17 := (f14.wr W12)
  obtain ⟨T15, h15, X15, e15, W15, st15⟩ := putF X12 hx hZ hown (host := "") (Or.inl (hw _ (List.mem_of_getElem? (i := 20) rfl))) Via.refl e12 f16 f17 (Or.inr ⟨(hw _ (List.mem_of_getElem? (i := 21) rfl)), rfl, hnm⟩) (hw _ (List.mem_of_getElem? (i := 2) rfl)) (ty := .long) (by decide) rfl rfl (g := (mkF m 35 #[.val (.ref a1), .val (.long q2), .second, .val (.long q3), .second, .val (.long q4), .second, .val (.long q5), .second, .val (.long q6), .second, .val (.long q7), .second, .val (.long q8), .second, .val (.long q9), .second, .val (.long q10), .second] [(.long q7), (.ref a1)])) rfl rfl (hb hby d1_35)
  refine own_go (st15) ?_
  have Fw15 := f16.same W15
  have N15 := Fr.snoc X15 N12 g_a1
  show own_Go _ _ _ _ T15 (mkF m 38 #[.val (.ref a1), .val (.long q2), .second, .val (.long q3), .second, .val (.long q4), .second, .val (.long q5), .second, .val (.long q6), .second, .val (.long q7), .second, .val (.long q8), .second, .val (.long q9), .second, .val (.long q10), .second] [])
  refine own_go (fun _ k => XS.aloadN X15.here hx rfl (hb hby d1_38) rfl rfl k) ?_
  show own_Go _ _ _ _ T15 (mkF m 39 #[.val (.ref a1), .val (.long q2), .second, .val (.long q3), .second, .val (.long q4), .second, .val (.long q5), .second, .val (.long q6), .second, .val (.long q7), .second, .val (.long q8), .second, .val (.long q9), .second, .val (.long q10), .second] [(.ref a1)])
  refine own_go (fun _ k => XS.lload X15.here hx rfl (hb hby d1_39) rfl k) ?_
  show own_Go _ _ _ _ T15 (mkF m 41 #[.val (.ref a1), .val (.long q2), .second, .val (.long q3), .second, .val (.long q4), .second, .val (.long q5), .second, .val (.long q6), .second, .val (.long q7), .second, .val (.long q8), .second, .val (.long q9), .second, .val (.long q10), .second] [(.long q8), (.ref a1)])
  have f19 := ((((((F_statePeak.other W2 (Or.inr (slot_ne (Or.inr (hw _ (List.mem_of_getElem? (i := 23) rfl))) (Or.inr (hw _ (List.mem_of_getElem? (i := 11) rfl))) (by decide) (t := .long) (t' := .long) (by decide) (by decide)))).other W3 (Or.inr (slot_ne (Or.inr (hw _ (List.mem_of_getElem? (i := 23) rfl))) (Or.inr (hw _ (List.mem_of_getElem? (i := 13) rfl))) (by decide) (t := .long) (t' := .long) (by decide) (by decide)))).other W6 (Or.inr (slot_ne (Or.inr (hw _ (List.mem_of_getElem? (i := 23) rfl))) (Or.inr (hw _ (List.mem_of_getElem? (i := 15) rfl))) (by decide) (t := .long) (t' := .long) (by decide) (by decide)))).other W9 (Or.inr (slot_ne (Or.inr (hw _ (List.mem_of_getElem? (i := 23) rfl))) (Or.inr (hw _ (List.mem_of_getElem? (i := 17) rfl))) (by decide) (t := .long) (t' := .long) (by decide) (by decide)))).other W12 (Or.inr (slot_ne (Or.inr (hw _ (List.mem_of_getElem? (i := 23) rfl))) (Or.inr (hw _ (List.mem_of_getElem? (i := 19) rfl))) (by decide) (t := .long) (t' := .long) (by decide) (by decide)))).other W15 (Or.inr (slot_ne (Or.inr (hw _ (List.mem_of_getElem? (i := 23) rfl))) (Or.inr (hw _ (List.mem_of_getElem? (i := 21) rfl))) (by decide) (t := .long) (t' := .long) (by decide) (by decide))))
  have f20 := (f17.wr W15)
  obtain ⟨T18, h18, X18, e18, W18, st18⟩ := putF X15 hx hZ hown (host := "") (Or.inl (hw _ (List.mem_of_getElem? (i := 22) rfl))) Via.refl e15 f19 f20 (Or.inr ⟨(hw _ (List.mem_of_getElem? (i := 23) rfl)), rfl, hnm⟩) (hw _ (List.mem_of_getElem? (i := 2) rfl)) (ty := .long) (by decide) rfl rfl (g := (mkF m 41 #[.val (.ref a1), .val (.long q2), .second, .val (.long q3), .second, .val (.long q4), .second, .val (.long q5), .second, .val (.long q6), .second, .val (.long q7), .second, .val (.long q8), .second, .val (.long q9), .second, .val (.long q10), .second] [(.long q8), (.ref a1)])) rfl rfl (hb hby d1_41)
  refine own_go (st18) ?_
  have Fw18 := f19.same W18
  have N18 := Fr.snoc X18 N15 g_a1
  show own_Go _ _ _ _ T18 (mkF m 44 #[.val (.ref a1), .val (.long q2), .second, .val (.long q3), .second, .val (.long q4), .second, .val (.long q5), .second, .val (.long q6), .second, .val (.long q7), .second, .val (.long q8), .second, .val (.long q9), .second, .val (.long q10), .second] [])
  refine own_go (fun _ k => XS.aloadN X18.here hx rfl (hb hby d1_44) rfl rfl k) ?_
  show own_Go _ _ _ _ T18 (mkF m 45 #[.val (.ref a1), .val (.long q2), .second, .val (.long q3), .second, .val (.long q4), .second, .val (.long q5), .second, .val (.long q6), .second, .val (.long q7), .second, .val (.long q8), .second, .val (.long q9), .second, .val (.long q10), .second] [(.ref a1)])
  refine own_go (fun _ k => XS.lload X18.here hx rfl (hb hby d1_45) rfl k) ?_
  show own_Go _ _ _ _ T18 (mkF m 47 #[.val (.ref a1), .val (.long q2), .second, .val (.long q3), .second, .val (.long q4), .second, .val (.long q5), .second, .val (.long q6), .second, .val (.long q7), .second, .val (.long q8), .second, .val (.long q9), .second, .val (.long q10), .second] [(.long q9), (.ref a1)])
  have f22 := (((((((F_stateEnd.other W2 (Or.inr (slot_ne (Or.inr (hw _ (List.mem_of_getElem? (i := 25) rfl))) (Or.inr (hw _ (List.mem_of_getElem? (i := 11) rfl))) (by decide) (t := .long) (t' := .long) (by decide) (by decide)))).other W3 (Or.inr (slot_ne (Or.inr (hw _ (List.mem_of_getElem? (i := 25) rfl))) (Or.inr (hw _ (List.mem_of_getElem? (i := 13) rfl))) (by decide) (t := .long) (t' := .long) (by decide) (by decide)))).other W6 (Or.inr (slot_ne (Or.inr (hw _ (List.mem_of_getElem? (i := 25) rfl))) (Or.inr (hw _ (List.mem_of_getElem? (i := 15) rfl))) (by decide) (t := .long) (t' := .long) (by decide) (by decide)))).other W9 (Or.inr (slot_ne (Or.inr (hw _ (List.mem_of_getElem? (i := 25) rfl))) (Or.inr (hw _ (List.mem_of_getElem? (i := 17) rfl))) (by decide) (t := .long) (t' := .long) (by decide) (by decide)))).other W12 (Or.inr (slot_ne (Or.inr (hw _ (List.mem_of_getElem? (i := 25) rfl))) (Or.inr (hw _ (List.mem_of_getElem? (i := 19) rfl))) (by decide) (t := .long) (t' := .long) (by decide) (by decide)))).other W15 (Or.inr (slot_ne (Or.inr (hw _ (List.mem_of_getElem? (i := 25) rfl))) (Or.inr (hw _ (List.mem_of_getElem? (i := 21) rfl))) (by decide) (t := .long) (t' := .long) (by decide) (by decide)))).other W18 (Or.inr (slot_ne (Or.inr (hw _ (List.mem_of_getElem? (i := 25) rfl))) (Or.inr (hw _ (List.mem_of_getElem? (i := 23) rfl))) (by decide) (t := .long) (t' := .long) (by decide) (by decide))))
  have f23 := (f20.wr W18)
  obtain ⟨T21, h21, X21, e21, W21, st21⟩ := putF X18 hx hZ hown (host := "") (Or.inl (hw _ (List.mem_of_getElem? (i := 24) rfl))) Via.refl e18 f22 f23 (Or.inr ⟨(hw _ (List.mem_of_getElem? (i := 25) rfl)), rfl, hnm⟩) (hw _ (List.mem_of_getElem? (i := 2) rfl)) (ty := .long) (by decide) rfl rfl (g := (mkF m 47 #[.val (.ref a1), .val (.long q2), .second, .val (.long q3), .second, .val (.long q4), .second, .val (.long q5), .second, .val (.long q6), .second, .val (.long q7), .second, .val (.long q8), .second, .val (.long q9), .second, .val (.long q10), .second] [(.long q9), (.ref a1)])) rfl rfl (hb hby d1_47)
  refine own_go (st21) ?_
  have Fw21 := f22.same W21
  have N21 := Fr.snoc X21 N18 g_a1
  show own_Go _ _ _ _ T21 (mkF m 50 #[.val (.ref a1), .val (.long q2), .second, .val (.long q3), .second, .val (.long q4), .second, .val (.long q5), .second, .val (.long q6), .second, .val (.long q7), .second, .val (.long q8), .second, .val (.long q9), .second, .val (.long q10), .second] [])
  refine own_go (fun _ k => XS.aloadN X21.here hx rfl (hb hby d1_50) rfl rfl k) ?_
  show own_Go _ _ _ _ T21 (mkF m 51 #[.val (.ref a1), .val (.long q2), .second, .val (.long q3), .second, .val (.long q4), .second, .val (.long q5), .second, .val (.long q6), .second, .val (.long q7), .second, .val (.long q8), .second, .val (.long q9), .second, .val (.long q10), .second] [(.ref a1)])
  refine own_go (fun _ k => XS.lload X21.here hx rfl (hb hby d1_51) rfl k) ?_
  show own_Go _ _ _ _ T21 (mkF m 53 #[.val (.ref a1), .val (.long q2), .second, .val (.long q3), .second, .val (.long q4), .second, .val (.long q5), .second, .val (.long q6), .second, .val (.long q7), .second, .val (.long q8), .second, .val (.long q9), .second, .val (.long q10), .second] [(.long q10), (.ref a1)])
  have f25 := ((((((((F_fires.other W2 (Or.inr (slot_ne (Or.inr (hw _ (List.mem_of_getElem? (i := 27) rfl))) (Or.inr (hw _ (List.mem_of_getElem? (i := 11) rfl))) (by decide) (t := .long) (t' := .long) (by decide) (by decide)))).other W3 (Or.inr (slot_ne (Or.inr (hw _ (List.mem_of_getElem? (i := 27) rfl))) (Or.inr (hw _ (List.mem_of_getElem? (i := 13) rfl))) (by decide) (t := .long) (t' := .long) (by decide) (by decide)))).other W6 (Or.inr (slot_ne (Or.inr (hw _ (List.mem_of_getElem? (i := 27) rfl))) (Or.inr (hw _ (List.mem_of_getElem? (i := 15) rfl))) (by decide) (t := .long) (t' := .long) (by decide) (by decide)))).other W9 (Or.inr (slot_ne (Or.inr (hw _ (List.mem_of_getElem? (i := 27) rfl))) (Or.inr (hw _ (List.mem_of_getElem? (i := 17) rfl))) (by decide) (t := .long) (t' := .long) (by decide) (by decide)))).other W12 (Or.inr (slot_ne (Or.inr (hw _ (List.mem_of_getElem? (i := 27) rfl))) (Or.inr (hw _ (List.mem_of_getElem? (i := 19) rfl))) (by decide) (t := .long) (t' := .long) (by decide) (by decide)))).other W15 (Or.inr (slot_ne (Or.inr (hw _ (List.mem_of_getElem? (i := 27) rfl))) (Or.inr (hw _ (List.mem_of_getElem? (i := 21) rfl))) (by decide) (t := .long) (t' := .long) (by decide) (by decide)))).other W18 (Or.inr (slot_ne (Or.inr (hw _ (List.mem_of_getElem? (i := 27) rfl))) (Or.inr (hw _ (List.mem_of_getElem? (i := 23) rfl))) (by decide) (t := .long) (t' := .long) (by decide) (by decide)))).other W21 (Or.inr (slot_ne (Or.inr (hw _ (List.mem_of_getElem? (i := 27) rfl))) (Or.inr (hw _ (List.mem_of_getElem? (i := 25) rfl))) (by decide) (t := .long) (t' := .long) (by decide) (by decide))))
  have f26 := (f23.wr W21)
  obtain ⟨T24, h24, X24, e24, W24, st24⟩ := putF X21 hx hZ hown (host := "") (Or.inl (hw _ (List.mem_of_getElem? (i := 26) rfl))) Via.refl e21 f25 f26 (Or.inr ⟨(hw _ (List.mem_of_getElem? (i := 27) rfl)), rfl, hnm⟩) (hw _ (List.mem_of_getElem? (i := 2) rfl)) (ty := .long) (by decide) rfl rfl (g := (mkF m 53 #[.val (.ref a1), .val (.long q2), .second, .val (.long q3), .second, .val (.long q4), .second, .val (.long q5), .second, .val (.long q6), .second, .val (.long q7), .second, .val (.long q8), .second, .val (.long q9), .second, .val (.long q10), .second] [(.long q10), (.ref a1)])) rfl rfl (hb hby d1_53)
  refine own_go (st24) ?_
  have Fw24 := f25.same W24
  have N24 := Fr.snoc X24 N21 g_a1
  show own_Go _ _ _ _ T24 (mkF m 56 #[.val (.ref a1), .val (.long q2), .second, .val (.long q3), .second, .val (.long q4), .second, .val (.long q5), .second, .val (.long q6), .second, .val (.long q7), .second, .val (.long q8), .second, .val (.long q9), .second, .val (.long q10), .second] [])
  have f27 := ((((((((((Keep.refl h0 [a1]).wr W2 (Or.inl (List.mem_of_getElem? (i := 0) rfl))).wr W3 (Or.inl (List.mem_of_getElem? (i := 0) rfl))).wr W6 (Or.inl (List.mem_of_getElem? (i := 0) rfl))).wr W9 (Or.inl (List.mem_of_getElem? (i := 0) rfl))).wr W12 (Or.inl (List.mem_of_getElem? (i := 0) rfl))).wr W15 (Or.inl (List.mem_of_getElem? (i := 0) rfl))).wr W18 (Or.inl (List.mem_of_getElem? (i := 0) rfl))).wr W21 (Or.inl (List.mem_of_getElem? (i := 0) rfl))).wr W24 (Or.inl (List.mem_of_getElem? (i := 0) rfl)))
  have f28 := (f26.wr W24)
  have f29 := ((((((((Fw2.other W3 (Or.inr (slot_ne (Or.inr (hw _ (List.mem_of_getElem? (i := 11) rfl))) (Or.inr (hw _ (List.mem_of_getElem? (i := 13) rfl))) (by decide) (t := .long) (t' := .long) (by decide) (by decide)))).other W6 (Or.inr (slot_ne (Or.inr (hw _ (List.mem_of_getElem? (i := 11) rfl))) (Or.inr (hw _ (List.mem_of_getElem? (i := 15) rfl))) (by decide) (t := .long) (t' := .long) (by decide) (by decide)))).other W9 (Or.inr (slot_ne (Or.inr (hw _ (List.mem_of_getElem? (i := 11) rfl))) (Or.inr (hw _ (List.mem_of_getElem? (i := 17) rfl))) (by decide) (t := .long) (t' := .long) (by decide) (by decide)))).other W12 (Or.inr (slot_ne (Or.inr (hw _ (List.mem_of_getElem? (i := 11) rfl))) (Or.inr (hw _ (List.mem_of_getElem? (i := 19) rfl))) (by decide) (t := .long) (t' := .long) (by decide) (by decide)))).other W15 (Or.inr (slot_ne (Or.inr (hw _ (List.mem_of_getElem? (i := 11) rfl))) (Or.inr (hw _ (List.mem_of_getElem? (i := 21) rfl))) (by decide) (t := .long) (t' := .long) (by decide) (by decide)))).other W18 (Or.inr (slot_ne (Or.inr (hw _ (List.mem_of_getElem? (i := 11) rfl))) (Or.inr (hw _ (List.mem_of_getElem? (i := 23) rfl))) (by decide) (t := .long) (t' := .long) (by decide) (by decide)))).other W21 (Or.inr (slot_ne (Or.inr (hw _ (List.mem_of_getElem? (i := 11) rfl))) (Or.inr (hw _ (List.mem_of_getElem? (i := 25) rfl))) (by decide) (t := .long) (t' := .long) (by decide) (by decide)))).other W24 (Or.inr (slot_ne (Or.inr (hw _ (List.mem_of_getElem? (i := 11) rfl))) (Or.inr (hw _ (List.mem_of_getElem? (i := 27) rfl))) (by decide) (t := .long) (t' := .long) (by decide) (by decide))))
  have f30 := (((((((Fw3.other W6 (Or.inr (slot_ne (Or.inr (hw _ (List.mem_of_getElem? (i := 13) rfl))) (Or.inr (hw _ (List.mem_of_getElem? (i := 15) rfl))) (by decide) (t := .long) (t' := .long) (by decide) (by decide)))).other W9 (Or.inr (slot_ne (Or.inr (hw _ (List.mem_of_getElem? (i := 13) rfl))) (Or.inr (hw _ (List.mem_of_getElem? (i := 17) rfl))) (by decide) (t := .long) (t' := .long) (by decide) (by decide)))).other W12 (Or.inr (slot_ne (Or.inr (hw _ (List.mem_of_getElem? (i := 13) rfl))) (Or.inr (hw _ (List.mem_of_getElem? (i := 19) rfl))) (by decide) (t := .long) (t' := .long) (by decide) (by decide)))).other W15 (Or.inr (slot_ne (Or.inr (hw _ (List.mem_of_getElem? (i := 13) rfl))) (Or.inr (hw _ (List.mem_of_getElem? (i := 21) rfl))) (by decide) (t := .long) (t' := .long) (by decide) (by decide)))).other W18 (Or.inr (slot_ne (Or.inr (hw _ (List.mem_of_getElem? (i := 13) rfl))) (Or.inr (hw _ (List.mem_of_getElem? (i := 23) rfl))) (by decide) (t := .long) (t' := .long) (by decide) (by decide)))).other W21 (Or.inr (slot_ne (Or.inr (hw _ (List.mem_of_getElem? (i := 13) rfl))) (Or.inr (hw _ (List.mem_of_getElem? (i := 25) rfl))) (by decide) (t := .long) (t' := .long) (by decide) (by decide)))).other W24 (Or.inr (slot_ne (Or.inr (hw _ (List.mem_of_getElem? (i := 13) rfl))) (Or.inr (hw _ (List.mem_of_getElem? (i := 27) rfl))) (by decide) (t := .long) (t' := .long) (by decide) (by decide))))
  have f31 := ((((((Fw6.other W9 (Or.inr (slot_ne (Or.inr (hw _ (List.mem_of_getElem? (i := 15) rfl))) (Or.inr (hw _ (List.mem_of_getElem? (i := 17) rfl))) (by decide) (t := .long) (t' := .long) (by decide) (by decide)))).other W12 (Or.inr (slot_ne (Or.inr (hw _ (List.mem_of_getElem? (i := 15) rfl))) (Or.inr (hw _ (List.mem_of_getElem? (i := 19) rfl))) (by decide) (t := .long) (t' := .long) (by decide) (by decide)))).other W15 (Or.inr (slot_ne (Or.inr (hw _ (List.mem_of_getElem? (i := 15) rfl))) (Or.inr (hw _ (List.mem_of_getElem? (i := 21) rfl))) (by decide) (t := .long) (t' := .long) (by decide) (by decide)))).other W18 (Or.inr (slot_ne (Or.inr (hw _ (List.mem_of_getElem? (i := 15) rfl))) (Or.inr (hw _ (List.mem_of_getElem? (i := 23) rfl))) (by decide) (t := .long) (t' := .long) (by decide) (by decide)))).other W21 (Or.inr (slot_ne (Or.inr (hw _ (List.mem_of_getElem? (i := 15) rfl))) (Or.inr (hw _ (List.mem_of_getElem? (i := 25) rfl))) (by decide) (t := .long) (t' := .long) (by decide) (by decide)))).other W24 (Or.inr (slot_ne (Or.inr (hw _ (List.mem_of_getElem? (i := 15) rfl))) (Or.inr (hw _ (List.mem_of_getElem? (i := 27) rfl))) (by decide) (t := .long) (t' := .long) (by decide) (by decide))))
  have f32 := (((((Fw9.other W12 (Or.inr (slot_ne (Or.inr (hw _ (List.mem_of_getElem? (i := 17) rfl))) (Or.inr (hw _ (List.mem_of_getElem? (i := 19) rfl))) (by decide) (t := .long) (t' := .long) (by decide) (by decide)))).other W15 (Or.inr (slot_ne (Or.inr (hw _ (List.mem_of_getElem? (i := 17) rfl))) (Or.inr (hw _ (List.mem_of_getElem? (i := 21) rfl))) (by decide) (t := .long) (t' := .long) (by decide) (by decide)))).other W18 (Or.inr (slot_ne (Or.inr (hw _ (List.mem_of_getElem? (i := 17) rfl))) (Or.inr (hw _ (List.mem_of_getElem? (i := 23) rfl))) (by decide) (t := .long) (t' := .long) (by decide) (by decide)))).other W21 (Or.inr (slot_ne (Or.inr (hw _ (List.mem_of_getElem? (i := 17) rfl))) (Or.inr (hw _ (List.mem_of_getElem? (i := 25) rfl))) (by decide) (t := .long) (t' := .long) (by decide) (by decide)))).other W24 (Or.inr (slot_ne (Or.inr (hw _ (List.mem_of_getElem? (i := 17) rfl))) (Or.inr (hw _ (List.mem_of_getElem? (i := 27) rfl))) (by decide) (t := .long) (t' := .long) (by decide) (by decide))))
  have f33 := ((((Fw12.other W15 (Or.inr (slot_ne (Or.inr (hw _ (List.mem_of_getElem? (i := 19) rfl))) (Or.inr (hw _ (List.mem_of_getElem? (i := 21) rfl))) (by decide) (t := .long) (t' := .long) (by decide) (by decide)))).other W18 (Or.inr (slot_ne (Or.inr (hw _ (List.mem_of_getElem? (i := 19) rfl))) (Or.inr (hw _ (List.mem_of_getElem? (i := 23) rfl))) (by decide) (t := .long) (t' := .long) (by decide) (by decide)))).other W21 (Or.inr (slot_ne (Or.inr (hw _ (List.mem_of_getElem? (i := 19) rfl))) (Or.inr (hw _ (List.mem_of_getElem? (i := 25) rfl))) (by decide) (t := .long) (t' := .long) (by decide) (by decide)))).other W24 (Or.inr (slot_ne (Or.inr (hw _ (List.mem_of_getElem? (i := 19) rfl))) (Or.inr (hw _ (List.mem_of_getElem? (i := 27) rfl))) (by decide) (t := .long) (t' := .long) (by decide) (by decide))))
  have f34 := (((Fw15.other W18 (Or.inr (slot_ne (Or.inr (hw _ (List.mem_of_getElem? (i := 21) rfl))) (Or.inr (hw _ (List.mem_of_getElem? (i := 23) rfl))) (by decide) (t := .long) (t' := .long) (by decide) (by decide)))).other W21 (Or.inr (slot_ne (Or.inr (hw _ (List.mem_of_getElem? (i := 21) rfl))) (Or.inr (hw _ (List.mem_of_getElem? (i := 25) rfl))) (by decide) (t := .long) (t' := .long) (by decide) (by decide)))).other W24 (Or.inr (slot_ne (Or.inr (hw _ (List.mem_of_getElem? (i := 21) rfl))) (Or.inr (hw _ (List.mem_of_getElem? (i := 27) rfl))) (by decide) (t := .long) (t' := .long) (by decide) (by decide))))
  have f35 := ((Fw18.other W21 (Or.inr (slot_ne (Or.inr (hw _ (List.mem_of_getElem? (i := 23) rfl))) (Or.inr (hw _ (List.mem_of_getElem? (i := 25) rfl))) (by decide) (t := .long) (t' := .long) (by decide) (by decide)))).other W24 (Or.inr (slot_ne (Or.inr (hw _ (List.mem_of_getElem? (i := 23) rfl))) (Or.inr (hw _ (List.mem_of_getElem? (i := 27) rfl))) (by decide) (t := .long) (t' := .long) (by decide) (by decide))))
  have f36 := (Fw21.other W24 (Or.inr (slot_ne (Or.inr (hw _ (List.mem_of_getElem? (i := 25) rfl))) (Or.inr (hw _ (List.mem_of_getElem? (i := 27) rfl))) (by decide) (t := .long) (t' := .long) (by decide) (by decide))))
  exact own_retV X24 hx hret hlk (hb hby d1_56) (by decide) (by decide) (by first | exact ⟨rfl, N24, f27, f28, f29, f30, f31, f32, f33, f34, f35, f36, Fw24⟩ | (rw [e24]; exact ⟨rfl, N24, f27, f28, f29, f30, f31, f32, f33, f34, f35, f36, Fw24⟩))
set_option maxRecDepth 65536 in
set_option maxHeartbeats 40000000 in
theorem rm2 (l : Launch) (Z : State) (a0 : Array Value) (hw : ∀ d ∈ tables_1, d.before a0 Z = true) (ws : List Jvm.Cond) (a1 : Addr) (q2 q3 q4 q5 q6 q7 q8 q9 : Int64) (h0 : Heap) (n0 : Nat) (Z0 : n0 ≤ h0.size) (F_leftRows : Fld Z h0 a1 "weirjoin/Summary" "leftRows" "J" (.long q2)) (F_rightRows : Fld Z h0 a1 "weirjoin/Summary" "rightRows" "J" (.long q3)) (F_pairs : Fld Z h0 a1 "weirjoin/Summary" "pairs" "J" (.long q4)) (F_padded : Fld Z h0 a1 "weirjoin/Summary" "padded" "J" (.long q5)) (F_late : Fld Z h0 a1 "weirjoin/Summary" "late" "J" (.long q6)) (F_dropped : Fld Z h0 a1 "weirjoin/Summary" "dropped" "J" (.long q7)) (F_statePeak : Fld Z h0 a1 "weirjoin/Summary" "statePeak" "J" (.long q8)) (F_stateEnd : Fld Z h0 a1 "weirjoin/Summary" "stateEnd" "J" (.long q9)) :
    own_Met l (⟨"weirjoin/Summary", "counts", "()[J"⟩ : MethodName) prog_192_method_3_code 1 (some (.array .long)) ws ({ frames := 0, cells := 1, slots := 8, locals := 0 } : Room) Z #[(.ref a1)] h0 (fun v h L => ∃ (b : Addr) (k : ClassId), v = some (.ref b) ∧ Fr n0 L ∧ Arv Z h b k .long (8 : Int32) [(.long q2), (.long q3), (.long q4), (.long q5), (.long q6), (.long q7), (.long q8), (.long q9)] (.long (0 : Int64))) := by
  refine own_body (plainFor_of_name (by first | (simp [plainName, overriddenIn]; done) | decide +kernel)) ?_
  intro p e s m below meth c s₁ X0 hx hby hml hown hnm hret hlk hZ e0
  have N0 := Fr.nil n0
  refine own_cast (show entryFrame m #[(.ref a1)] 1 = mkF m 0 #[.val (.ref a1)] [] from by first | (simp [entryFrame, mkF, argsToLocals, Value.category]; done) | rfl) ?_
  show own_Go _ _ _ _ s₁ (mkF m 0 #[.val (.ref a1)] [])
  refine own_go (fun _ k => XS.bipush X0.here hx rfl (hb hby d3_0) k) ?_
  show own_Go _ _ _ _ s₁ (mkF m 2 #[.val (.ref a1)] [(.int (8 : Int32))])
  obtain ⟨T37, h37, k37, X37, e37, E37, A37, st37⟩ := newP X0 hx hZ (hw _ (List.mem_of_getElem? (i := 33) rfl)) e0 (g := (mkF m 2 #[.val (.ref a1)] [(.int (8 : Int32))])) rfl (hb hby d3_2) rfl (by decide) (cap := 8) (by decide) (by decide) (by decide) (by decide)
  obtain ⟨b37, g37⟩ : ∃ z, z = h0.size := ⟨_, rfl⟩
  rw [← g37] at A37 st37
  refine own_go (st37) ?_
  have g_b37 : n0 ≤ b37 := Nat.le_trans Z0 (Nat.le_of_eq g37.symm)
  have o_b37 : a1 < b37 := Nat.lt_of_lt_of_le F_leftRows.lt (Nat.le_of_eq g37.symm)
  have V37 : Arv Z h37 b37 k37 .long (8 : Int32) [(.long (0 : Int64)), (.long (0 : Int64)), (.long (0 : Int64)), (.long (0 : Int64)), (.long (0 : Int64)), (.long (0 : Int64)), (.long (0 : Int64)), (.long (0 : Int64))] (.long (0 : Int64)) := (Arv.new A37 (by decide)).pad (pad_rep [] (.long (0 : Int64)) 8)
  show own_Go _ _ _ _ T37 (mkF m 4 #[.val (.ref a1)] [(.ref b37)])
  refine own_go (fun _ k => XS.dup X37.here hx rfl (hb hby d3_4) rfl rfl k) ?_
  show own_Go _ _ _ _ T37 (mkF m 5 #[.val (.ref a1)] [(.ref b37), (.ref b37)])
  refine own_go (fun _ k => XS.iconst X37.here hx rfl (hb hby d3_5) k) ?_
  show own_Go _ _ _ _ T37 (mkF m 6 #[.val (.ref a1)] [(.int (0 : Int32)), (.ref b37), (.ref b37)])
  refine own_go (fun _ k => XS.aloadN X37.here hx rfl (hb hby d3_6) rfl rfl k) ?_
  show own_Go _ _ _ _ T37 (mkF m 7 #[.val (.ref a1)] [(.ref a1), (.int (0 : Int32)), (.ref b37), (.ref b37)])
  have f38 := (F_leftRows.ext E37)
  obtain ⟨T39, X39, e39, st39⟩ := getF X37 hx hZ hown (host := "") (Or.inl (hw _ (List.mem_of_getElem? (i := 10) rfl))) Via.refl e37 f38 (g := (mkF m 7 #[.val (.ref a1)] [(.ref a1), (.int (0 : Int32)), (.ref b37), (.ref b37)])) rfl rfl (hb hby d3_7)
  refine own_go (st39) ?_
  show own_Go _ _ _ _ T39 (mkF m 10 #[.val (.ref a1)] [(.long q2), (.int (0 : Int32)), (.ref b37), (.ref b37)])
  obtain ⟨cl40, Ar40, q40, S40, M40, H40, G40⟩ := V37
  have hin40 : ¬ ((0 : Int32) < 0 ∨ cl40.slots.size ≤ ((0 : Int32)).toNatClampNeg) := inb_of S40 ⟨by decide, by decide⟩
  obtain ⟨T40, h40, X40, e40, W40, st40⟩ := stJ X39 hx hZ e39 Ar40 (j := (0 : Int32)) hin40 (g := (mkF m 10 #[.val (.ref a1)] [(.long q2), (.int (0 : Int32)), (.ref b37), (.ref b37)])) rfl rfl (hb hby d3_10)
  refine own_go (st40) ?_
  have V40 : Arv Z h40 b37 k37 .long (8 : Int32) [(.long q2), (.long (0 : Int64)), (.long (0 : Int64)), (.long (0 : Int64)), (.long (0 : Int64)), (.long (0 : Int64)), (.long (0 : Int64)), (.long (0 : Int64))] (.long (0 : Int64)) := Arv.set Ar40 q40 S40 M40 H40 G40 rfl W40 0 rfl (Nat.le_of_ble_eq_true rfl)
  have N40 := Fr.snoc X40 N0 g_b37
  show own_Go _ _ _ _ T40 (mkF m 11 #[.val (.ref a1)] [(.ref b37)])
  refine own_go (fun _ k => XS.dup X40.here hx rfl (hb hby d3_11) rfl rfl k) ?_
  show own_Go _ _ _ _ T40 (mkF m 12 #[.val (.ref a1)] [(.ref b37), (.ref b37)])
  refine own_go (fun _ k => XS.iconst X40.here hx rfl (hb hby d3_12) k) ?_
  show own_Go _ _ _ _ T40 (mkF m 13 #[.val (.ref a1)] [(.int (1 : Int32)), (.ref b37), (.ref b37)])
  refine own_go (fun _ k => XS.aloadN X40.here hx rfl (hb hby d3_13) rfl rfl k) ?_
  show own_Go _ _ _ _ T40 (mkF m 14 #[.val (.ref a1)] [(.ref a1), (.int (1 : Int32)), (.ref b37), (.ref b37)])
  have f41 := ((F_rightRows.ext E37).other W40 (Or.inl (Nat.ne_of_lt o_b37)))
  obtain ⟨T42, X42, e42, st42⟩ := getF X40 hx hZ hown (host := "") (Or.inl (hw _ (List.mem_of_getElem? (i := 12) rfl))) Via.refl e40 f41 (g := (mkF m 14 #[.val (.ref a1)] [(.ref a1), (.int (1 : Int32)), (.ref b37), (.ref b37)])) rfl rfl (hb hby d3_14)
  refine own_go (st42) ?_
  show own_Go _ _ _ _ T42 (mkF m 17 #[.val (.ref a1)] [(.long q3), (.int (1 : Int32)), (.ref b37), (.ref b37)])
  obtain ⟨cl43, Ar43, q43, S43, M43, H43, G43⟩ := V40
  have hin43 : ¬ ((1 : Int32) < 0 ∨ cl43.slots.size ≤ ((1 : Int32)).toNatClampNeg) := inb_of S43 ⟨by decide, by decide⟩
  obtain ⟨T43, h43, X43, e43, W43, st43⟩ := stJ X42 hx hZ e42 Ar43 (j := (1 : Int32)) hin43 (g := (mkF m 17 #[.val (.ref a1)] [(.long q3), (.int (1 : Int32)), (.ref b37), (.ref b37)])) rfl rfl (hb hby d3_17)
  refine own_go (st43) ?_
  have V43 : Arv Z h43 b37 k37 .long (8 : Int32) [(.long q2), (.long q3), (.long (0 : Int64)), (.long (0 : Int64)), (.long (0 : Int64)), (.long (0 : Int64)), (.long (0 : Int64)), (.long (0 : Int64))] (.long (0 : Int64)) := Arv.set Ar43 q43 S43 M43 H43 G43 rfl W43 1 rfl (Nat.le_of_ble_eq_true rfl)
  have N43 := Fr.snoc X43 N40 g_b37
  show own_Go _ _ _ _ T43 (mkF m 18 #[.val (.ref a1)] [(.ref b37)])
  refine own_go (fun _ k => XS.dup X43.here hx rfl (hb hby d3_18) rfl rfl k) ?_
  show own_Go _ _ _ _ T43 (mkF m 19 #[.val (.ref a1)] [(.ref b37), (.ref b37)])
  refine own_go (fun _ k => XS.iconst X43.here hx rfl (hb hby d3_19) k) ?_
  show own_Go _ _ _ _ T43 (mkF m 20 #[.val (.ref a1)] [(.int (2 : Int32)), (.ref b37), (.ref b37)])
  refine own_go (fun _ k => XS.aloadN X43.here hx rfl (hb hby d3_20) rfl rfl k) ?_
  show own_Go _ _ _ _ T43 (mkF m 21 #[.val (.ref a1)] [(.ref a1), (.int (2 : Int32)), (.ref b37), (.ref b37)])
  have f44 := (((F_pairs.ext E37).other W40 (Or.inl (Nat.ne_of_lt o_b37))).other W43 (Or.inl (Nat.ne_of_lt o_b37)))
  obtain ⟨T45, X45, e45, st45⟩ := getF X43 hx hZ hown (host := "") (Or.inl (hw _ (List.mem_of_getElem? (i := 14) rfl))) Via.refl e43 f44 (g := (mkF m 21 #[.val (.ref a1)] [(.ref a1), (.int (2 : Int32)), (.ref b37), (.ref b37)])) rfl rfl (hb hby d3_21)
  refine own_go (st45) ?_
  show own_Go _ _ _ _ T45 (mkF m 24 #[.val (.ref a1)] [(.long q4), (.int (2 : Int32)), (.ref b37), (.ref b37)])
  obtain ⟨cl46, Ar46, q46, S46, M46, H46, G46⟩ := V43
  have hin46 : ¬ ((2 : Int32) < 0 ∨ cl46.slots.size ≤ ((2 : Int32)).toNatClampNeg) := inb_of S46 ⟨by decide, by decide⟩
  obtain ⟨T46, h46, X46, e46, W46, st46⟩ := stJ X45 hx hZ e45 Ar46 (j := (2 : Int32)) hin46 (g := (mkF m 24 #[.val (.ref a1)] [(.long q4), (.int (2 : Int32)), (.ref b37), (.ref b37)])) rfl rfl (hb hby d3_24)
  refine own_go (st46) ?_
  have V46 : Arv Z h46 b37 k37 .long (8 : Int32) [(.long q2), (.long q3), (.long q4), (.long (0 : Int64)), (.long (0 : Int64)), (.long (0 : Int64)), (.long (0 : Int64)), (.long (0 : Int64))] (.long (0 : Int64)) := Arv.set Ar46 q46 S46 M46 H46 G46 rfl W46 2 rfl (Nat.le_of_ble_eq_true rfl)
  have N46 := Fr.snoc X46 N43 g_b37
  show own_Go _ _ _ _ T46 (mkF m 25 #[.val (.ref a1)] [(.ref b37)])
  refine own_go (fun _ k => XS.dup X46.here hx rfl (hb hby d3_25) rfl rfl k) ?_
  show own_Go _ _ _ _ T46 (mkF m 26 #[.val (.ref a1)] [(.ref b37), (.ref b37)])
  refine own_go (fun _ k => XS.iconst X46.here hx rfl (hb hby d3_26) k) ?_
  show own_Go _ _ _ _ T46 (mkF m 27 #[.val (.ref a1)] [(.int (3 : Int32)), (.ref b37), (.ref b37)])
  refine own_go (fun _ k => XS.aloadN X46.here hx rfl (hb hby d3_27) rfl rfl k) ?_
  show own_Go _ _ _ _ T46 (mkF m 28 #[.val (.ref a1)] [(.ref a1), (.int (3 : Int32)), (.ref b37), (.ref b37)])
  have f47 := ((((F_padded.ext E37).other W40 (Or.inl (Nat.ne_of_lt o_b37))).other W43 (Or.inl (Nat.ne_of_lt o_b37))).other W46 (Or.inl (Nat.ne_of_lt o_b37)))
  obtain ⟨T48, X48, e48, st48⟩ := getF X46 hx hZ hown (host := "") (Or.inl (hw _ (List.mem_of_getElem? (i := 16) rfl))) Via.refl e46 f47 (g := (mkF m 28 #[.val (.ref a1)] [(.ref a1), (.int (3 : Int32)), (.ref b37), (.ref b37)])) rfl rfl (hb hby d3_28)
  refine own_go (st48) ?_
  show own_Go _ _ _ _ T48 (mkF m 31 #[.val (.ref a1)] [(.long q5), (.int (3 : Int32)), (.ref b37), (.ref b37)])
  obtain ⟨cl49, Ar49, q49, S49, M49, H49, G49⟩ := V46
  have hin49 : ¬ ((3 : Int32) < 0 ∨ cl49.slots.size ≤ ((3 : Int32)).toNatClampNeg) := inb_of S49 ⟨by decide, by decide⟩
  obtain ⟨T49, h49, X49, e49, W49, st49⟩ := stJ X48 hx hZ e48 Ar49 (j := (3 : Int32)) hin49 (g := (mkF m 31 #[.val (.ref a1)] [(.long q5), (.int (3 : Int32)), (.ref b37), (.ref b37)])) rfl rfl (hb hby d3_31)
  refine own_go (st49) ?_
  have V49 : Arv Z h49 b37 k37 .long (8 : Int32) [(.long q2), (.long q3), (.long q4), (.long q5), (.long (0 : Int64)), (.long (0 : Int64)), (.long (0 : Int64)), (.long (0 : Int64))] (.long (0 : Int64)) := Arv.set Ar49 q49 S49 M49 H49 G49 rfl W49 3 rfl (Nat.le_of_ble_eq_true rfl)
  have N49 := Fr.snoc X49 N46 g_b37
  show own_Go _ _ _ _ T49 (mkF m 32 #[.val (.ref a1)] [(.ref b37)])
  refine own_go (fun _ k => XS.dup X49.here hx rfl (hb hby d3_32) rfl rfl k) ?_
  show own_Go _ _ _ _ T49 (mkF m 33 #[.val (.ref a1)] [(.ref b37), (.ref b37)])
  refine own_go (fun _ k => XS.iconst X49.here hx rfl (hb hby d3_33) k) ?_
  show own_Go _ _ _ _ T49 (mkF m 34 #[.val (.ref a1)] [(.int (4 : Int32)), (.ref b37), (.ref b37)])
  refine own_go (fun _ k => XS.aloadN X49.here hx rfl (hb hby d3_34) rfl rfl k) ?_
  show own_Go _ _ _ _ T49 (mkF m 35 #[.val (.ref a1)] [(.ref a1), (.int (4 : Int32)), (.ref b37), (.ref b37)])
  have f50 := (((((F_late.ext E37).other W40 (Or.inl (Nat.ne_of_lt o_b37))).other W43 (Or.inl (Nat.ne_of_lt o_b37))).other W46 (Or.inl (Nat.ne_of_lt o_b37))).other W49 (Or.inl (Nat.ne_of_lt o_b37)))
  obtain ⟨T51, X51, e51, st51⟩ := getF X49 hx hZ hown (host := "") (Or.inl (hw _ (List.mem_of_getElem? (i := 18) rfl))) Via.refl e49 f50 (g := (mkF m 35 #[.val (.ref a1)] [(.ref a1), (.int (4 : Int32)), (.ref b37), (.ref b37)])) rfl rfl (hb hby d3_35)
  refine own_go (st51) ?_
  show own_Go _ _ _ _ T51 (mkF m 38 #[.val (.ref a1)] [(.long q6), (.int (4 : Int32)), (.ref b37), (.ref b37)])
  obtain ⟨cl52, Ar52, q52, S52, M52, H52, G52⟩ := V49
  have hin52 : ¬ ((4 : Int32) < 0 ∨ cl52.slots.size ≤ ((4 : Int32)).toNatClampNeg) := inb_of S52 ⟨by decide, by decide⟩
  obtain ⟨T52, h52, X52, e52, W52, st52⟩ := stJ X51 hx hZ e51 Ar52 (j := (4 : Int32)) hin52 (g := (mkF m 38 #[.val (.ref a1)] [(.long q6), (.int (4 : Int32)), (.ref b37), (.ref b37)])) rfl rfl (hb hby d3_38)
  refine own_go (st52) ?_
  have V52 : Arv Z h52 b37 k37 .long (8 : Int32) [(.long q2), (.long q3), (.long q4), (.long q5), (.long q6), (.long (0 : Int64)), (.long (0 : Int64)), (.long (0 : Int64))] (.long (0 : Int64)) := Arv.set Ar52 q52 S52 M52 H52 G52 rfl W52 4 rfl (Nat.le_of_ble_eq_true rfl)
  have N52 := Fr.snoc X52 N49 g_b37
  show own_Go _ _ _ _ T52 (mkF m 39 #[.val (.ref a1)] [(.ref b37)])
  refine own_go (fun _ k => XS.dup X52.here hx rfl (hb hby d3_39) rfl rfl k) ?_
  show own_Go _ _ _ _ T52 (mkF m 40 #[.val (.ref a1)] [(.ref b37), (.ref b37)])
  refine own_go (fun _ k => XS.iconst X52.here hx rfl (hb hby d3_40) k) ?_
  show own_Go _ _ _ _ T52 (mkF m 41 #[.val (.ref a1)] [(.int (5 : Int32)), (.ref b37), (.ref b37)])
  refine own_go (fun _ k => XS.aloadN X52.here hx rfl (hb hby d3_41) rfl rfl k) ?_
  show own_Go _ _ _ _ T52 (mkF m 42 #[.val (.ref a1)] [(.ref a1), (.int (5 : Int32)), (.ref b37), (.ref b37)])
  have f53 := ((((((F_dropped.ext E37).other W40 (Or.inl (Nat.ne_of_lt o_b37))).other W43 (Or.inl (Nat.ne_of_lt o_b37))).other W46 (Or.inl (Nat.ne_of_lt o_b37))).other W49 (Or.inl (Nat.ne_of_lt o_b37))).other W52 (Or.inl (Nat.ne_of_lt o_b37)))
  obtain ⟨T54, X54, e54, st54⟩ := getF X52 hx hZ hown (host := "") (Or.inl (hw _ (List.mem_of_getElem? (i := 20) rfl))) Via.refl e52 f53 (g := (mkF m 42 #[.val (.ref a1)] [(.ref a1), (.int (5 : Int32)), (.ref b37), (.ref b37)])) rfl rfl (hb hby d3_42)
  refine own_go (st54) ?_
  show own_Go _ _ _ _ T54 (mkF m 45 #[.val (.ref a1)] [(.long q7), (.int (5 : Int32)), (.ref b37), (.ref b37)])
  obtain ⟨cl55, Ar55, q55, S55, M55, H55, G55⟩ := V52
  have hin55 : ¬ ((5 : Int32) < 0 ∨ cl55.slots.size ≤ ((5 : Int32)).toNatClampNeg) := inb_of S55 ⟨by decide, by decide⟩
  obtain ⟨T55, h55, X55, e55, W55, st55⟩ := stJ X54 hx hZ e54 Ar55 (j := (5 : Int32)) hin55 (g := (mkF m 45 #[.val (.ref a1)] [(.long q7), (.int (5 : Int32)), (.ref b37), (.ref b37)])) rfl rfl (hb hby d3_45)
  refine own_go (st55) ?_
  have V55 : Arv Z h55 b37 k37 .long (8 : Int32) [(.long q2), (.long q3), (.long q4), (.long q5), (.long q6), (.long q7), (.long (0 : Int64)), (.long (0 : Int64))] (.long (0 : Int64)) := Arv.set Ar55 q55 S55 M55 H55 G55 rfl W55 5 rfl (Nat.le_of_ble_eq_true rfl)
  have N55 := Fr.snoc X55 N52 g_b37
  show own_Go _ _ _ _ T55 (mkF m 46 #[.val (.ref a1)] [(.ref b37)])
  refine own_go (fun _ k => XS.dup X55.here hx rfl (hb hby d3_46) rfl rfl k) ?_
  show own_Go _ _ _ _ T55 (mkF m 47 #[.val (.ref a1)] [(.ref b37), (.ref b37)])
  refine own_go (fun _ k => XS.bipush X55.here hx rfl (hb hby d3_47) k) ?_
  show own_Go _ _ _ _ T55 (mkF m 49 #[.val (.ref a1)] [(.int (6 : Int32)), (.ref b37), (.ref b37)])
  refine own_go (fun _ k => XS.aloadN X55.here hx rfl (hb hby d3_49) rfl rfl k) ?_
  show own_Go _ _ _ _ T55 (mkF m 50 #[.val (.ref a1)] [(.ref a1), (.int (6 : Int32)), (.ref b37), (.ref b37)])
  have f56 := (((((((F_statePeak.ext E37).other W40 (Or.inl (Nat.ne_of_lt o_b37))).other W43 (Or.inl (Nat.ne_of_lt o_b37))).other W46 (Or.inl (Nat.ne_of_lt o_b37))).other W49 (Or.inl (Nat.ne_of_lt o_b37))).other W52 (Or.inl (Nat.ne_of_lt o_b37))).other W55 (Or.inl (Nat.ne_of_lt o_b37)))
  obtain ⟨T57, X57, e57, st57⟩ := getF X55 hx hZ hown (host := "") (Or.inl (hw _ (List.mem_of_getElem? (i := 22) rfl))) Via.refl e55 f56 (g := (mkF m 50 #[.val (.ref a1)] [(.ref a1), (.int (6 : Int32)), (.ref b37), (.ref b37)])) rfl rfl (hb hby d3_50)
  refine own_go (st57) ?_
  show own_Go _ _ _ _ T57 (mkF m 53 #[.val (.ref a1)] [(.long q8), (.int (6 : Int32)), (.ref b37), (.ref b37)])
  obtain ⟨cl58, Ar58, q58, S58, M58, H58, G58⟩ := V55
  have hin58 : ¬ ((6 : Int32) < 0 ∨ cl58.slots.size ≤ ((6 : Int32)).toNatClampNeg) := inb_of S58 ⟨by decide, by decide⟩
  obtain ⟨T58, h58, X58, e58, W58, st58⟩ := stJ X57 hx hZ e57 Ar58 (j := (6 : Int32)) hin58 (g := (mkF m 53 #[.val (.ref a1)] [(.long q8), (.int (6 : Int32)), (.ref b37), (.ref b37)])) rfl rfl (hb hby d3_53)
  refine own_go (st58) ?_
  have V58 : Arv Z h58 b37 k37 .long (8 : Int32) [(.long q2), (.long q3), (.long q4), (.long q5), (.long q6), (.long q7), (.long q8), (.long (0 : Int64))] (.long (0 : Int64)) := Arv.set Ar58 q58 S58 M58 H58 G58 rfl W58 6 rfl (Nat.le_of_ble_eq_true rfl)
  have N58 := Fr.snoc X58 N55 g_b37
  show own_Go _ _ _ _ T58 (mkF m 54 #[.val (.ref a1)] [(.ref b37)])
  refine own_go (fun _ k => XS.dup X58.here hx rfl (hb hby d3_54) rfl rfl k) ?_
  show own_Go _ _ _ _ T58 (mkF m 55 #[.val (.ref a1)] [(.ref b37), (.ref b37)])
  refine own_go (fun _ k => XS.bipush X58.here hx rfl (hb hby d3_55) k) ?_
  show own_Go _ _ _ _ T58 (mkF m 57 #[.val (.ref a1)] [(.int (7 : Int32)), (.ref b37), (.ref b37)])
  refine own_go (fun _ k => XS.aloadN X58.here hx rfl (hb hby d3_57) rfl rfl k) ?_
  show own_Go _ _ _ _ T58 (mkF m 58 #[.val (.ref a1)] [(.ref a1), (.int (7 : Int32)), (.ref b37), (.ref b37)])
  have f59 := ((((((((F_stateEnd.ext E37).other W40 (Or.inl (Nat.ne_of_lt o_b37))).other W43 (Or.inl (Nat.ne_of_lt o_b37))).other W46 (Or.inl (Nat.ne_of_lt o_b37))).other W49 (Or.inl (Nat.ne_of_lt o_b37))).other W52 (Or.inl (Nat.ne_of_lt o_b37))).other W55 (Or.inl (Nat.ne_of_lt o_b37))).other W58 (Or.inl (Nat.ne_of_lt o_b37)))
  obtain ⟨T60, X60, e60, st60⟩ := getF X58 hx hZ hown (host := "") (Or.inl (hw _ (List.mem_of_getElem? (i := 24) rfl))) Via.refl e58 f59 (g := (mkF m 58 #[.val (.ref a1)] [(.ref a1), (.int (7 : Int32)), (.ref b37), (.ref b37)])) rfl rfl (hb hby d3_58)
  refine own_go (st60) ?_
  show own_Go _ _ _ _ T60 (mkF m 61 #[.val (.ref a1)] [(.long q9), (.int (7 : Int32)), (.ref b37), (.ref b37)])
  obtain ⟨cl61, Ar61, q61, S61, M61, H61, G61⟩ := V58
  have hin61 : ¬ ((7 : Int32) < 0 ∨ cl61.slots.size ≤ ((7 : Int32)).toNatClampNeg) := inb_of S61 ⟨by decide, by decide⟩
  obtain ⟨T61, h61, X61, e61, W61, st61⟩ := stJ X60 hx hZ e60 Ar61 (j := (7 : Int32)) hin61 (g := (mkF m 61 #[.val (.ref a1)] [(.long q9), (.int (7 : Int32)), (.ref b37), (.ref b37)])) rfl rfl (hb hby d3_61)
  refine own_go (st61) ?_
  have V61 : Arv Z h61 b37 k37 .long (8 : Int32) [(.long q2), (.long q3), (.long q4), (.long q5), (.long q6), (.long q7), (.long q8), (.long q9)] (.long (0 : Int64)) := Arv.set Ar61 q61 S61 M61 H61 G61 rfl W61 7 rfl (Nat.le_of_ble_eq_true rfl)
  have N61 := Fr.snoc X61 N58 g_b37
  show own_Go _ _ _ _ T61 (mkF m 62 #[.val (.ref a1)] [(.ref b37)])
  exact own_retR X61 hx hret rfl rfl hlk (hb hby d3_62) (by decide) (by decide) (by first | exact ⟨_, _, rfl, N61, V61⟩ | (rw [e61]; exact ⟨_, _, rfl, N61, V61⟩))
set_option maxRecDepth 65536 in
set_option maxHeartbeats 40000000 in
theorem rm0 (l : Launch) (Z : State) (a0 : Array Value) (hw : ∀ d ∈ tables_1, d.before a0 Z = true) (ws : List Jvm.Cond) (q1 q2 q3 q4 q5 q6 : Int64) (h0 : Heap) (n0 : Nat) (Z0 : n0 ≤ h0.size) :
    own_Met l x code maxLocals ret ws room_1 Z #[(.long q1), (.long q2), (.long q3), (.long q4), (.long q5), (.long q6)] h0 (fun v h L => v = some (.int 1) ∧ Fr n0 L) := by
  refine own_body (plainFor_of_name (by first | (simp [plainName, overriddenIn]; done) | decide +kernel)) ?_
  intro p e s m below meth c s₁ X0 hx hby hml hown hnm hret hlk hZ e0
  have N0 := Fr.nil n0
  refine own_cast (show entryFrame m #[(.long q1), (.long q2), (.long q3), (.long q4), (.long q5), (.long q6)] maxLocals = mkF m 0 #[.val (.long q1), .second, .val (.long q2), .second, .val (.long q3), .second, .val (.long q4), .second, .val (.long q5), .second, .val (.long q6), .second, .unset, .unset, .unset, .unset, .unset, .unset, .unset, .unset] [] from by first | (simp [entryFrame, mkF, argsToLocals, Value.category, maxLocals]; done) | rfl) ?_
  show own_Go _ _ _ _ s₁ (mkF m 0 #[.val (.long q1), .second, .val (.long q2), .second, .val (.long q3), .second, .val (.long q4), .second, .val (.long q5), .second, .val (.long q6), .second, .unset, .unset, .unset, .unset, .unset, .unset, .unset, .unset] [])
  refine own_go (fun _ k => XS.lloadN X0.here hx rfl (hb hby at_0) rfl k) ?_
  show own_Go _ _ _ _ s₁ (mkF m 1 #[.val (.long q1), .second, .val (.long q2), .second, .val (.long q3), .second, .val (.long q4), .second, .val (.long q5), .second, .val (.long q6), .second, .unset, .unset, .unset, .unset, .unset, .unset, .unset, .unset] [(.long q1)])
  refine own_go (fun _ k => XS.lloadN X0.here hx rfl (hb hby at_1) rfl k) ?_
  show own_Go _ _ _ _ s₁ (mkF m 2 #[.val (.long q1), .second, .val (.long q2), .second, .val (.long q3), .second, .val (.long q4), .second, .val (.long q5), .second, .val (.long q6), .second, .unset, .unset, .unset, .unset, .unset, .unset, .unset, .unset] [(.long q2), (.long q1)])
  refine own_go (fun _ k => XS.ladd X0.here hx rfl (hb hby at_2) rfl k) ?_
  show own_Go _ _ _ _ s₁ (mkF m 3 #[.val (.long q1), .second, .val (.long q2), .second, .val (.long q3), .second, .val (.long q4), .second, .val (.long q5), .second, .val (.long q6), .second, .unset, .unset, .unset, .unset, .unset, .unset, .unset, .unset] [(.long (q1 + q2))])
  refine own_go (fun _ k => XS.lstore X0.here hx rfl (hb hby at_3) rfl (l' := #[.val (.long q1), .second, .val (.long q2), .second, .val (.long q3), .second, .val (.long q4), .second, .val (.long q5), .second, .val (.long q6), .second, .val (.long (q1 + q2)), .second, .unset, .unset, .unset, .unset, .unset, .unset]) rfl k) ?_
  show own_Go _ _ _ _ s₁ (mkF m 5 #[.val (.long q1), .second, .val (.long q2), .second, .val (.long q3), .second, .val (.long q4), .second, .val (.long q5), .second, .val (.long q6), .second, .val (.long (q1 + q2)), .second, .unset, .unset, .unset, .unset, .unset, .unset] [])
  refine own_go (fun _ k => XS.lload X0.here hx rfl (hb hby at_5) rfl k) ?_
  show own_Go _ _ _ _ s₁ (mkF m 7 #[.val (.long q1), .second, .val (.long q2), .second, .val (.long q3), .second, .val (.long q4), .second, .val (.long q5), .second, .val (.long q6), .second, .val (.long (q1 + q2)), .second, .unset, .unset, .unset, .unset, .unset, .unset] [(.long q3)])
  refine own_go (X0.ldc2Long hx hown (mvT hZ (hw _ (List.mem_of_getElem? (i := 0) rfl))) (g := (mkF m 7 #[.val (.long q1), .second, .val (.long q2), .second, .val (.long q3), .second, .val (.long q4), .second, .val (.long q5), .second, .val (.long q6), .second, .val (.long (q1 + q2)), .second, .unset, .unset, .unset, .unset, .unset, .unset] [(.long q3)])) rfl (hb hby at_7)) ?_
  show own_Go _ _ _ _ s₁ (mkF m 10 #[.val (.long q1), .second, .val (.long q2), .second, .val (.long q3), .second, .val (.long q4), .second, .val (.long q5), .second, .val (.long q6), .second, .val (.long (q1 + q2)), .second, .unset, .unset, .unset, .unset, .unset, .unset] [(.long (-1 : Int64)), (.long q3)])
  refine own_go (fun _ k => XS.lxor X0.here hx rfl (hb hby at_10) rfl k) ?_
  show own_Go _ _ _ _ s₁ (mkF m 11 #[.val (.long q1), .second, .val (.long q2), .second, .val (.long q3), .second, .val (.long q4), .second, .val (.long q5), .second, .val (.long q6), .second, .val (.long (q1 + q2)), .second, .unset, .unset, .unset, .unset, .unset, .unset] [(.long (q3 ^^^ (-1 : Int64)))])
  refine own_go (fun _ k => XS.lstore X0.here hx rfl (hb hby at_11) rfl (l' := #[.val (.long q1), .second, .val (.long q2), .second, .val (.long q3), .second, .val (.long q4), .second, .val (.long q5), .second, .val (.long q6), .second, .val (.long (q1 + q2)), .second, .val (.long (q3 ^^^ (-1 : Int64))), .second, .unset, .unset, .unset, .unset]) rfl k) ?_
  show own_Go _ _ _ _ s₁ (mkF m 13 #[.val (.long q1), .second, .val (.long q2), .second, .val (.long q3), .second, .val (.long q4), .second, .val (.long q5), .second, .val (.long q6), .second, .val (.long (q1 + q2)), .second, .val (.long (q3 ^^^ (-1 : Int64))), .second, .unset, .unset, .unset, .unset] [])
  refine own_go (fun _ k => XS.lload X0.here hx rfl (hb hby at_13) rfl k) ?_
  show own_Go _ _ _ _ s₁ (mkF m 15 #[.val (.long q1), .second, .val (.long q2), .second, .val (.long q3), .second, .val (.long q4), .second, .val (.long q5), .second, .val (.long q6), .second, .val (.long (q1 + q2)), .second, .val (.long (q3 ^^^ (-1 : Int64))), .second, .unset, .unset, .unset, .unset] [(.long q6)])
  refine own_go (X0.ldc2Long hx hown (mvT hZ (hw _ (List.mem_of_getElem? (i := 0) rfl))) (g := (mkF m 15 #[.val (.long q1), .second, .val (.long q2), .second, .val (.long q3), .second, .val (.long q4), .second, .val (.long q5), .second, .val (.long q6), .second, .val (.long (q1 + q2)), .second, .val (.long (q3 ^^^ (-1 : Int64))), .second, .unset, .unset, .unset, .unset] [(.long q6)])) rfl (hb hby at_15)) ?_
  show own_Go _ _ _ _ s₁ (mkF m 18 #[.val (.long q1), .second, .val (.long q2), .second, .val (.long q3), .second, .val (.long q4), .second, .val (.long q5), .second, .val (.long q6), .second, .val (.long (q1 + q2)), .second, .val (.long (q3 ^^^ (-1 : Int64))), .second, .unset, .unset, .unset, .unset] [(.long (-1 : Int64)), (.long q6)])
  refine own_go (fun _ k => XS.lxor X0.here hx rfl (hb hby at_18) rfl k) ?_
  show own_Go _ _ _ _ s₁ (mkF m 19 #[.val (.long q1), .second, .val (.long q2), .second, .val (.long q3), .second, .val (.long q4), .second, .val (.long q5), .second, .val (.long q6), .second, .val (.long (q1 + q2)), .second, .val (.long (q3 ^^^ (-1 : Int64))), .second, .unset, .unset, .unset, .unset] [(.long (q6 ^^^ (-1 : Int64)))])
  refine own_go (fun _ k => XS.lstore X0.here hx rfl (hb hby at_19) rfl (l' := #[.val (.long q1), .second, .val (.long q2), .second, .val (.long q3), .second, .val (.long q4), .second, .val (.long q5), .second, .val (.long q6), .second, .val (.long (q1 + q2)), .second, .val (.long (q3 ^^^ (-1 : Int64))), .second, .val (.long (q6 ^^^ (-1 : Int64))), .second, .unset, .unset]) rfl k) ?_
  show own_Go _ _ _ _ s₁ (mkF m 21 #[.val (.long q1), .second, .val (.long q2), .second, .val (.long q3), .second, .val (.long q4), .second, .val (.long q5), .second, .val (.long q6), .second, .val (.long (q1 + q2)), .second, .val (.long (q3 ^^^ (-1 : Int64))), .second, .val (.long (q6 ^^^ (-1 : Int64))), .second, .unset, .unset] [])
  obtain ⟨T62, h62, X62, e62, E62, A62, D62, -, st62⟩ := newO X0 hx hZ hown (hw _ (List.mem_of_getElem? (i := 1) rfl)) (hw _ (List.mem_of_getElem? (i := 2) rfl)) (hw _ (List.mem_of_getElem? (i := 3) rfl)) e0 (g := (mkF m 21 #[.val (.long q1), .second, .val (.long q2), .second, .val (.long q3), .second, .val (.long q4), .second, .val (.long q5), .second, .val (.long q6), .second, .val (.long (q1 + q2)), .second, .val (.long (q3 ^^^ (-1 : Int64))), .second, .val (.long (q6 ^^^ (-1 : Int64))), .second, .unset, .unset] [])) rfl (hb hby at_21) (by decide) (by decide)
  obtain ⟨b62, g62⟩ : ∃ z, z = h0.size := ⟨_, rfl⟩
  rw [← g62] at A62 D62 st62
  refine own_go (st62) ?_
  have g_b62 : n0 ≤ b62 := Nat.le_trans Z0 (Nat.le_of_eq g62.symm)
  have F62_leftRows : Fld Z h62 b62 "weirjoin/Summary" "leftRows" "J" (.long (0 : Int64)) := D62 (Or.inr (hw _ (List.mem_of_getElem? (i := 11) rfl))) (ty := .long) (by decide)
  have F62_rightRows : Fld Z h62 b62 "weirjoin/Summary" "rightRows" "J" (.long (0 : Int64)) := D62 (Or.inr (hw _ (List.mem_of_getElem? (i := 13) rfl))) (ty := .long) (by decide)
  have F62_pairs : Fld Z h62 b62 "weirjoin/Summary" "pairs" "J" (.long (0 : Int64)) := D62 (Or.inr (hw _ (List.mem_of_getElem? (i := 15) rfl))) (ty := .long) (by decide)
  have F62_padded : Fld Z h62 b62 "weirjoin/Summary" "padded" "J" (.long (0 : Int64)) := D62 (Or.inr (hw _ (List.mem_of_getElem? (i := 17) rfl))) (ty := .long) (by decide)
  have F62_late : Fld Z h62 b62 "weirjoin/Summary" "late" "J" (.long (0 : Int64)) := D62 (Or.inr (hw _ (List.mem_of_getElem? (i := 19) rfl))) (ty := .long) (by decide)
  have F62_dropped : Fld Z h62 b62 "weirjoin/Summary" "dropped" "J" (.long (0 : Int64)) := D62 (Or.inr (hw _ (List.mem_of_getElem? (i := 21) rfl))) (ty := .long) (by decide)
  have F62_statePeak : Fld Z h62 b62 "weirjoin/Summary" "statePeak" "J" (.long (0 : Int64)) := D62 (Or.inr (hw _ (List.mem_of_getElem? (i := 23) rfl))) (ty := .long) (by decide)
  have F62_stateEnd : Fld Z h62 b62 "weirjoin/Summary" "stateEnd" "J" (.long (0 : Int64)) := D62 (Or.inr (hw _ (List.mem_of_getElem? (i := 25) rfl))) (ty := .long) (by decide)
  have F62_fires : Fld Z h62 b62 "weirjoin/Summary" "fires" "J" (.long (0 : Int64)) := D62 (Or.inr (hw _ (List.mem_of_getElem? (i := 27) rfl))) (ty := .long) (by decide)
  show own_Go _ _ _ _ T62 (mkF m 24 #[.val (.long q1), .second, .val (.long q2), .second, .val (.long q3), .second, .val (.long q4), .second, .val (.long q5), .second, .val (.long q6), .second, .val (.long (q1 + q2)), .second, .val (.long (q3 ^^^ (-1 : Int64))), .second, .val (.long (q6 ^^^ (-1 : Int64))), .second, .unset, .unset] [(.ref b62)])
  refine own_go (fun _ k => XS.dup X62.here hx rfl (hb hby at_24) rfl rfl k) ?_
  show own_Go _ _ _ _ T62 (mkF m 25 #[.val (.long q1), .second, .val (.long q2), .second, .val (.long q3), .second, .val (.long q4), .second, .val (.long q5), .second, .val (.long q6), .second, .val (.long (q1 + q2)), .second, .val (.long (q3 ^^^ (-1 : Int64))), .second, .val (.long (q6 ^^^ (-1 : Int64))), .second, .unset, .unset] [(.ref b62), (.ref b62)])
  refine own_go (fun _ k => XS.lloadN X62.here hx rfl (hb hby at_25) rfl k) ?_
  show own_Go _ _ _ _ T62 (mkF m 26 #[.val (.long q1), .second, .val (.long q2), .second, .val (.long q3), .second, .val (.long q4), .second, .val (.long q5), .second, .val (.long q6), .second, .val (.long (q1 + q2)), .second, .val (.long (q3 ^^^ (-1 : Int64))), .second, .val (.long (q6 ^^^ (-1 : Int64))), .second, .unset, .unset] [(.long q1), (.ref b62), (.ref b62)])
  refine own_go (fun _ k => XS.lloadN X62.here hx rfl (hb hby at_26) rfl k) ?_
  show own_Go _ _ _ _ T62 (mkF m 27 #[.val (.long q1), .second, .val (.long q2), .second, .val (.long q3), .second, .val (.long q4), .second, .val (.long q5), .second, .val (.long q6), .second, .val (.long (q1 + q2)), .second, .val (.long (q3 ^^^ (-1 : Int64))), .second, .val (.long (q6 ^^^ (-1 : Int64))), .second, .unset, .unset] [(.long q2), (.long q1), (.ref b62), (.ref b62)])
  refine own_go (fun _ k => XS.lload X62.here hx rfl (hb hby at_27) rfl k) ?_
  show own_Go _ _ _ _ T62 (mkF m 29 #[.val (.long q1), .second, .val (.long q2), .second, .val (.long q3), .second, .val (.long q4), .second, .val (.long q5), .second, .val (.long q6), .second, .val (.long (q1 + q2)), .second, .val (.long (q3 ^^^ (-1 : Int64))), .second, .val (.long (q6 ^^^ (-1 : Int64))), .second, .unset, .unset] [(.long q3), (.long q2), (.long q1), (.ref b62), (.ref b62)])
  refine own_go (fun _ k => XS.lload X62.here hx rfl (hb hby at_29) rfl k) ?_
  show own_Go _ _ _ _ T62 (mkF m 31 #[.val (.long q1), .second, .val (.long q2), .second, .val (.long q3), .second, .val (.long q4), .second, .val (.long q5), .second, .val (.long q6), .second, .val (.long (q1 + q2)), .second, .val (.long (q3 ^^^ (-1 : Int64))), .second, .val (.long (q6 ^^^ (-1 : Int64))), .second, .unset, .unset] [(.long q4), (.long q3), (.long q2), (.long q1), (.ref b62), (.ref b62)])
  refine own_go (fun _ k => XS.lload X62.here hx rfl (hb hby at_31) rfl k) ?_
  show own_Go _ _ _ _ T62 (mkF m 33 #[.val (.long q1), .second, .val (.long q2), .second, .val (.long q3), .second, .val (.long q4), .second, .val (.long q5), .second, .val (.long q6), .second, .val (.long (q1 + q2)), .second, .val (.long (q3 ^^^ (-1 : Int64))), .second, .val (.long (q6 ^^^ (-1 : Int64))), .second, .unset, .unset] [(.long q5), (.long q4), (.long q3), (.long q2), (.long q1), (.ref b62), (.ref b62)])
  refine own_go (fun _ k => XS.lload X62.here hx rfl (hb hby at_33) rfl k) ?_
  show own_Go _ _ _ _ T62 (mkF m 35 #[.val (.long q1), .second, .val (.long q2), .second, .val (.long q3), .second, .val (.long q4), .second, .val (.long q5), .second, .val (.long q6), .second, .val (.long (q1 + q2)), .second, .val (.long (q3 ^^^ (-1 : Int64))), .second, .val (.long (q6 ^^^ (-1 : Int64))), .second, .unset, .unset] [(.long q6), (.long q5), (.long q4), (.long q3), (.long q2), (.long q1), (.ref b62), (.ref b62)])
  refine own_go (fun _ k => XS.lload X62.here hx rfl (hb hby at_35) rfl k) ?_
  show own_Go _ _ _ _ T62 (mkF m 37 #[.val (.long q1), .second, .val (.long q2), .second, .val (.long q3), .second, .val (.long q4), .second, .val (.long q5), .second, .val (.long q6), .second, .val (.long (q1 + q2)), .second, .val (.long (q3 ^^^ (-1 : Int64))), .second, .val (.long (q6 ^^^ (-1 : Int64))), .second, .unset, .unset] [(.long (q1 + q2)), (.long q6), (.long q5), (.long q4), (.long q3), (.long q2), (.long q1), (.ref b62), (.ref b62)])
  refine own_go (fun _ k => XS.lload X62.here hx rfl (hb hby at_37) rfl k) ?_
  show own_Go _ _ _ _ T62 (mkF m 39 #[.val (.long q1), .second, .val (.long q2), .second, .val (.long q3), .second, .val (.long q4), .second, .val (.long q5), .second, .val (.long q6), .second, .val (.long (q1 + q2)), .second, .val (.long (q3 ^^^ (-1 : Int64))), .second, .val (.long (q6 ^^^ (-1 : Int64))), .second, .unset, .unset] [(.long (q3 ^^^ (-1 : Int64))), (.long (q1 + q2)), (.long q6), (.long q5), (.long q4), (.long q3), (.long q2), (.long q1), (.ref b62), (.ref b62)])
  refine own_go (fun _ k => XS.lload X62.here hx rfl (hb hby at_39) rfl k) ?_
  show own_Go _ _ _ _ T62 (mkF m 41 #[.val (.long q1), .second, .val (.long q2), .second, .val (.long q3), .second, .val (.long q4), .second, .val (.long q5), .second, .val (.long q6), .second, .val (.long (q1 + q2)), .second, .val (.long (q3 ^^^ (-1 : Int64))), .second, .val (.long (q6 ^^^ (-1 : Int64))), .second, .unset, .unset] [(.long (q6 ^^^ (-1 : Int64))), (.long (q3 ^^^ (-1 : Int64))), (.long (q1 + q2)), (.long q6), (.long q5), (.long q4), (.long q3), (.long q2), (.long q1), (.ref b62), (.ref b62)])
  have f63 := (Nat.le_trans Z0 E62.1)
  obtain ⟨v64, T64, h64, L64, X64, e64, hQ64, st64⟩ := own_callI X62 hx hZ rfl hown (hw _ (List.mem_of_getElem? (i := 4) rfl)) (hw _ (List.mem_of_getElem? (i := 5) rfl)) (hw _ (List.mem_of_getElem? (i := 3) rfl)) (hw _ (List.mem_of_getElem? (i := 6) rfl)) (by decide) e62 (a := b62) (argsL := [(.long q1), (.long q2), (.long q3), (.long q4), (.long q5), (.long q6), (.long (q1 + q2)), (.long (q3 ^^^ (-1 : Int64))), (.long (q6 ^^^ (-1 : Int64)))]) (rest := [(.ref b62)]) (rm1 l Z a0 hw [] b62 q1 q2 q3 q4 q5 q6 (q1 + q2) (q3 ^^^ (-1 : Int64)) (q6 ^^^ (-1 : Int64)) h62 n0 f63 A62 F62_leftRows F62_rightRows F62_pairs F62_padded F62_late F62_dropped F62_statePeak F62_stateEnd F62_fires g_b62) 1 (by decide) (by decide) (by decide) (by decide) (g := (mkF m 41 #[.val (.long q1), .second, .val (.long q2), .second, .val (.long q3), .second, .val (.long q4), .second, .val (.long q5), .second, .val (.long q6), .second, .val (.long (q1 + q2)), .second, .val (.long (q3 ^^^ (-1 : Int64))), .second, .val (.long (q6 ^^^ (-1 : Int64))), .second, .unset, .unset] [(.long (q6 ^^^ (-1 : Int64))), (.long (q3 ^^^ (-1 : Int64))), (.long (q1 + q2)), (.long q6), (.long q5), (.long q4), (.long q3), (.long q2), (.long q1), (.ref b62), (.ref b62)])) rfl (by rw [hml]; rfl) (lenOf pd0 rfl) rfl (Nat.le_of_eq rfl) (hb hby at_41)
  obtain ⟨rfl, N64q, K64, E64x, F64_leftRows, F64_rightRows, F64_pairs, F64_padded, F64_late, F64_dropped, F64_statePeak, F64_stateEnd, F64_fires⟩ := hQ64
  refine own_go (st64) ?_
  have N64 := Fr.app N0 N64q
  show own_Go _ _ _ _ T64 (mkF m 44 #[.val (.long q1), .second, .val (.long q2), .second, .val (.long q3), .second, .val (.long q4), .second, .val (.long q5), .second, .val (.long q6), .second, .val (.long (q1 + q2)), .second, .val (.long (q3 ^^^ (-1 : Int64))), .second, .val (.long (q6 ^^^ (-1 : Int64))), .second, .unset, .unset] [(.ref b62)])
  refine own_go (fun _ k => XS.astore X64.here hx rfl (hb hby at_44) rfl rfl (l' := #[.val (.long q1), .second, .val (.long q2), .second, .val (.long q3), .second, .val (.long q4), .second, .val (.long q5), .second, .val (.long q6), .second, .val (.long (q1 + q2)), .second, .val (.long (q3 ^^^ (-1 : Int64))), .second, .val (.long (q6 ^^^ (-1 : Int64))), .second, .val (.ref b62), .unset]) rfl k) ?_
  show own_Go _ _ _ _ T64 (mkF m 46 #[.val (.long q1), .second, .val (.long q2), .second, .val (.long q3), .second, .val (.long q4), .second, .val (.long q5), .second, .val (.long q6), .second, .val (.long (q1 + q2)), .second, .val (.long (q3 ^^^ (-1 : Int64))), .second, .val (.long (q6 ^^^ (-1 : Int64))), .second, .val (.ref b62), .unset] [])
  refine own_go (fun _ k => XS.aload X64.here hx rfl (hb hby at_46) rfl rfl k) ?_
  show own_Go _ _ _ _ T64 (mkF m 48 #[.val (.long q1), .second, .val (.long q2), .second, .val (.long q3), .second, .val (.long q4), .second, .val (.long q5), .second, .val (.long q6), .second, .val (.long (q1 + q2)), .second, .val (.long (q3 ^^^ (-1 : Int64))), .second, .val (.long (q6 ^^^ (-1 : Int64))), .second, .val (.ref b62), .unset] [(.ref b62)])
  have f65 := (Nat.le_trans f63 K64.1)
  obtain ⟨v66, T66, h66, L66, X66, e66, hQ66, st66⟩ := own_callV X64 hx hZ hown (hw _ (List.mem_of_getElem? (i := 28) rfl)) (hw _ (List.mem_of_getElem? (i := 29) rfl)) (hw _ (List.mem_of_getElem? (i := 31) rfl)) (notFace_of_selects (args := #[]) (mvT hZ (hw _ (List.mem_of_getElem? (i := 31) rfl)))) (hw _ (List.mem_of_getElem? (i := 30) rfl)) (hw _ (List.mem_of_getElem? (i := 3) rfl)) (hw _ (List.mem_of_getElem? (i := 32) rfl)) (by decide) e64 E64x (argsL := []) (rest := []) (rm2 l Z a0 hw [] b62 q1 q2 q3 q4 q5 q6 (q1 + q2) (q3 ^^^ (-1 : Int64)) h64 n0 f65 F64_leftRows F64_rightRows F64_pairs F64_padded F64_late F64_dropped F64_statePeak F64_stateEnd) 0 (by decide) (by decide) (by decide) (by decide) (g := (mkF m 48 #[.val (.long q1), .second, .val (.long q2), .second, .val (.long q3), .second, .val (.long q4), .second, .val (.long q5), .second, .val (.long q6), .second, .val (.long (q1 + q2)), .second, .val (.long (q3 ^^^ (-1 : Int64))), .second, .val (.long (q6 ^^^ (-1 : Int64))), .second, .val (.ref b62), .unset] [(.ref b62)])) rfl (by rw [hml]; rfl) (lenOf pd1 rfl) rfl (Nat.le_of_eq rfl) (hb hby at_48)
  obtain ⟨b66, kk66, rfl, N66q, V66⟩ := hQ66
  refine own_go (st66) ?_
  have N66 := Fr.app N64 N66q
  show own_Go _ _ _ _ T66 (mkF m 51 #[.val (.long q1), .second, .val (.long q2), .second, .val (.long q3), .second, .val (.long q4), .second, .val (.long q5), .second, .val (.long q6), .second, .val (.long (q1 + q2)), .second, .val (.long (q3 ^^^ (-1 : Int64))), .second, .val (.long (q6 ^^^ (-1 : Int64))), .second, .val (.ref b62), .unset] [(.ref b66)])
  refine own_go (fun _ k => XS.astore X66.here hx rfl (hb hby at_51) rfl rfl (l' := #[.val (.long q1), .second, .val (.long q2), .second, .val (.long q3), .second, .val (.long q4), .second, .val (.long q5), .second, .val (.long q6), .second, .val (.long (q1 + q2)), .second, .val (.long (q3 ^^^ (-1 : Int64))), .second, .val (.long (q6 ^^^ (-1 : Int64))), .second, .val (.ref b62), .val (.ref b66)]) rfl k) ?_
  show own_Go _ _ _ _ T66 (mkF m 53 #[.val (.long q1), .second, .val (.long q2), .second, .val (.long q3), .second, .val (.long q4), .second, .val (.long q5), .second, .val (.long q6), .second, .val (.long (q1 + q2)), .second, .val (.long (q3 ^^^ (-1 : Int64))), .second, .val (.long (q6 ^^^ (-1 : Int64))), .second, .val (.ref b62), .val (.ref b66)] [])
  refine own_go (fun _ k => XS.aload X66.here hx rfl (hb hby at_53) rfl rfl k) ?_
  show own_Go _ _ _ _ T66 (mkF m 55 #[.val (.long q1), .second, .val (.long q2), .second, .val (.long q3), .second, .val (.long q4), .second, .val (.long q5), .second, .val (.long q6), .second, .val (.long (q1 + q2)), .second, .val (.long (q3 ^^^ (-1 : Int64))), .second, .val (.long (q6 ^^^ (-1 : Int64))), .second, .val (.ref b62), .val (.ref b66)] [(.ref b66)])
  refine own_go (fun _ k => XS.ifnullNo X66.here hx rfl (hb hby at_55) rfl k) ?_
  show own_Go _ _ _ _ T66 (mkF m 58 #[.val (.long q1), .second, .val (.long q2), .second, .val (.long q3), .second, .val (.long q4), .second, .val (.long q5), .second, .val (.long q6), .second, .val (.long (q1 + q2)), .second, .val (.long (q3 ^^^ (-1 : Int64))), .second, .val (.long (q6 ^^^ (-1 : Int64))), .second, .val (.ref b62), .val (.ref b66)] [])
  refine own_go (fun _ k => XS.aload X66.here hx rfl (hb hby at_58) rfl rfl k) ?_
  show own_Go _ _ _ _ T66 (mkF m 60 #[.val (.long q1), .second, .val (.long q2), .second, .val (.long q3), .second, .val (.long q4), .second, .val (.long q5), .second, .val (.long q6), .second, .val (.long (q1 + q2)), .second, .val (.long (q3 ^^^ (-1 : Int64))), .second, .val (.long (q6 ^^^ (-1 : Int64))), .second, .val (.ref b62), .val (.ref b66)] [(.ref b66)])
  obtain ⟨cl67, Ar67, q67, S67, M67, H67, G67⟩ := V66
  have V67 : Arv Z h66 b66 kk66 .long (8 : Int32) _ _ := ⟨cl67, Ar67, q67, S67, M67, H67, G67⟩
  refine own_go (fun t k => X66.arraylength hx (by rw [e66]; exact Ar67.1) (State.isArrayOf_alike hZ.alike Ar67.2.1) (g := (mkF m 60 #[.val (.long q1), .second, .val (.long q2), .second, .val (.long q3), .second, .val (.long q4), .second, .val (.long q5), .second, .val (.long q6), .second, .val (.long (q1 + q2)), .second, .val (.long (q3 ^^^ (-1 : Int64))), .second, .val (.long (q6 ^^^ (-1 : Int64))), .second, .val (.ref b62), .val (.ref b66)] [(.ref b66)])) rfl rfl (hb hby at_60) t k) ?_
  rw [len_of S67 M67]
  show own_Go _ _ _ _ T66 (mkF m 61 #[.val (.long q1), .second, .val (.long q2), .second, .val (.long q3), .second, .val (.long q4), .second, .val (.long q5), .second, .val (.long q6), .second, .val (.long (q1 + q2)), .second, .val (.long (q3 ^^^ (-1 : Int64))), .second, .val (.long (q6 ^^^ (-1 : Int64))), .second, .val (.ref b62), .val (.ref b66)] [(.int (8 : Int32))])
  refine own_go (fun _ k => XS.bipush X66.here hx rfl (hb hby at_61) k) ?_
  show own_Go _ _ _ _ T66 (mkF m 63 #[.val (.long q1), .second, .val (.long q2), .second, .val (.long q3), .second, .val (.long q4), .second, .val (.long q5), .second, .val (.long q6), .second, .val (.long (q1 + q2)), .second, .val (.long (q3 ^^^ (-1 : Int64))), .second, .val (.long (q6 ^^^ (-1 : Int64))), .second, .val (.ref b62), .val (.ref b66)] [(.int (8 : Int32)), (.int (8 : Int32))])
  refine own_go (fun _ k => XS.icmpYes X66.here hx rfl (pc0 := 63) (pc' := 68) rfl (hb hby at_63) rfl (teq rfl).1 (by decide) (by decide) k) ?_
  show own_Go _ _ _ _ T66 (mkF m 68 #[.val (.long q1), .second, .val (.long q2), .second, .val (.long q3), .second, .val (.long q4), .second, .val (.long q5), .second, .val (.long q6), .second, .val (.long (q1 + q2)), .second, .val (.long (q3 ^^^ (-1 : Int64))), .second, .val (.long (q6 ^^^ (-1 : Int64))), .second, .val (.ref b62), .val (.ref b66)] [])
  refine own_go (fun _ k => XS.aload X66.here hx rfl (hb hby at_68) rfl rfl k) ?_
  show own_Go _ _ _ _ T66 (mkF m 70 #[.val (.long q1), .second, .val (.long q2), .second, .val (.long q3), .second, .val (.long q4), .second, .val (.long q5), .second, .val (.long q6), .second, .val (.long (q1 + q2)), .second, .val (.long (q3 ^^^ (-1 : Int64))), .second, .val (.long (q6 ^^^ (-1 : Int64))), .second, .val (.ref b62), .val (.ref b66)] [(.ref b66)])
  refine own_go (fun _ k => XS.iconst X66.here hx rfl (hb hby at_70) k) ?_
  show own_Go _ _ _ _ T66 (mkF m 71 #[.val (.long q1), .second, .val (.long q2), .second, .val (.long q3), .second, .val (.long q4), .second, .val (.long q5), .second, .val (.long q6), .second, .val (.long (q1 + q2)), .second, .val (.long (q3 ^^^ (-1 : Int64))), .second, .val (.long (q6 ^^^ (-1 : Int64))), .second, .val (.ref b62), .val (.ref b66)] [(.int (0 : Int32)), (.ref b66)])
  obtain ⟨cl68, Ar68, q68, S68, M68, H68, G68⟩ := V67
  have V68 : Arv Z h66 b66 kk66 .long (8 : Int32) _ _ := ⟨cl68, Ar68, q68, S68, M68, H68, G68⟩
  have hin68 : ¬ ((0 : Int32) < 0 ∨ cl68.slots.size ≤ ((0 : Int32)).toNatClampNeg) := inb_of S68 ⟨by decide, by decide⟩
  have hat68 : cl68.slots[((0 : Int32)).toNatClampNeg]? = some (.long q1) := H68.at hin68 rfl
  refine own_go (X66.laload hx (j := (0 : Int32)) (v := (.long q1)) (by rw [e66]; exact Ar68.1) (State.isArrayOf_alike hZ.alike Ar68.2.1) Ar68.2.2 hin68 hat68 (g := (mkF m 71 #[.val (.long q1), .second, .val (.long q2), .second, .val (.long q3), .second, .val (.long q4), .second, .val (.long q5), .second, .val (.long q6), .second, .val (.long (q1 + q2)), .second, .val (.long (q3 ^^^ (-1 : Int64))), .second, .val (.long (q6 ^^^ (-1 : Int64))), .second, .val (.ref b62), .val (.ref b66)] [(.int (0 : Int32)), (.ref b66)])) rfl rfl (hb hby at_71)) ?_
  show own_Go _ _ _ _ T66 (mkF m 72 #[.val (.long q1), .second, .val (.long q2), .second, .val (.long q3), .second, .val (.long q4), .second, .val (.long q5), .second, .val (.long q6), .second, .val (.long (q1 + q2)), .second, .val (.long (q3 ^^^ (-1 : Int64))), .second, .val (.long (q6 ^^^ (-1 : Int64))), .second, .val (.ref b62), .val (.ref b66)] [(.long q1)])
  refine own_go (fun _ k => XS.lloadN X66.here hx rfl (hb hby at_72) rfl k) ?_
  show own_Go _ _ _ _ T66 (mkF m 73 #[.val (.long q1), .second, .val (.long q2), .second, .val (.long q3), .second, .val (.long q4), .second, .val (.long q5), .second, .val (.long q6), .second, .val (.long (q1 + q2)), .second, .val (.long (q3 ^^^ (-1 : Int64))), .second, .val (.long (q6 ^^^ (-1 : Int64))), .second, .val (.ref b62), .val (.ref b66)] [(.long q1), (.long q1)])
  refine own_go (fun _ k => XS.lcmp X66.here hx rfl (hb hby at_73) rfl k) ?_
  show own_Go _ _ _ _ T66 (mkF m 74 #[.val (.long q1), .second, .val (.long q2), .second, .val (.long q3), .second, .val (.long q4), .second, .val (.long q5), .second, .val (.long q6), .second, .val (.long (q1 + q2)), .second, .val (.long (q3 ^^^ (-1 : Int64))), .second, .val (.long (q6 ^^^ (-1 : Int64))), .second, .val (.ref b62), .val (.ref b66)] [(.int (lcmpW q1 q1))])
  refine own_go (fun _ k => XS.ifNo X66.here hx rfl (hb hby at_74) rfl ((if0 _ _).trans (teq ((lw_eq _ _).mpr rfl)).2) k) ?_
  show own_Go _ _ _ _ T66 (mkF m 77 #[.val (.long q1), .second, .val (.long q2), .second, .val (.long q3), .second, .val (.long q4), .second, .val (.long q5), .second, .val (.long q6), .second, .val (.long (q1 + q2)), .second, .val (.long (q3 ^^^ (-1 : Int64))), .second, .val (.long (q6 ^^^ (-1 : Int64))), .second, .val (.ref b62), .val (.ref b66)] [])
  refine own_go (fun _ k => XS.aload X66.here hx rfl (hb hby at_77) rfl rfl k) ?_
  show own_Go _ _ _ _ T66 (mkF m 79 #[.val (.long q1), .second, .val (.long q2), .second, .val (.long q3), .second, .val (.long q4), .second, .val (.long q5), .second, .val (.long q6), .second, .val (.long (q1 + q2)), .second, .val (.long (q3 ^^^ (-1 : Int64))), .second, .val (.long (q6 ^^^ (-1 : Int64))), .second, .val (.ref b62), .val (.ref b66)] [(.ref b66)])
  refine own_go (fun _ k => XS.iconst X66.here hx rfl (hb hby at_79) k) ?_
  show own_Go _ _ _ _ T66 (mkF m 80 #[.val (.long q1), .second, .val (.long q2), .second, .val (.long q3), .second, .val (.long q4), .second, .val (.long q5), .second, .val (.long q6), .second, .val (.long (q1 + q2)), .second, .val (.long (q3 ^^^ (-1 : Int64))), .second, .val (.long (q6 ^^^ (-1 : Int64))), .second, .val (.ref b62), .val (.ref b66)] [(.int (1 : Int32)), (.ref b66)])
  obtain ⟨cl69, Ar69, q69, S69, M69, H69, G69⟩ := V68
  have V69 : Arv Z h66 b66 kk66 .long (8 : Int32) _ _ := ⟨cl69, Ar69, q69, S69, M69, H69, G69⟩
  have hin69 : ¬ ((1 : Int32) < 0 ∨ cl69.slots.size ≤ ((1 : Int32)).toNatClampNeg) := inb_of S69 ⟨by decide, by decide⟩
  have hat69 : cl69.slots[((1 : Int32)).toNatClampNeg]? = some (.long q2) := H69.at hin69 rfl
  refine own_go (X66.laload hx (j := (1 : Int32)) (v := (.long q2)) (by rw [e66]; exact Ar69.1) (State.isArrayOf_alike hZ.alike Ar69.2.1) Ar69.2.2 hin69 hat69 (g := (mkF m 80 #[.val (.long q1), .second, .val (.long q2), .second, .val (.long q3), .second, .val (.long q4), .second, .val (.long q5), .second, .val (.long q6), .second, .val (.long (q1 + q2)), .second, .val (.long (q3 ^^^ (-1 : Int64))), .second, .val (.long (q6 ^^^ (-1 : Int64))), .second, .val (.ref b62), .val (.ref b66)] [(.int (1 : Int32)), (.ref b66)])) rfl rfl (hb hby at_80)) ?_
  show own_Go _ _ _ _ T66 (mkF m 81 #[.val (.long q1), .second, .val (.long q2), .second, .val (.long q3), .second, .val (.long q4), .second, .val (.long q5), .second, .val (.long q6), .second, .val (.long (q1 + q2)), .second, .val (.long (q3 ^^^ (-1 : Int64))), .second, .val (.long (q6 ^^^ (-1 : Int64))), .second, .val (.ref b62), .val (.ref b66)] [(.long q2)])
  refine own_go (fun _ k => XS.lloadN X66.here hx rfl (hb hby at_81) rfl k) ?_
  show own_Go _ _ _ _ T66 (mkF m 82 #[.val (.long q1), .second, .val (.long q2), .second, .val (.long q3), .second, .val (.long q4), .second, .val (.long q5), .second, .val (.long q6), .second, .val (.long (q1 + q2)), .second, .val (.long (q3 ^^^ (-1 : Int64))), .second, .val (.long (q6 ^^^ (-1 : Int64))), .second, .val (.ref b62), .val (.ref b66)] [(.long q2), (.long q2)])
  refine own_go (fun _ k => XS.lcmp X66.here hx rfl (hb hby at_82) rfl k) ?_
  show own_Go _ _ _ _ T66 (mkF m 83 #[.val (.long q1), .second, .val (.long q2), .second, .val (.long q3), .second, .val (.long q4), .second, .val (.long q5), .second, .val (.long q6), .second, .val (.long (q1 + q2)), .second, .val (.long (q3 ^^^ (-1 : Int64))), .second, .val (.long (q6 ^^^ (-1 : Int64))), .second, .val (.ref b62), .val (.ref b66)] [(.int (lcmpW q2 q2))])
  refine own_go (fun _ k => XS.ifNo X66.here hx rfl (hb hby at_83) rfl ((if0 _ _).trans (teq ((lw_eq _ _).mpr rfl)).2) k) ?_
  show own_Go _ _ _ _ T66 (mkF m 86 #[.val (.long q1), .second, .val (.long q2), .second, .val (.long q3), .second, .val (.long q4), .second, .val (.long q5), .second, .val (.long q6), .second, .val (.long (q1 + q2)), .second, .val (.long (q3 ^^^ (-1 : Int64))), .second, .val (.long (q6 ^^^ (-1 : Int64))), .second, .val (.ref b62), .val (.ref b66)] [])
  refine own_go (fun _ k => XS.aload X66.here hx rfl (hb hby at_86) rfl rfl k) ?_
  show own_Go _ _ _ _ T66 (mkF m 88 #[.val (.long q1), .second, .val (.long q2), .second, .val (.long q3), .second, .val (.long q4), .second, .val (.long q5), .second, .val (.long q6), .second, .val (.long (q1 + q2)), .second, .val (.long (q3 ^^^ (-1 : Int64))), .second, .val (.long (q6 ^^^ (-1 : Int64))), .second, .val (.ref b62), .val (.ref b66)] [(.ref b66)])
  refine own_go (fun _ k => XS.iconst X66.here hx rfl (hb hby at_88) k) ?_
  show own_Go _ _ _ _ T66 (mkF m 89 #[.val (.long q1), .second, .val (.long q2), .second, .val (.long q3), .second, .val (.long q4), .second, .val (.long q5), .second, .val (.long q6), .second, .val (.long (q1 + q2)), .second, .val (.long (q3 ^^^ (-1 : Int64))), .second, .val (.long (q6 ^^^ (-1 : Int64))), .second, .val (.ref b62), .val (.ref b66)] [(.int (2 : Int32)), (.ref b66)])
  obtain ⟨cl70, Ar70, q70, S70, M70, H70, G70⟩ := V69
  have V70 : Arv Z h66 b66 kk66 .long (8 : Int32) _ _ := ⟨cl70, Ar70, q70, S70, M70, H70, G70⟩
  have hin70 : ¬ ((2 : Int32) < 0 ∨ cl70.slots.size ≤ ((2 : Int32)).toNatClampNeg) := inb_of S70 ⟨by decide, by decide⟩
  have hat70 : cl70.slots[((2 : Int32)).toNatClampNeg]? = some (.long q3) := H70.at hin70 rfl
  refine own_go (X66.laload hx (j := (2 : Int32)) (v := (.long q3)) (by rw [e66]; exact Ar70.1) (State.isArrayOf_alike hZ.alike Ar70.2.1) Ar70.2.2 hin70 hat70 (g := (mkF m 89 #[.val (.long q1), .second, .val (.long q2), .second, .val (.long q3), .second, .val (.long q4), .second, .val (.long q5), .second, .val (.long q6), .second, .val (.long (q1 + q2)), .second, .val (.long (q3 ^^^ (-1 : Int64))), .second, .val (.long (q6 ^^^ (-1 : Int64))), .second, .val (.ref b62), .val (.ref b66)] [(.int (2 : Int32)), (.ref b66)])) rfl rfl (hb hby at_89)) ?_
  show own_Go _ _ _ _ T66 (mkF m 90 #[.val (.long q1), .second, .val (.long q2), .second, .val (.long q3), .second, .val (.long q4), .second, .val (.long q5), .second, .val (.long q6), .second, .val (.long (q1 + q2)), .second, .val (.long (q3 ^^^ (-1 : Int64))), .second, .val (.long (q6 ^^^ (-1 : Int64))), .second, .val (.ref b62), .val (.ref b66)] [(.long q3)])
  refine own_go (fun _ k => XS.lload X66.here hx rfl (hb hby at_90) rfl k) ?_
  show own_Go _ _ _ _ T66 (mkF m 92 #[.val (.long q1), .second, .val (.long q2), .second, .val (.long q3), .second, .val (.long q4), .second, .val (.long q5), .second, .val (.long q6), .second, .val (.long (q1 + q2)), .second, .val (.long (q3 ^^^ (-1 : Int64))), .second, .val (.long (q6 ^^^ (-1 : Int64))), .second, .val (.ref b62), .val (.ref b66)] [(.long q3), (.long q3)])
  refine own_go (fun _ k => XS.lcmp X66.here hx rfl (hb hby at_92) rfl k) ?_
  show own_Go _ _ _ _ T66 (mkF m 93 #[.val (.long q1), .second, .val (.long q2), .second, .val (.long q3), .second, .val (.long q4), .second, .val (.long q5), .second, .val (.long q6), .second, .val (.long (q1 + q2)), .second, .val (.long (q3 ^^^ (-1 : Int64))), .second, .val (.long (q6 ^^^ (-1 : Int64))), .second, .val (.ref b62), .val (.ref b66)] [(.int (lcmpW q3 q3))])
  refine own_go (fun _ k => XS.ifNo X66.here hx rfl (hb hby at_93) rfl ((if0 _ _).trans (teq ((lw_eq _ _).mpr rfl)).2) k) ?_
  show own_Go _ _ _ _ T66 (mkF m 96 #[.val (.long q1), .second, .val (.long q2), .second, .val (.long q3), .second, .val (.long q4), .second, .val (.long q5), .second, .val (.long q6), .second, .val (.long (q1 + q2)), .second, .val (.long (q3 ^^^ (-1 : Int64))), .second, .val (.long (q6 ^^^ (-1 : Int64))), .second, .val (.ref b62), .val (.ref b66)] [])
  refine own_go (fun _ k => XS.aload X66.here hx rfl (hb hby at_96) rfl rfl k) ?_
  show own_Go _ _ _ _ T66 (mkF m 98 #[.val (.long q1), .second, .val (.long q2), .second, .val (.long q3), .second, .val (.long q4), .second, .val (.long q5), .second, .val (.long q6), .second, .val (.long (q1 + q2)), .second, .val (.long (q3 ^^^ (-1 : Int64))), .second, .val (.long (q6 ^^^ (-1 : Int64))), .second, .val (.ref b62), .val (.ref b66)] [(.ref b66)])
  refine own_go (fun _ k => XS.iconst X66.here hx rfl (hb hby at_98) k) ?_
  show own_Go _ _ _ _ T66 (mkF m 99 #[.val (.long q1), .second, .val (.long q2), .second, .val (.long q3), .second, .val (.long q4), .second, .val (.long q5), .second, .val (.long q6), .second, .val (.long (q1 + q2)), .second, .val (.long (q3 ^^^ (-1 : Int64))), .second, .val (.long (q6 ^^^ (-1 : Int64))), .second, .val (.ref b62), .val (.ref b66)] [(.int (3 : Int32)), (.ref b66)])
  obtain ⟨cl71, Ar71, q71, S71, M71, H71, G71⟩ := V70
  have V71 : Arv Z h66 b66 kk66 .long (8 : Int32) _ _ := ⟨cl71, Ar71, q71, S71, M71, H71, G71⟩
  have hin71 : ¬ ((3 : Int32) < 0 ∨ cl71.slots.size ≤ ((3 : Int32)).toNatClampNeg) := inb_of S71 ⟨by decide, by decide⟩
  have hat71 : cl71.slots[((3 : Int32)).toNatClampNeg]? = some (.long q4) := H71.at hin71 rfl
  refine own_go (X66.laload hx (j := (3 : Int32)) (v := (.long q4)) (by rw [e66]; exact Ar71.1) (State.isArrayOf_alike hZ.alike Ar71.2.1) Ar71.2.2 hin71 hat71 (g := (mkF m 99 #[.val (.long q1), .second, .val (.long q2), .second, .val (.long q3), .second, .val (.long q4), .second, .val (.long q5), .second, .val (.long q6), .second, .val (.long (q1 + q2)), .second, .val (.long (q3 ^^^ (-1 : Int64))), .second, .val (.long (q6 ^^^ (-1 : Int64))), .second, .val (.ref b62), .val (.ref b66)] [(.int (3 : Int32)), (.ref b66)])) rfl rfl (hb hby at_99)) ?_
  show own_Go _ _ _ _ T66 (mkF m 100 #[.val (.long q1), .second, .val (.long q2), .second, .val (.long q3), .second, .val (.long q4), .second, .val (.long q5), .second, .val (.long q6), .second, .val (.long (q1 + q2)), .second, .val (.long (q3 ^^^ (-1 : Int64))), .second, .val (.long (q6 ^^^ (-1 : Int64))), .second, .val (.ref b62), .val (.ref b66)] [(.long q4)])
  refine own_go (fun _ k => XS.lload X66.here hx rfl (hb hby at_100) rfl k) ?_
  show own_Go _ _ _ _ T66 (mkF m 102 #[.val (.long q1), .second, .val (.long q2), .second, .val (.long q3), .second, .val (.long q4), .second, .val (.long q5), .second, .val (.long q6), .second, .val (.long (q1 + q2)), .second, .val (.long (q3 ^^^ (-1 : Int64))), .second, .val (.long (q6 ^^^ (-1 : Int64))), .second, .val (.ref b62), .val (.ref b66)] [(.long q4), (.long q4)])
  refine own_go (fun _ k => XS.lcmp X66.here hx rfl (hb hby at_102) rfl k) ?_
  show own_Go _ _ _ _ T66 (mkF m 103 #[.val (.long q1), .second, .val (.long q2), .second, .val (.long q3), .second, .val (.long q4), .second, .val (.long q5), .second, .val (.long q6), .second, .val (.long (q1 + q2)), .second, .val (.long (q3 ^^^ (-1 : Int64))), .second, .val (.long (q6 ^^^ (-1 : Int64))), .second, .val (.ref b62), .val (.ref b66)] [(.int (lcmpW q4 q4))])
  refine own_go (fun _ k => XS.ifNo X66.here hx rfl (hb hby at_103) rfl ((if0 _ _).trans (teq ((lw_eq _ _).mpr rfl)).2) k) ?_
  show own_Go _ _ _ _ T66 (mkF m 106 #[.val (.long q1), .second, .val (.long q2), .second, .val (.long q3), .second, .val (.long q4), .second, .val (.long q5), .second, .val (.long q6), .second, .val (.long (q1 + q2)), .second, .val (.long (q3 ^^^ (-1 : Int64))), .second, .val (.long (q6 ^^^ (-1 : Int64))), .second, .val (.ref b62), .val (.ref b66)] [])
  refine own_go (fun _ k => XS.aload X66.here hx rfl (hb hby at_106) rfl rfl k) ?_
  show own_Go _ _ _ _ T66 (mkF m 108 #[.val (.long q1), .second, .val (.long q2), .second, .val (.long q3), .second, .val (.long q4), .second, .val (.long q5), .second, .val (.long q6), .second, .val (.long (q1 + q2)), .second, .val (.long (q3 ^^^ (-1 : Int64))), .second, .val (.long (q6 ^^^ (-1 : Int64))), .second, .val (.ref b62), .val (.ref b66)] [(.ref b66)])
  refine own_go (fun _ k => XS.iconst X66.here hx rfl (hb hby at_108) k) ?_
  show own_Go _ _ _ _ T66 (mkF m 109 #[.val (.long q1), .second, .val (.long q2), .second, .val (.long q3), .second, .val (.long q4), .second, .val (.long q5), .second, .val (.long q6), .second, .val (.long (q1 + q2)), .second, .val (.long (q3 ^^^ (-1 : Int64))), .second, .val (.long (q6 ^^^ (-1 : Int64))), .second, .val (.ref b62), .val (.ref b66)] [(.int (4 : Int32)), (.ref b66)])
  obtain ⟨cl72, Ar72, q72, S72, M72, H72, G72⟩ := V71
  have V72 : Arv Z h66 b66 kk66 .long (8 : Int32) _ _ := ⟨cl72, Ar72, q72, S72, M72, H72, G72⟩
  have hin72 : ¬ ((4 : Int32) < 0 ∨ cl72.slots.size ≤ ((4 : Int32)).toNatClampNeg) := inb_of S72 ⟨by decide, by decide⟩
  have hat72 : cl72.slots[((4 : Int32)).toNatClampNeg]? = some (.long q5) := H72.at hin72 rfl
  refine own_go (X66.laload hx (j := (4 : Int32)) (v := (.long q5)) (by rw [e66]; exact Ar72.1) (State.isArrayOf_alike hZ.alike Ar72.2.1) Ar72.2.2 hin72 hat72 (g := (mkF m 109 #[.val (.long q1), .second, .val (.long q2), .second, .val (.long q3), .second, .val (.long q4), .second, .val (.long q5), .second, .val (.long q6), .second, .val (.long (q1 + q2)), .second, .val (.long (q3 ^^^ (-1 : Int64))), .second, .val (.long (q6 ^^^ (-1 : Int64))), .second, .val (.ref b62), .val (.ref b66)] [(.int (4 : Int32)), (.ref b66)])) rfl rfl (hb hby at_109)) ?_
  show own_Go _ _ _ _ T66 (mkF m 110 #[.val (.long q1), .second, .val (.long q2), .second, .val (.long q3), .second, .val (.long q4), .second, .val (.long q5), .second, .val (.long q6), .second, .val (.long (q1 + q2)), .second, .val (.long (q3 ^^^ (-1 : Int64))), .second, .val (.long (q6 ^^^ (-1 : Int64))), .second, .val (.ref b62), .val (.ref b66)] [(.long q5)])
  refine own_go (fun _ k => XS.lload X66.here hx rfl (hb hby at_110) rfl k) ?_
  show own_Go _ _ _ _ T66 (mkF m 112 #[.val (.long q1), .second, .val (.long q2), .second, .val (.long q3), .second, .val (.long q4), .second, .val (.long q5), .second, .val (.long q6), .second, .val (.long (q1 + q2)), .second, .val (.long (q3 ^^^ (-1 : Int64))), .second, .val (.long (q6 ^^^ (-1 : Int64))), .second, .val (.ref b62), .val (.ref b66)] [(.long q5), (.long q5)])
  refine own_go (fun _ k => XS.lcmp X66.here hx rfl (hb hby at_112) rfl k) ?_
  show own_Go _ _ _ _ T66 (mkF m 113 #[.val (.long q1), .second, .val (.long q2), .second, .val (.long q3), .second, .val (.long q4), .second, .val (.long q5), .second, .val (.long q6), .second, .val (.long (q1 + q2)), .second, .val (.long (q3 ^^^ (-1 : Int64))), .second, .val (.long (q6 ^^^ (-1 : Int64))), .second, .val (.ref b62), .val (.ref b66)] [(.int (lcmpW q5 q5))])
  refine own_go (fun _ k => XS.ifNo X66.here hx rfl (hb hby at_113) rfl ((if0 _ _).trans (teq ((lw_eq _ _).mpr rfl)).2) k) ?_
  show own_Go _ _ _ _ T66 (mkF m 116 #[.val (.long q1), .second, .val (.long q2), .second, .val (.long q3), .second, .val (.long q4), .second, .val (.long q5), .second, .val (.long q6), .second, .val (.long (q1 + q2)), .second, .val (.long (q3 ^^^ (-1 : Int64))), .second, .val (.long (q6 ^^^ (-1 : Int64))), .second, .val (.ref b62), .val (.ref b66)] [])
  refine own_go (fun _ k => XS.aload X66.here hx rfl (hb hby at_116) rfl rfl k) ?_
  show own_Go _ _ _ _ T66 (mkF m 118 #[.val (.long q1), .second, .val (.long q2), .second, .val (.long q3), .second, .val (.long q4), .second, .val (.long q5), .second, .val (.long q6), .second, .val (.long (q1 + q2)), .second, .val (.long (q3 ^^^ (-1 : Int64))), .second, .val (.long (q6 ^^^ (-1 : Int64))), .second, .val (.ref b62), .val (.ref b66)] [(.ref b66)])
  refine own_go (fun _ k => XS.iconst X66.here hx rfl (hb hby at_118) k) ?_
  show own_Go _ _ _ _ T66 (mkF m 119 #[.val (.long q1), .second, .val (.long q2), .second, .val (.long q3), .second, .val (.long q4), .second, .val (.long q5), .second, .val (.long q6), .second, .val (.long (q1 + q2)), .second, .val (.long (q3 ^^^ (-1 : Int64))), .second, .val (.long (q6 ^^^ (-1 : Int64))), .second, .val (.ref b62), .val (.ref b66)] [(.int (5 : Int32)), (.ref b66)])
  obtain ⟨cl73, Ar73, q73, S73, M73, H73, G73⟩ := V72
  have V73 : Arv Z h66 b66 kk66 .long (8 : Int32) _ _ := ⟨cl73, Ar73, q73, S73, M73, H73, G73⟩
  have hin73 : ¬ ((5 : Int32) < 0 ∨ cl73.slots.size ≤ ((5 : Int32)).toNatClampNeg) := inb_of S73 ⟨by decide, by decide⟩
  have hat73 : cl73.slots[((5 : Int32)).toNatClampNeg]? = some (.long q6) := H73.at hin73 rfl
  refine own_go (X66.laload hx (j := (5 : Int32)) (v := (.long q6)) (by rw [e66]; exact Ar73.1) (State.isArrayOf_alike hZ.alike Ar73.2.1) Ar73.2.2 hin73 hat73 (g := (mkF m 119 #[.val (.long q1), .second, .val (.long q2), .second, .val (.long q3), .second, .val (.long q4), .second, .val (.long q5), .second, .val (.long q6), .second, .val (.long (q1 + q2)), .second, .val (.long (q3 ^^^ (-1 : Int64))), .second, .val (.long (q6 ^^^ (-1 : Int64))), .second, .val (.ref b62), .val (.ref b66)] [(.int (5 : Int32)), (.ref b66)])) rfl rfl (hb hby at_119)) ?_
  show own_Go _ _ _ _ T66 (mkF m 120 #[.val (.long q1), .second, .val (.long q2), .second, .val (.long q3), .second, .val (.long q4), .second, .val (.long q5), .second, .val (.long q6), .second, .val (.long (q1 + q2)), .second, .val (.long (q3 ^^^ (-1 : Int64))), .second, .val (.long (q6 ^^^ (-1 : Int64))), .second, .val (.ref b62), .val (.ref b66)] [(.long q6)])
  refine own_go (fun _ k => XS.lload X66.here hx rfl (hb hby at_120) rfl k) ?_
  show own_Go _ _ _ _ T66 (mkF m 122 #[.val (.long q1), .second, .val (.long q2), .second, .val (.long q3), .second, .val (.long q4), .second, .val (.long q5), .second, .val (.long q6), .second, .val (.long (q1 + q2)), .second, .val (.long (q3 ^^^ (-1 : Int64))), .second, .val (.long (q6 ^^^ (-1 : Int64))), .second, .val (.ref b62), .val (.ref b66)] [(.long q6), (.long q6)])
  refine own_go (fun _ k => XS.lcmp X66.here hx rfl (hb hby at_122) rfl k) ?_
  show own_Go _ _ _ _ T66 (mkF m 123 #[.val (.long q1), .second, .val (.long q2), .second, .val (.long q3), .second, .val (.long q4), .second, .val (.long q5), .second, .val (.long q6), .second, .val (.long (q1 + q2)), .second, .val (.long (q3 ^^^ (-1 : Int64))), .second, .val (.long (q6 ^^^ (-1 : Int64))), .second, .val (.ref b62), .val (.ref b66)] [(.int (lcmpW q6 q6))])
  refine own_go (fun _ k => XS.ifNo X66.here hx rfl (hb hby at_123) rfl ((if0 _ _).trans (teq ((lw_eq _ _).mpr rfl)).2) k) ?_
  show own_Go _ _ _ _ T66 (mkF m 126 #[.val (.long q1), .second, .val (.long q2), .second, .val (.long q3), .second, .val (.long q4), .second, .val (.long q5), .second, .val (.long q6), .second, .val (.long (q1 + q2)), .second, .val (.long (q3 ^^^ (-1 : Int64))), .second, .val (.long (q6 ^^^ (-1 : Int64))), .second, .val (.ref b62), .val (.ref b66)] [])
  refine own_go (fun _ k => XS.aload X66.here hx rfl (hb hby at_126) rfl rfl k) ?_
  show own_Go _ _ _ _ T66 (mkF m 128 #[.val (.long q1), .second, .val (.long q2), .second, .val (.long q3), .second, .val (.long q4), .second, .val (.long q5), .second, .val (.long q6), .second, .val (.long (q1 + q2)), .second, .val (.long (q3 ^^^ (-1 : Int64))), .second, .val (.long (q6 ^^^ (-1 : Int64))), .second, .val (.ref b62), .val (.ref b66)] [(.ref b66)])
  refine own_go (fun _ k => XS.bipush X66.here hx rfl (hb hby at_128) k) ?_
  show own_Go _ _ _ _ T66 (mkF m 130 #[.val (.long q1), .second, .val (.long q2), .second, .val (.long q3), .second, .val (.long q4), .second, .val (.long q5), .second, .val (.long q6), .second, .val (.long (q1 + q2)), .second, .val (.long (q3 ^^^ (-1 : Int64))), .second, .val (.long (q6 ^^^ (-1 : Int64))), .second, .val (.ref b62), .val (.ref b66)] [(.int (6 : Int32)), (.ref b66)])
  obtain ⟨cl74, Ar74, q74, S74, M74, H74, G74⟩ := V73
  have V74 : Arv Z h66 b66 kk66 .long (8 : Int32) _ _ := ⟨cl74, Ar74, q74, S74, M74, H74, G74⟩
  have hin74 : ¬ ((6 : Int32) < 0 ∨ cl74.slots.size ≤ ((6 : Int32)).toNatClampNeg) := inb_of S74 ⟨by decide, by decide⟩
  have hat74 : cl74.slots[((6 : Int32)).toNatClampNeg]? = some (.long (q1 + q2)) := H74.at hin74 rfl
  refine own_go (X66.laload hx (j := (6 : Int32)) (v := (.long (q1 + q2))) (by rw [e66]; exact Ar74.1) (State.isArrayOf_alike hZ.alike Ar74.2.1) Ar74.2.2 hin74 hat74 (g := (mkF m 130 #[.val (.long q1), .second, .val (.long q2), .second, .val (.long q3), .second, .val (.long q4), .second, .val (.long q5), .second, .val (.long q6), .second, .val (.long (q1 + q2)), .second, .val (.long (q3 ^^^ (-1 : Int64))), .second, .val (.long (q6 ^^^ (-1 : Int64))), .second, .val (.ref b62), .val (.ref b66)] [(.int (6 : Int32)), (.ref b66)])) rfl rfl (hb hby at_130)) ?_
  show own_Go _ _ _ _ T66 (mkF m 131 #[.val (.long q1), .second, .val (.long q2), .second, .val (.long q3), .second, .val (.long q4), .second, .val (.long q5), .second, .val (.long q6), .second, .val (.long (q1 + q2)), .second, .val (.long (q3 ^^^ (-1 : Int64))), .second, .val (.long (q6 ^^^ (-1 : Int64))), .second, .val (.ref b62), .val (.ref b66)] [(.long (q1 + q2))])
  refine own_go (fun _ k => XS.lload X66.here hx rfl (hb hby at_131) rfl k) ?_
  show own_Go _ _ _ _ T66 (mkF m 133 #[.val (.long q1), .second, .val (.long q2), .second, .val (.long q3), .second, .val (.long q4), .second, .val (.long q5), .second, .val (.long q6), .second, .val (.long (q1 + q2)), .second, .val (.long (q3 ^^^ (-1 : Int64))), .second, .val (.long (q6 ^^^ (-1 : Int64))), .second, .val (.ref b62), .val (.ref b66)] [(.long (q1 + q2)), (.long (q1 + q2))])
  refine own_go (fun _ k => XS.lcmp X66.here hx rfl (hb hby at_133) rfl k) ?_
  show own_Go _ _ _ _ T66 (mkF m 134 #[.val (.long q1), .second, .val (.long q2), .second, .val (.long q3), .second, .val (.long q4), .second, .val (.long q5), .second, .val (.long q6), .second, .val (.long (q1 + q2)), .second, .val (.long (q3 ^^^ (-1 : Int64))), .second, .val (.long (q6 ^^^ (-1 : Int64))), .second, .val (.ref b62), .val (.ref b66)] [(.int (lcmpW (q1 + q2) (q1 + q2)))])
  refine own_go (fun _ k => XS.ifNo X66.here hx rfl (hb hby at_134) rfl ((if0 _ _).trans (teq ((lw_eq _ _).mpr rfl)).2) k) ?_
  show own_Go _ _ _ _ T66 (mkF m 137 #[.val (.long q1), .second, .val (.long q2), .second, .val (.long q3), .second, .val (.long q4), .second, .val (.long q5), .second, .val (.long q6), .second, .val (.long (q1 + q2)), .second, .val (.long (q3 ^^^ (-1 : Int64))), .second, .val (.long (q6 ^^^ (-1 : Int64))), .second, .val (.ref b62), .val (.ref b66)] [])
  refine own_go (fun _ k => XS.aload X66.here hx rfl (hb hby at_137) rfl rfl k) ?_
  show own_Go _ _ _ _ T66 (mkF m 139 #[.val (.long q1), .second, .val (.long q2), .second, .val (.long q3), .second, .val (.long q4), .second, .val (.long q5), .second, .val (.long q6), .second, .val (.long (q1 + q2)), .second, .val (.long (q3 ^^^ (-1 : Int64))), .second, .val (.long (q6 ^^^ (-1 : Int64))), .second, .val (.ref b62), .val (.ref b66)] [(.ref b66)])
  refine own_go (fun _ k => XS.bipush X66.here hx rfl (hb hby at_139) k) ?_
  show own_Go _ _ _ _ T66 (mkF m 141 #[.val (.long q1), .second, .val (.long q2), .second, .val (.long q3), .second, .val (.long q4), .second, .val (.long q5), .second, .val (.long q6), .second, .val (.long (q1 + q2)), .second, .val (.long (q3 ^^^ (-1 : Int64))), .second, .val (.long (q6 ^^^ (-1 : Int64))), .second, .val (.ref b62), .val (.ref b66)] [(.int (7 : Int32)), (.ref b66)])
  obtain ⟨cl75, Ar75, q75, S75, M75, H75, G75⟩ := V74
  have V75 : Arv Z h66 b66 kk66 .long (8 : Int32) _ _ := ⟨cl75, Ar75, q75, S75, M75, H75, G75⟩
  have hin75 : ¬ ((7 : Int32) < 0 ∨ cl75.slots.size ≤ ((7 : Int32)).toNatClampNeg) := inb_of S75 ⟨by decide, by decide⟩
  have hat75 : cl75.slots[((7 : Int32)).toNatClampNeg]? = some (.long (q3 ^^^ (-1 : Int64))) := H75.at hin75 rfl
  refine own_go (X66.laload hx (j := (7 : Int32)) (v := (.long (q3 ^^^ (-1 : Int64)))) (by rw [e66]; exact Ar75.1) (State.isArrayOf_alike hZ.alike Ar75.2.1) Ar75.2.2 hin75 hat75 (g := (mkF m 141 #[.val (.long q1), .second, .val (.long q2), .second, .val (.long q3), .second, .val (.long q4), .second, .val (.long q5), .second, .val (.long q6), .second, .val (.long (q1 + q2)), .second, .val (.long (q3 ^^^ (-1 : Int64))), .second, .val (.long (q6 ^^^ (-1 : Int64))), .second, .val (.ref b62), .val (.ref b66)] [(.int (7 : Int32)), (.ref b66)])) rfl rfl (hb hby at_141)) ?_
  show own_Go _ _ _ _ T66 (mkF m 142 #[.val (.long q1), .second, .val (.long q2), .second, .val (.long q3), .second, .val (.long q4), .second, .val (.long q5), .second, .val (.long q6), .second, .val (.long (q1 + q2)), .second, .val (.long (q3 ^^^ (-1 : Int64))), .second, .val (.long (q6 ^^^ (-1 : Int64))), .second, .val (.ref b62), .val (.ref b66)] [(.long (q3 ^^^ (-1 : Int64)))])
  refine own_go (fun _ k => XS.lload X66.here hx rfl (hb hby at_142) rfl k) ?_
  show own_Go _ _ _ _ T66 (mkF m 144 #[.val (.long q1), .second, .val (.long q2), .second, .val (.long q3), .second, .val (.long q4), .second, .val (.long q5), .second, .val (.long q6), .second, .val (.long (q1 + q2)), .second, .val (.long (q3 ^^^ (-1 : Int64))), .second, .val (.long (q6 ^^^ (-1 : Int64))), .second, .val (.ref b62), .val (.ref b66)] [(.long (q3 ^^^ (-1 : Int64))), (.long (q3 ^^^ (-1 : Int64)))])
  refine own_go (fun _ k => XS.lcmp X66.here hx rfl (hb hby at_144) rfl k) ?_
  show own_Go _ _ _ _ T66 (mkF m 145 #[.val (.long q1), .second, .val (.long q2), .second, .val (.long q3), .second, .val (.long q4), .second, .val (.long q5), .second, .val (.long q6), .second, .val (.long (q1 + q2)), .second, .val (.long (q3 ^^^ (-1 : Int64))), .second, .val (.long (q6 ^^^ (-1 : Int64))), .second, .val (.ref b62), .val (.ref b66)] [(.int (lcmpW (q3 ^^^ (-1 : Int64)) (q3 ^^^ (-1 : Int64))))])
  refine own_go (fun _ k => XS.ifNo X66.here hx rfl (hb hby at_145) rfl ((if0 _ _).trans (teq ((lw_eq _ _).mpr rfl)).2) k) ?_
  show own_Go _ _ _ _ T66 (mkF m 148 #[.val (.long q1), .second, .val (.long q2), .second, .val (.long q3), .second, .val (.long q4), .second, .val (.long q5), .second, .val (.long q6), .second, .val (.long (q1 + q2)), .second, .val (.long (q3 ^^^ (-1 : Int64))), .second, .val (.long (q6 ^^^ (-1 : Int64))), .second, .val (.ref b62), .val (.ref b66)] [])
  refine own_go (fun _ k => XS.iconst X66.here hx rfl (hb hby at_148) k) ?_
  show own_Go _ _ _ _ T66 (mkF m 149 #[.val (.long q1), .second, .val (.long q2), .second, .val (.long q3), .second, .val (.long q4), .second, .val (.long q5), .second, .val (.long q6), .second, .val (.long (q1 + q2)), .second, .val (.long (q3 ^^^ (-1 : Int64))), .second, .val (.long (q6 ^^^ (-1 : Int64))), .second, .val (.ref b62), .val (.ref b66)] [(.int (1 : Int32))])
  refine own_go (fun _ k => XS.goto X66.here hx rfl (pc0 := 149) (pc' := 153) rfl (hb hby at_149) (by decide) (by decide) k) ?_
  show own_Go _ _ _ _ T66 (mkF m 153 #[.val (.long q1), .second, .val (.long q2), .second, .val (.long q3), .second, .val (.long q4), .second, .val (.long q5), .second, .val (.long q6), .second, .val (.long (q1 + q2)), .second, .val (.long (q3 ^^^ (-1 : Int64))), .second, .val (.long (q6 ^^^ (-1 : Int64))), .second, .val (.ref b62), .val (.ref b66)] [(.int (1 : Int32))])
  exact own_retN X66 hx hret (by simp) hlk (hb hby at_153) (by decide) (by decide) (by first | exact ⟨rfl, N66⟩ | (rw [e66]; exact ⟨rfl, N66⟩))
set_option maxRecDepth 65536 in
set_option maxHeartbeats 40000000 in
theorem comes_1 {Post : Tables → Env → Array Value → State → Outcome → State → Prop} (hpost : ∀ tb e args s v u, (limb_1_1.after args s (.returned v) u = true ∧ limb_1_2.after args s (.returned v) u = true ∧ True) → FrameEnd s (.returned v) u (Jvm.fieldLocs frame_1_writes args s ++ Jvm.arrayLocs frame_1_arrays args s ++ Jvm.staticLocs frame_1_statics s) 16 128 → Post tb e args s (.returned v) u) :
    ArmFor flags0 classFile x code maxLocals ret World_1 tables_1 room_1 Calls_1 rest_1 Pre_1 Post := by
  intro l hfl _ _ p e ha hc hk s m args below hf hA hF happ hP
  obtain ⟨hcalls, hrest, hpre⟩ := hP
  obtain ⟨-, -, -, hnamed, -, -, -, hat⟩ := (Spec.applies_iff hf).mp happ
  obtain ⟨hg, hn⟩ := and_e (Cond.before_iff.mp (show (Jvm.Cond.and given_1 narrow_1).before args s = true from hpre))
  obtain ⟨gc, hg⟩ := and_e hg
  obtain ⟨gv0, hg⟩ := and_e hg
  obtain ⟨gv1, hg⟩ := and_e hg
  obtain ⟨gv2, hg⟩ := and_e hg
  obtain ⟨gv3, hg⟩ := and_e hg
  obtain ⟨gv4, hg⟩ := and_e hg
  have gv5 := hg
  obtain ⟨w0, w1, w2, w3, w4, w5, rfl⟩ : ∃ w0 w1 w2 w3 w4 w5 : Value, args = #[w0, w1, w2, w3, w4, w5] := by
    have hs : args.size = 6 := by simpa [Cond.value, given_1] using gc
    obtain ⟨L⟩ := args
    match L, hs with
    | [w0, w1, w2, w3, w4, w5], _ => exact ⟨w0, w1, w2, w3, w4, w5, rfl⟩
  have hw := fun d (hd : d ∈ tables_1) => atoms_spec (ws := Jvm.Cond.code x code maxLocals ret :: tables_1) hat d (List.mem_cons_of_mem _ hd)
  obtain ⟨i0, ei0⟩ := isL_v gv0
  obtain rfl : w0 = (.long i0) := Option.some.inj ei0
  obtain ⟨i1, ei1⟩ := isL_v gv1
  obtain rfl : w1 = (.long i1) := Option.some.inj ei1
  obtain ⟨i2, ei2⟩ := isL_v gv2
  obtain rfl : w2 = (.long i2) := Option.some.inj ei2
  obtain ⟨i3, ei3⟩ := isL_v gv3
  obtain rfl : w3 = (.long i3) := Option.some.inj ei3
  obtain ⟨i4, ei4⟩ := isL_v gv4
  obtain rfl : w4 = (.long i4) := Option.some.inj ei4
  obtain ⟨i5, ei5⟩ := isL_v gv5
  obtain rfl : w5 = (.long i5) := Option.some.inj ei5
  obtain ⟨n, o, h1, h2, h3, _, L, rfl, ⟨rfl, N⟩, hq⟩ := rm0 l s _ hw tables_1 i0 i1 i2 i3 i4 i5 s.heap s.heap.size (Nat.le_refl _) p e ha hc hk s m _ below hf ((Spec.applies_iff_loose hf).mp happ).1 ⟨rfl, State.Warmed39.refl s, rfl⟩ trivial
  refine ⟨n, _, h1, h2, h3, hpost _ _ _ _ _ _ ⟨Cond.after_iff.mpr rfl, Cond.after_iff.mpr (eq_i res_at (Term.int_eval (1)) rfl), trivial⟩ ⟨hq.1, hq.2.1, (hq.2.2.sift fun y hy => Or.inr (N y hy)).mono (by decide) (by decide)⟩⟩
theorem main_1_1 : Claimed_1_1 := comes_1 fun _ _ _ _ _ _ h hF => ⟨h.1, hF⟩
theorem main_1_2 : Claimed_1_2 := comes_1 fun _ _ _ _ _ _ h hF => ⟨h.2.1, hF⟩
end Jvm.Pilot.@@N@@
namespace Jvm.Pilot.@@N@@
open Jvm Jvm.ClassFile Sem Op Lib Jvm.Free Jvm.Stand Jvm.Pilot.@@N@@.Jvm.D
/-! MADE BY PROGRAM (witnessworld.py) out of the Statement's table words and the real class files: 11 classes; the members and pool entries that the words name. The judged class is class 1, her method 1. -/
namespace start1
open Jvm.ClassFile
def u (s : String) : CpInfo := .utf8 (stringToUtf16 s)
/-- a pool by its gaps: so many unusable entries, then the entry; so many at the end -/
def gap : Nat → List CpInfo → List CpInfo
  | 0, r => r
  | n + 1, r => .unusable :: gap n r
def poolList (es : List (Nat × CpInfo)) (last : Nat) : List CpInfo := es.foldr (fun e r => gap e.1 (e.2 :: r)) (gap last [])
def pool (es : List (Nat × CpInfo)) (last : Nat) : Array CpInfo := ⟨poolList es last⟩
def fileOf (pool : Array CpInfo) (this : Nat) (attrs : Array Attribute := #[]) (ms : Array MethodInfo := #[]) (fl : Nat := 33) (sup : Nat := 0) (ifs : Array Nat := #[]) (fds : Array FieldInfo := #[]) : ClassFile where
  minorVersion := 0
  majorVersion := 65
  constantPool := pool
  accessFlags := fl
  thisClass := this
  superClass := sup
  interfaces := ifs
  fields := fds
  methods := ms
  attributes := attrs
def plain (name : String) (sup : Option ClassId) : Class where
  name := name
  kind := .ordinary
  loader := none
  accessFlags := 33
  super := sup
  interfaces := #[]
  cf := none
  fields := #[]
  methods := #[]
  instanceTypes := #[]
  staticTypes := #[]
  resolved := #[]
  callSites := []
  init := .initialized
  statics := none
  mirror := none

def pool0 : Array CpInfo := pool [(5, u "<init>"), (0, u "()V"), (1, .class_ 10), (1, u "java/lang/Object")] 113

def k0c0 : Code := { maxStack := 0, maxLocals := 1, code := object_method_1_code, exceptionTable := #[], attributes := #[] }
def k0m0 : Method := { name := "<init>", desc := "()V", sig := { parameters := [], returnType := none }, accessFlags := 1, code := some k0c0 }
/-- java/lang/Object -/
def k0 : Class := { plain "java/lang/Object" none with
  accessFlags := 33
  interfaces := #[]
  cf := some (fileOf pool0 8 #[] #[{ accessFlags := 1, nameIndex := 5, descriptorIndex := 6, attributes := #[] }] 33 0 #[] #[])
  fields := #[]
  methods := #[k0m0]
  instanceTypes := #[]
  staticTypes := #[]
  resolved := Array.replicate 124 none
  statics := none }

def pool1 : Array CpInfo := pool [(2, .class_ 4), (1, u "java/lang/Object"), (0, u "<init>"), (0, u "()V"), (0, .long 18446744073709551615), (1, .class_ 10), (0, u "weirjoin/Summary"), (0, .methodref 9 12), (0, .nameAndType 5 13), (0, u "(JJJJJJJJJ)V"), (0, .methodref 9 15), (0, .nameAndType 16 17), (0, u "counts"), (0, u "()[J"), (0, .class_ 19), (0, u "weirjoin/SummaryCountsPinLaw"), (2, u "law"), (0, u "(JJJJJJ)Z")] 5

def k1m0 : Method := { name := "<init>", desc := "()V", sig := { parameters := [], returnType := none }, accessFlags := 1, code := none }
def k1c1 : Code := { maxStack := 20, maxLocals := 20, code := code, exceptionTable := #[], attributes := #[] }
def k1m1 : Method := { name := "law", desc := "(JJJJJJ)Z", sig := { parameters := [.long, .long, .long, .long, .long, .long], returnType := some .boolean }, accessFlags := 9, code := some k1c1 }
/-- weirjoin/SummaryCountsPinLaw -/
def k1 : Class := { plain "weirjoin/SummaryCountsPinLaw" (some 0) with
  accessFlags := 49
  interfaces := #[]
  cf := some (fileOf pool1 18 #[] #[{ accessFlags := 1, nameIndex := 5, descriptorIndex := 6, attributes := #[] }, { accessFlags := 9, nameIndex := 22, descriptorIndex := 23, attributes := #[] }] 49 2 #[] #[])
  fields := #[]
  methods := #[k1m0, k1m1]
  instanceTypes := #[]
  staticTypes := #[]
  resolved := Array.replicate 29 none
  statics := none }

def pool2 : Array CpInfo := pool [(4, .class_ 6), (1, u "weirjoin/Summary"), (0, u "<init>"), (0, u "(JJJJJJJJJ)V"), (0, .methodref 10 11), (0, .class_ 12), (0, .nameAndType 7 13), (0, u "java/lang/Object"), (0, u "()V"), (0, .fieldref 4 15), (0, .nameAndType 16 17), (0, u "leftRows"), (0, u "J"), (0, .fieldref 4 19), (0, .nameAndType 20 17), (0, u "rightRows"), (0, .fieldref 4 22), (0, .nameAndType 23 17), (0, u "pairs"), (0, .fieldref 4 25), (0, .nameAndType 26 17), (0, u "padded"), (0, .fieldref 4 28), (0, .nameAndType 29 17), (0, u "late"), (0, .fieldref 4 31), (0, .nameAndType 32 17), (0, u "dropped"), (0, .fieldref 4 34), (0, .nameAndType 35 17), (0, u "statePeak"), (0, .fieldref 4 37), (0, .nameAndType 38 17), (0, u "stateEnd"), (0, .fieldref 4 40), (0, .nameAndType 41 17), (0, u "fires"), (15, u "counts"), (0, u "()[J"), (6, u "NAMES"), (0, u "Ljava/util/List;"), (41, u "FIRES"), (0, u "Ljava/lang/String;")] 11

def k2c0 : Code := { maxStack := 3, maxLocals := 19, code := prog_192_method_2_code, exceptionTable := #[], attributes := #[] }
def k2m0 : Method := { name := "<init>", desc := "(JJJJJJJJJ)V", sig := { parameters := [.long, .long, .long, .long, .long, .long, .long, .long, .long], returnType := none }, accessFlags := 0, code := some k2c0 }
def k2c1 : Code := { maxStack := 5, maxLocals := 1, code := prog_192_method_3_code, exceptionTable := #[], attributes := #[] }
def k2m1 : Method := { name := "counts", desc := "()[J", sig := { parameters := [], returnType := some (.array .long) }, accessFlags := 0, code := some k2c1 }
/-- weirjoin/Summary -/
def k2 : Class := { plain "weirjoin/Summary" (some 0) with
  accessFlags := 49
  interfaces := #[]
  cf := some (fileOf pool2 4 #[] #[{ accessFlags := 0, nameIndex := 7, descriptorIndex := 8, attributes := #[] }, { accessFlags := 0, nameIndex := 57, descriptorIndex := 58, attributes := #[] }] 49 10 #[] #[{ accessFlags := 24, nameIndex := 65, descriptorIndex := 66, attributes := #[] }, { accessFlags := 24, nameIndex := 108, descriptorIndex := 109, attributes := #[] }, { accessFlags := 18, nameIndex := 16, descriptorIndex := 17, attributes := #[] }, { accessFlags := 18, nameIndex := 20, descriptorIndex := 17, attributes := #[] }, { accessFlags := 18, nameIndex := 23, descriptorIndex := 17, attributes := #[] }, { accessFlags := 18, nameIndex := 26, descriptorIndex := 17, attributes := #[] }, { accessFlags := 18, nameIndex := 29, descriptorIndex := 17, attributes := #[] }, { accessFlags := 18, nameIndex := 32, descriptorIndex := 17, attributes := #[] }, { accessFlags := 18, nameIndex := 35, descriptorIndex := 17, attributes := #[] }, { accessFlags := 18, nameIndex := 38, descriptorIndex := 17, attributes := #[] }, { accessFlags := 18, nameIndex := 41, descriptorIndex := 17, attributes := #[] }])
  fields := #[{ name := "NAMES", type := (.object "java/util/List"), accessFlags := 24, slot := 0, constantValue := 0 }, { name := "FIRES", type := (.object "java/lang/String"), accessFlags := 24, slot := 1, constantValue := 0 }, { name := "leftRows", type := .long, accessFlags := 18, slot := 0, constantValue := 0 }, { name := "rightRows", type := .long, accessFlags := 18, slot := 1, constantValue := 0 }, { name := "pairs", type := .long, accessFlags := 18, slot := 2, constantValue := 0 }, { name := "padded", type := .long, accessFlags := 18, slot := 3, constantValue := 0 }, { name := "late", type := .long, accessFlags := 18, slot := 4, constantValue := 0 }, { name := "dropped", type := .long, accessFlags := 18, slot := 5, constantValue := 0 }, { name := "statePeak", type := .long, accessFlags := 18, slot := 6, constantValue := 0 }, { name := "stateEnd", type := .long, accessFlags := 18, slot := 7, constantValue := 0 }, { name := "fires", type := .long, accessFlags := 18, slot := 8, constantValue := 0 }]
  methods := #[k2m0, k2m1]
  instanceTypes := #[.long, .long, .long, .long, .long, .long, .long, .long, .long]
  staticTypes := #[(.object "java/util/List"), (.object "java/lang/String")]
  resolved := Array.replicate 121 none
  statics := none }

def pool3 : Array CpInfo := pool [(1, u "java/lang/Cloneable"), (0, .class_ 1), (0, u "java/lang/Object"), (0, .class_ 3)] 3

/-- java/lang/Cloneable -/
def k3 : Class := { plain "java/lang/Cloneable" (some 0) with
  accessFlags := 1537
  interfaces := #[]
  cf := some (fileOf pool3 2 #[] #[] 1537 4 #[] #[])
  fields := #[]
  methods := #[]
  instanceTypes := #[]
  staticTypes := #[]
  resolved := Array.replicate 8 none
  statics := none }

def pool4 : Array CpInfo := pool [(1, u "java/io/Serializable"), (0, .class_ 1), (0, u "java/lang/Object"), (0, .class_ 3)] 3

/-- java/io/Serializable -/
def k4 : Class := { plain "java/io/Serializable" (some 0) with
  accessFlags := 1537
  interfaces := #[]
  cf := some (fileOf pool4 2 #[] #[] 1537 4 #[] #[])
  fields := #[]
  methods := #[]
  instanceTypes := #[]
  staticTypes := #[]
  resolved := Array.replicate 8 none
  statics := none }

/-- the primitive byte -/
def k5 : Class := { plain "byte" none with kind := .primitive 'B', accessFlags := 0x411 }
/-- [B -/
def k6 : Class := { plain "[B" (some 0) with kind := .array 5 .byte, interfaces := #[3, 4], accessFlags := 1041 }

/-- the primitive int -/
def k7 : Class := { plain "int" none with kind := .primitive 'I', accessFlags := 0x411 }
/-- [I -/
def k8 : Class := { plain "[I" (some 0) with kind := .array 7 .int, interfaces := #[3, 4], accessFlags := 1041 }

/-- the primitive long -/
def k9 : Class := { plain "long" none with kind := .primitive 'J', accessFlags := 0x411 }
/-- [J -/
def k10 : Class := { plain "[J" (some 0) with kind := .array 9 .long, interfaces := #[3, 4], accessFlags := 1041 }

def heap : Heap := #[]
def classes : Array Class := #[k0, k1, k2, k3, k4, k5, k6, k7, k8, k9, k10]
def interned : List (Array UInt16 × Addr) := []
def slotsUsed : Nat := 0
def theMethod : MethodId := ⟨1, 1⟩
def args0 : Array Value := #[.long 1, .long 2, .long 3, .long 4, .long 5, .long 6]
def aboutOver (below : List Frame) : State where
  vm := { classes := classes, interned := interned.toArray }
  heap := heap
  slotsUsed := slotsUsed
  threads := #[{ frames := .invoking theMethod args0 :: below }]
def below0 : List Frame := [.native { method := ⟨0, 0⟩, args := #[] }]
def about1 : State := aboutOver below0
def p0 : Program := .bare "" "" ""
def e0 : Env := launch0.env 0 0 0
theorem w_frames : about1.frames = Frame.invoking theMethod args0 :: below0 := rfl
set_option maxRecDepth 65536 in
theorem w_args : argsFit about1.vm theMethod args0 = true := by decide +kernel
set_option maxRecDepth 65536 in
theorem w_heap : heapFits about1 = true := by decide +kernel
set_option maxRecDepth 65536 in
theorem w_runnable : about1.curStatus? = some .runnable := by decide +kernel
set_option maxRecDepth 65536 in
theorem w_alone : about1.alone = true := by decide +kernel
set_option maxRecDepth 65536 in
theorem w_named : about1.methodNamed? x = some theMethod := by decide +kernel
set_option maxRecDepth 65536 in
theorem w_hears : about1.hears theMethod below0 = true := by decide +kernel
set_option maxRecDepth 65536 in
theorem w_ripe : about1.ripe theMethod args0 below0 = true := by decide +kernel
theorem w_running : about1.status = .running := rfl
set_option maxRecDepth 65536 in
theorem w_room : about1.hasRoom e0.platform room_1 = true :=
  launch0.hasRoom_least _ room_1 (by decide +kernel) (by decide +kernel) (by decide +kernel) (by decide +kernel) (by decide +kernel) (by decide +kernel)
theorem allAtoms_all (ts : List Jvm.Cond) (a : Array Jvm.Value) (st : Jvm.State) : (allAtoms ts).before a st = ts.all (fun c => c.before a st) := by
  induction ts with
  | nil => rfl
  | cons c t ih =>
    show (Jvm.Cond.and c (allAtoms t)).before a st = _
    rw [Jvm.Cond.before_and, ih, List.all_cons]
def words1 : List Jvm.Cond := Jvm.Cond.code x code maxLocals ret :: tables_1
/-- a 'code' word, met by the world's own term for the bytes: nothing is compared byte by byte -/
theorem code_word {y : MethodName} {bytes : ByteArray} {mx : Nat} {rt : Option FieldType} {a : Array Value} {s : State} {m : MethodId} {meth : Method} {c : Code} (h1 : s.methodNamed? y = some m) (h2 : s.vm.method? m = some meth) (h3 : meth.code = some c) (h4 : c.code = bytes)
    (h5 : (c.maxLocals == mx && c.exceptionTable.isEmpty && decide (c.maxStack ≤ mostOperands) && decide (meth.sig.returnType = rt) && !meth.locks && decide (parseMethodDescriptor y.desc = some meth.sig)) = true) : (Jvm.Cond.code y bytes mx rt).before a s = true := by
  simp only [Bool.and_eq_true, beq_iff_eq, Bool.not_eq_true', decide_eq_true_eq] at h5
  obtain ⟨⟨⟨⟨⟨g1, g2⟩, g3⟩, g4⟩, g5⟩, g6⟩ := h5
  simp [Cond.before, Cond.holds, Cond.value, h1, h2, h3, h4, g1, g2, g3, g4, g5, g6]
def isCode : Jvm.Cond → Bool
  | .code _ _ _ _ => true
  | _ => false
theorem all_split {L : List Jvm.Cond} {P : Jvm.Cond → Bool} (h1 : L.all (fun c => isCode c || P c) = true) (h2 : ∀ c ∈ L.filter isCode, P c = true) : L.all P = true := by
  refine List.all_eq_true.mpr fun c hc => ?_
  have h := List.all_eq_true.mp h1 c hc
  rcases Bool.eq_false_or_eq_true (isCode c) with hi | hi
  · exact h2 c (List.mem_filter.mpr ⟨hc, hi⟩)
  · simpa [hi] using h
set_option maxRecDepth 65536 in
theorem w_c0 : (Jvm.Cond.code x code maxLocals ret).before args0 about1 = true := code_word (m := ⟨1, 1⟩) (meth := k1m1) (c := k1c1) (by decide +kernel) rfl rfl rfl (by decide +kernel)
set_option maxRecDepth 65536 in
theorem w_c1 : (Jvm.Cond.code ({ cls := "weirjoin/Summary", name := "<init>", desc := "(JJJJJJJJJ)V" } : Jvm.MethodName) prog_192_method_2_code (19 : Nat) (Option.none : Option Jvm.ClassFile.FieldType)).before args0 about1 = true := code_word (m := ⟨2, 0⟩) (meth := k2m0) (c := k2c0) (by decide +kernel) rfl rfl rfl (by decide +kernel)
set_option maxRecDepth 65536 in
theorem w_c2 : (Jvm.Cond.code ({ cls := "java/lang/Object", name := "<init>", desc := "()V" } : Jvm.MethodName) object_method_1_code (1 : Nat) (Option.none : Option Jvm.ClassFile.FieldType)).before args0 about1 = true := code_word (m := ⟨0, 0⟩) (meth := k0m0) (c := k0c0) (by decide +kernel) rfl rfl rfl (by decide +kernel)
set_option maxRecDepth 65536 in
theorem w_c3 : (Jvm.Cond.code ({ cls := "weirjoin/Summary", name := "counts", desc := "()[J" } : Jvm.MethodName) prog_192_method_3_code (1 : Nat) (Option.some (Jvm.ClassFile.FieldType.array Jvm.ClassFile.FieldType.long))).before args0 about1 = true := code_word (m := ⟨2, 1⟩) (meth := k2m1) (c := k2c1) (by decide +kernel) rfl rfl rfl (by decide +kernel)
def codes1 : List Jvm.Cond := [Jvm.Cond.code x code maxLocals ret, Jvm.Cond.code ({ cls := "weirjoin/Summary", name := "<init>", desc := "(JJJJJJJJJ)V" } : Jvm.MethodName) prog_192_method_2_code (19 : Nat) (Option.none : Option Jvm.ClassFile.FieldType), Jvm.Cond.code ({ cls := "java/lang/Object", name := "<init>", desc := "()V" } : Jvm.MethodName) object_method_1_code (1 : Nat) (Option.none : Option Jvm.ClassFile.FieldType), Jvm.Cond.code ({ cls := "weirjoin/Summary", name := "counts", desc := "()[J" } : Jvm.MethodName) prog_192_method_3_code (1 : Nat) (Option.some (Jvm.ClassFile.FieldType.array Jvm.ClassFile.FieldType.long))]
set_option maxRecDepth 65536 in
theorem codes_eq : words1.filter isCode = codes1 := rfl
theorem w_codes : ∀ c ∈ words1.filter isCode, c.before args0 about1 = true := by
  rw [codes_eq]
  intro c hc
  simp only [codes1, List.mem_cons, List.not_mem_nil, or_false] at hc
  rcases hc with rfl | rfl | rfl | rfl
  · exact w_c0
  · exact w_c1
  · exact w_c2
  · exact w_c3
set_option maxRecDepth 65536 in
theorem w_t1 : (words1.take 24).all (fun c => isCode c || c.before args0 about1) = true := by decide +kernel
set_option maxRecDepth 65536 in
theorem w_t2 : (words1.drop 24).all (fun c => isCode c || c.before args0 about1) = true := by decide +kernel
theorem w_tables : (allAtoms (Jvm.Cond.code x code maxLocals ret :: tables_1)).before args0 about1 = true := by
  rw [allAtoms_all]
  show words1.all (fun c => c.before args0 about1) = true
  refine all_split ?_ w_codes
  rw [← List.take_append_drop 24 words1, List.all_append, w_t1, w_t2]
  rfl
set_option maxRecDepth 65536 in
theorem w_case : (Jvm.Cond.and given_1 narrow_1).before args0 about1 = true := by decide +kernel
theorem w_applies : (headSpec (Jvm.Cond.code x code maxLocals ret :: tables_1) room_1).applies x e0.platform about1 = true :=
  (Spec.applies_iff w_frames).mpr ⟨w_running, w_runnable, w_alone, w_named, w_hears, w_ripe, w_room, w_tables⟩
theorem atStart : AtStart classFile x code maxLocals ret World_1 tables_1 room_1 Calls_1 rest_1 Pre_1 launch0 p0 e0 about1 theMethod args0 below0 :=
  ⟨lists_1, trivial, launch0.admits_env _ _ _, launch0.least_env, fairChoices_fair.cas, fairChoices_fair.clock, w_frames, w_args, w_heap, w_applies, trivial, trivial, w_case⟩
end start1
theorem witness_1 : WitnessClaimed_1 := ⟨start1.p0, start1.e0, start1.about1, start1.theMethod, start1.args0, start1.below0, start1.atStart⟩
end Jvm.Pilot.@@N@@
