import JvmDerived
import JvmDerived.Pilot.@@N@@Statement
import JvmDerived.Pilot.@@N@@Code
set_option linter.unusedVariables false
set_option linter.unusedSimpArgs false
namespace Jvm.RoadKit
open Sem ClassFile Op Lib Jvm.Stand Jvm.Free Jvm.LawKit
section OwnKit
variable {p : Program} {l : Launch} {e : Env} {R : Room} {s : State} {m : MethodId} {args : Array Value} {below : List Frame} {meth : Method} {c : Code} {T : State} {locs : List Loc} {cells slots : Nat}
theorem retI (X : Stand p l e R s m args below meth c T locs cells slots) (hx : p.tables.exec = Jvm.exec) {pc : Nat} {Ls : Array Slot} {z : Int32} {rest : List Value} (hret : meth.sig.returnType = some .int) (hd : decode c.code pc = .ok (.ireturn, 1)) {fs : List Frame}
    (hl : ∀ (f : JFrame) (acts : List Action), f.method = m → f.locked = none → f.entered = [] → (doReturn e (T.setTop f) acts (some (.int z))).1 = T.setFrames fs) : Steps p.tables e below (T.setTop (mkF m pc Ls (.int z :: rest))) (T.setFrames fs) := by
  have hm' : T.vm.method? m = some meth := X.method'
  have hn : narrow .int (.int z) = .int z := rfl
  show Steps p.tables e below (T.setTop { method := m, pc := pc, locals := Ls, stack := _ :: rest, locked := none }) _
  jvm_step X.here [X.here.top, hx, hd, hm', hret, hn]
  first | (intro acts; rw [hl _ acts rfl rfl rfl]) | rw [hl _ _ rfl rfl rfl]
  exact Steps.refl _
/-- from this state and frame the run comes to an end that P says -/
def own_Go (tb : Tables) (e : Env) (below : List Frame) (P : State → Outcome → Prop) (T : State) (g : JFrame) : Prop := ∃ s₂ o, Steps tb e below (T.setTop g) s₂ ∧ P s₂ o
theorem own_go {tb : Tables} {P : State → Outcome → Prop} {T' : State} {g g' : JFrame} (st : ∀ t, Steps tb e below (T'.setTop g') t → Steps tb e below (T.setTop g) t) (k : own_Go tb e below P T' g') : own_Go tb e below P T g := by
  obtain ⟨s, o, h, q⟩ := k
  exact ⟨s, o, st s h, q⟩
/-- how a body ends: what it returned, its heap and the places that it wrote stand in Q -/
def own_P (below : List Frame) (s : State) (Q : Option Value → Heap → List Loc → Prop) (k n : Nat) (s₂ : State) (o : Outcome) : Prop := s₂.status = .running ∧ Ended s₂ below o ∧ ∃ v L, o = .returned v ∧ Q v s₂.heap L ∧ FrameEnd s o s₂ L k n
theorem own_leave (X : Stand p l e R s m args below meth c T locs cells slots) {Q : Option Value → Heap → List Loc → Prop} {k n : Nat} {v : Option Value} {g : JFrame} (hlk : meth.locks = false) (hv : meth.sig.returnType = none → v = none) (hq : Q v T.heap locs) (hk : cells ≤ k) (hn : slots ≤ n)
    (hst : ∀ fs, (∀ (f : JFrame) (acts : List Action), f.method = m → f.locked = none → f.entered = [] → (doReturn e (T.setTop f) acts v).1 = T.setFrames fs) → Steps p.tables e below (T.setTop g) (T.setFrames fs)) : own_Go p.tables e below (own_P below s Q k n) T g := by
  obtain ⟨fs, hr, hrun, hended, hW, hsame⟩ := X.leave (v := v) hv hlk
  exact ⟨_, _, hst fs hr, hrun, hended, _, _, rfl, hq, ⟨_, rfl⟩, hW, hsame.mono hk hn⟩
section Rets
variable {Q : Option Value → Heap → List Loc → Prop} {k n : Nat} {pc : Nat} {Ls : Array Slot} {rest : List Value}
theorem own_retI (X : Stand p l e R s m args below meth c T locs cells slots) (hx : p.tables.exec = Jvm.exec) {z : Int32} (hret : meth.sig.returnType = some .int) (hlk : meth.locks = false) (hd : decode c.code pc = .ok (.ireturn, 1)) (hk : cells ≤ k) (hn : slots ≤ n) (hq : Q (some (.int z)) T.heap locs) : own_Go p.tables e below (own_P below s Q k n) T (mkF m pc Ls (.int z :: rest)) :=
  own_leave X hlk (fun h => by rw [hret] at h; cases h) hq hk hn (fun fs hr => retI X hx hret hd hr)
theorem own_retN (X : Stand p l e R s m args below meth c T locs cells slots) (hx : p.tables.exec = Jvm.exec) {z : Int32} {t : FieldType} (hret : meth.sig.returnType = some t) (ht : t = .boolean ∨ t = .byte ∨ t = .char ∨ t = .short) (hlk : meth.locks = false) (hd : decode c.code pc = .ok (.ireturn, 1)) (hk : cells ≤ k) (hn : slots ≤ n) (hq : Q (some (.int (nar t z))) T.heap locs) : own_Go p.tables e below (own_P below s Q k n) T (mkF m pc Ls (.int z :: rest)) :=
  own_leave X hlk (fun h => by rw [hret] at h; cases h) hq hk hn (fun fs hr => retN X hx hret ht hd hr)
theorem own_retJ (X : Stand p l e R s m args below meth c T locs cells slots) (hx : p.tables.exec = Jvm.exec) {z : Int64} (hret : meth.sig.returnType = some .long) (hlk : meth.locks = false) (hd : decode c.code pc = .ok (.lreturn, 1)) (hk : cells ≤ k) (hn : slots ≤ n) (hq : Q (some (.long z)) T.heap locs) : own_Go p.tables e below (own_P below s Q k n) T (mkF m pc Ls (.long z :: rest)) :=
  own_leave X hlk (fun h => by rw [hret] at h; cases h) hq hk hn (fun fs hr => retOut X hx hret rfl (Or.inr (Or.inl ⟨rfl, rfl, z, rfl⟩)) hd hr)
theorem own_narR {t : FieldType} {v : Value} (ht : t.isReference = true) : narrow t v = v := by
  cases t <;> simp [FieldType.isReference] at ht <;> rfl
theorem own_retR (X : Stand p l e R s m args below meth c T locs cells slots) (hx : p.tables.exec = Jvm.exec) {z : Value} {t : FieldType} (hret : meth.sig.returnType = some t) (ht : t.isReference = true) (hz : z.isRef = true) (hlk : meth.locks = false) (hd : decode c.code pc = .ok (.areturn, 1)) (hk : cells ≤ k) (hn : slots ≤ n) (hq : Q (some z) T.heap locs) : own_Go p.tables e below (own_P below s Q k n) T (mkF m pc Ls (z :: rest)) :=
  own_leave X hlk (fun h => by rw [hret] at h; cases h) hq hk hn (fun fs hr => retOut X hx hret (own_narR ht) (Or.inr (Or.inr (Or.inr (Or.inr ⟨rfl, ht, hz⟩)))) hd hr)
theorem own_retV (X : Stand p l e R s m args below meth c T locs cells slots) (hx : p.tables.exec = Jvm.exec) (hret : meth.sig.returnType = none) (hlk : meth.locks = false) (hd : decode c.code pc = .ok (.return_, 1)) (hk : cells ≤ k) (hn : slots ≤ n) (hq : Q none T.heap locs) : own_Go p.tables e below (own_P below s Q k n) T (mkF m pc Ls []) :=
  own_leave X hlk (fun _ => rfl) hq hk hn (fun fs hr => X.returnOut hx hret hd hr)
end Rets
/-- a body's contract at one call: its arguments, the heap at the call, what it leaves -/
abbrev own_Met (l : Launch) (y : MethodName) (bytes : ByteArray) (maxL : Nat) (ret : Option FieldType) (ws : List Cond) (rm : Room) (Z : State) (as' : Array Value) (h0 : Heap) (Q : Option Value → Heap → List Loc → Prop) : Prop :=
  MetFree l y (head1 (Cond.code y bytes maxL ret :: ws) rm) (fun a U => a = as' ∧ Z.Warmed39 U.vm ∧ U.heap = h0) (fun _ _ _ _ _ => True) (fun _ U o U' => ∃ v L, o = .returned v ∧ Q v U'.heap L ∧ FrameEnd U o U' L rm.cells rm.slots)
theorem own_body {y : MethodName} {bytes : ByteArray} {maxL : Nat} {ret : Option FieldType} {ws : List Cond} {rm : Room} {Z : State} {as' : Array Value} {h0 : Heap} {Q : Option Value → Heap → List Loc → Prop} (hpl : plainFor y = true)
    (H : ∀ (p : Program) (e : Env) (s : State) (m : MethodId) (below : List Frame) (meth : Method) (c : Code) (s₁ : State), Stand p l e rm s m as' below meth c s₁ [] 0 0 → p.tables.exec = Jvm.exec → c.code = bytes → c.maxLocals = maxL → s.vm.findClass y.cls = some m.cls → meth.name = y.name → meth.sig.returnType = ret → meth.locks = false → Z.Warmed39 s.vm → s₁.heap = h0 → own_Go p.tables e below (own_P below s Q rm.cells rm.slots) s₁ (entryFrame m as' maxL)) :
    own_Met l y bytes maxL ret ws rm Z as' h0 Q := by
  refine MetFree.of_bodySF hpl hisR ?_
  intro p e s m args below meth c s₁ Bd hml hP hK
  obtain ⟨rfl, hZ, hh⟩ := hP
  exact H p e s m below meth c s₁ (Stand.of_body Bd) Bd.exec Bd.bytes hml (findClass_of_methodNamed Bd.named) (name_of_methodNamed Bd.named Bd.method).1 Bd.returns Bd.notSynchronized hZ (by rw [← hh, Bd.state]; rfl)
theorem own_cast {tb : Tables} {P : State → Outcome → Prop} {g g' : JFrame} (q : g = g') (k : own_Go tb e below P T g') : own_Go tb e below P T g := q ▸ k
section Calls
variable {Z : State} {a0 : Array Value} {h : Heap} {own : String} {index : Nat} {y : MethodName} {bytes : ByteArray} {maxL : Nat} {ret : Option FieldType} {rm : Room} {Q : Option Value → Heap → List Loc → Prop}
theorem own_callS (X : Stand p l e R s m args below meth c T locs cells slots) (hx : p.tables.exec = Jvm.exec) (hZ : Z.Warmed39 s.vm) (hown : s.vm.findClass own = some m.cls) (w1 : (Cond.methodLink own index y).before a0 Z = true) (w2 : (Cond.static y).before a0 Z = true) (w3 : (Cond.initialized y.cls).before a0 Z = true) (w4 : (Cond.code y bytes maxL ret).before a0 Z = true)
    (hy : y.cls ≠ "java/lang/invoke/MethodHandle" ∧ y.cls ≠ "java/lang/invoke/VarHandle") (eT : T.heap = h) {argsL rest : List Value} (hM : own_Met l y bytes maxL ret [] rm Z argsL.toArray h Q) (W : Nat) (hf : rm.frames + 1 ≤ R.frames) (hl : W + (maxL + 11) + rm.locals ≤ R.locals) (hc : cells + rm.cells ≤ R.cells) (hs : slots + rm.slots ≤ R.slots)
    {g : JFrame} (hg : g.method = m) (hsize : g.locals.size = c.maxLocals) (hlen : ∀ sig, parseMethodDescriptor y.desc = some sig → argsL.length = sig.parameters.length) (hstack : g.stack = argsL.reverse ++ rest) (hW : 2 * g.monitorRoom + (rest.map fun v => v.category).sum ≤ W) (hdg : decode c.code g.pc = .ok (.invokestatic index, 3)) :
    ∃ (v : Option Value) (T' : State) (h' : Heap) (L : List Loc), Stand p l e R s m args below meth c T' (locs ++ L) (cells + rm.cells) (slots + rm.slots) ∧ T'.heap = h' ∧ Q v h' L ∧ ∀ t, Steps p.tables e below (T'.setTop { g with pc := g.pc + 3, stack := v.toList ++ rest }) t → Steps p.tables e below (T.setTop g) t := by
  obtain ⟨v, _, ⟨T', L', k', n'⟩, -, X', ⟨Lc, hQ, l', y', z'⟩, st⟩ := Jvm.LawKit.callS X hx hown (mvT hZ w1) (mvT hZ w2) (mvT hZ w3) (mvT hZ w4) hy (backOf (W := W) hM hZ w4 w3 hf hl) hg hsize hlen hstack hW hdg (fun _ _ => ⟨rfl, eT, hc, hs⟩)
  dsimp only [Pt.U, Pt.locs, Pt.cells, Pt.slots] at X' l' y' z' st hQ
  subst l' y' z'
  exact ⟨v, T', _, Lc, X', rfl, hQ, st⟩
theorem own_callI (X : Stand p l e R s m args below meth c T locs cells slots) (hx : p.tables.exec = Jvm.exec) (hZ : Z.Warmed39 s.vm) (hn : y.name = "<init>") (hown : s.vm.findClass own = some m.cls) (w1 : (Cond.methodLink own index y).before a0 Z = true) (w2 : (Cond.instanceMethod y).before a0 Z = true) (w3 : (Cond.initialized y.cls).before a0 Z = true) (w4 : (Cond.code y bytes maxL none).before a0 Z = true)
    (hy : y.cls ≠ "java/lang/invoke/MethodHandle" ∧ y.cls ≠ "java/lang/invoke/VarHandle") (eT : T.heap = h) {a : Addr} {argsL rest : List Value} (hM : own_Met l y bytes maxL none [] rm Z (.ref a :: argsL).toArray h Q) (W : Nat) (hf : rm.frames + 1 ≤ R.frames) (hl : W + (maxL + 11) + rm.locals ≤ R.locals) (hc : cells + rm.cells ≤ R.cells) (hs : slots + rm.slots ≤ R.slots)
    {g : JFrame} (hg : g.method = m) (hsize : g.locals.size = c.maxLocals) (hlen : ∀ sig, parseMethodDescriptor y.desc = some sig → argsL.length = sig.parameters.length) (hstack : g.stack = argsL.reverse ++ .ref a :: rest) (hW : 2 * g.monitorRoom + (rest.map fun v => v.category).sum ≤ W) (hdg : decode c.code g.pc = .ok (.invokespecial index, 3)) :
    ∃ (v : Option Value) (T' : State) (h' : Heap) (L : List Loc), Stand p l e R s m args below meth c T' (locs ++ L) (cells + rm.cells) (slots + rm.slots) ∧ T'.heap = h' ∧ Q v h' L ∧ ∀ t, Steps p.tables e below (T'.setTop { g with pc := g.pc + 3, stack := v.toList ++ rest }) t → Steps p.tables e below (T.setTop g) t := by
  obtain ⟨v, _, ⟨T', L', k', n'⟩, -, X', ⟨Lc, hQ, l', y', z'⟩, st⟩ := X.specialBack hx hn hown (mvT hZ w1) (mvT hZ w2) (mvT hZ w4) hy (backOf (W := W) hM hZ w4 w3 hf hl) hg hsize (Steps.refl _) hlen hstack hW hdg (fun _ _ => ⟨rfl, eT, hc, hs⟩)
  dsimp only [Pt.U, Pt.locs, Pt.cells, Pt.slots] at X' l' y' z' st hQ
  subst l' y' z'
  exact ⟨v, T', _, Lc, X', rfl, hQ, fun t k => st.trans k⟩
theorem own_callV {C : String} {z : MethodName} (X : Stand p l e R s m args below meth c T locs cells slots) (hx : p.tables.exec = Jvm.exec) (hZ : Z.Warmed39 s.vm) (hown : s.vm.findClass own = some m.cls) (w1 : (Cond.methodLink own index y).before a0 Z = true) (w2 : (Cond.declares y).before a0 Z = true) (w3 : (Cond.selects C y z).before a0 Z = true) (hnf : NotFace s y) (w5 : (Cond.instanceMethod z).before a0 Z = true) (w6 : (Cond.initialized z.cls).before a0 Z = true) (w4 : (Cond.code z bytes maxL ret).before a0 Z = true)
    (hy : y.cls ≠ "java/lang/invoke/MethodHandle" ∧ y.cls ≠ "java/lang/invoke/VarHandle") (eT : T.heap = h) {a : Addr} (E : Exa Z h a C) {argsL rest : List Value} (hM : own_Met l z bytes maxL ret [] rm Z (.ref a :: argsL).toArray h Q) (W : Nat) (hf : rm.frames + 1 ≤ R.frames) (hl : W + (maxL + 11) + rm.locals ≤ R.locals) (hc : cells + rm.cells ≤ R.cells) (hs : slots + rm.slots ≤ R.slots)
    {g : JFrame} (hg : g.method = m) (hsize : g.locals.size = c.maxLocals) (hlen : ∀ sig, parseMethodDescriptor y.desc = some sig → argsL.length = sig.parameters.length) (hstack : g.stack = argsL.reverse ++ .ref a :: rest) (hW : 2 * g.monitorRoom + (rest.map fun v => v.category).sum ≤ W) (hdg : decode c.code g.pc = .ok (.invokevirtual index, 3)) :
    ∃ (v : Option Value) (T' : State) (h' : Heap) (L : List Loc), Stand p l e R s m args below meth c T' (locs ++ L) (cells + rm.cells) (slots + rm.slots) ∧ T'.heap = h' ∧ Q v h' L ∧ ∀ t, Steps p.tables e below (T'.setTop { g with pc := g.pc + 3, stack := v.toList ++ rest }) t → Steps p.tables e below (T.setTop g) t := by
  obtain ⟨cq, kq, qa, qb, qc⟩ := isOf hZ eT E
  obtain ⟨v, _, ⟨T', L', k', n'⟩, -, X', ⟨Lc, hQ, l', y', z'⟩, st⟩ := X.virtualBack hx hown (mvT hZ w1) (mvT hZ w2) hnf (mvT hZ w3) (mvT hZ w5) hy (backOf (W := W) hM hZ w4 w6 hf hl) qa qc hg hsize (Steps.refl _) hlen hstack hW hdg (fun _ _ => ⟨rfl, eT, hc, hs⟩)
  dsimp only [Pt.U, Pt.locs, Pt.cells, Pt.slots] at X' l' y' z' st hQ
  subst l' y' z'
  exact ⟨v, T', _, Lc, X', rfl, hQ, fun t k => st.trans k⟩
theorem own_callP (X : Stand p l e R s m args below meth c T locs cells slots) (hx : p.tables.exec = Jvm.exec) (hZ : Z.Warmed39 s.vm) (hown : s.vm.findClass own = some m.cls) (w1 : (Cond.methodLink own index y).before a0 Z = true) (w2 : (Cond.instanceMethod y).before a0 Z = true) (w3 : (Cond.selects y.cls y y).before a0 Z = true) (w5 : (Cond.privateMethod y).before a0 Z = true) (w6 : (Cond.initialized y.cls).before a0 Z = true) (w4 : (Cond.code y bytes maxL ret).before a0 Z = true)
    (hy : y.cls ≠ "java/lang/invoke/MethodHandle" ∧ y.cls ≠ "java/lang/invoke/VarHandle") (eT : T.heap = h) {a : Addr} {C : String} (E : Exa Z h a C) {argsL rest : List Value} (hM : own_Met l y bytes maxL ret [] rm Z (.ref a :: argsL).toArray h Q) (W : Nat) (hf : rm.frames + 1 ≤ R.frames) (hl : W + (maxL + 11) + rm.locals ≤ R.locals) (hc : cells + rm.cells ≤ R.cells) (hs : slots + rm.slots ≤ R.slots)
    {g : JFrame} (hg : g.method = m) (hsize : g.locals.size = c.maxLocals) (hlen : ∀ sig, parseMethodDescriptor y.desc = some sig → argsL.length = sig.parameters.length) (hstack : g.stack = argsL.reverse ++ .ref a :: rest) (hW : 2 * g.monitorRoom + (rest.map fun v => v.category).sum ≤ W) (hdg : decode c.code g.pc = .ok (.invokevirtual index, 3)) :
    ∃ (v : Option Value) (T' : State) (h' : Heap) (L : List Loc), Stand p l e R s m args below meth c T' (locs ++ L) (cells + rm.cells) (slots + rm.slots) ∧ T'.heap = h' ∧ Q v h' L ∧ ∀ t, Steps p.tables e below (T'.setTop { g with pc := g.pc + 3, stack := v.toList ++ rest }) t → Steps p.tables e below (T.setTop g) t := by
  obtain ⟨cq, q1, q2⟩ := E.cell
  obtain ⟨v, _, ⟨T', L', k', n'⟩, -, X', ⟨Lc, hQ, l', y', z'⟩, st⟩ := X.privateBack hx hown (mvT hZ w1) (mvT hZ w2) (mvT hZ w3) (Cond.privateMethod_at (mvP hZ w5 (args := #[]))) (mvT hZ w4) hy (backOf (W := W) hM hZ w4 w6 hf hl) hg hsize (Steps.refl _) (by rw [eT]; exact q1) q2 hlen hstack hW hdg (fun _ _ => ⟨rfl, eT, hc, hs⟩)
  dsimp only [Pt.U, Pt.locs, Pt.cells, Pt.slots] at X' l' y' z' st hQ
  subst l' y' z'
  exact ⟨v, T', _, Lc, X', rfl, hQ, fun t k => st.trans k⟩
theorem own_callF {C : String} {z : MethodName} {count : Nat} (X : Stand p l e R s m args below meth c T locs cells slots) (hx : p.tables.exec = Jvm.exec) (hZ : Z.Warmed39 s.vm) (hown : s.vm.findClass own = some m.cls) (w1 : (Cond.methodLink own index y).before a0 Z = true) (w2 : (Cond.declares y).before a0 Z = true) (w3 : (Cond.interfaceMethod y.cls y.cls y.name y.desc).before args s = true) (w5 : (Cond.selects C y z).before a0 Z = true) (w7 : (Cond.instanceMethod z).before a0 Z = true) (w8 : (Cond.publicMethod z).before a0 Z = true) (w9 : (Cond.unhidden C y.name y.desc).before a0 Z = true) (w10 : (Cond.castable C y.cls).before a0 Z = true) (w6 : (Cond.initialized z.cls).before a0 Z = true) (w4 : (Cond.code z bytes maxL ret).before a0 Z = true)
    (hy : y.cls ≠ "java/lang/invoke/MethodHandle" ∧ y.cls ≠ "java/lang/invoke/VarHandle") (eT : T.heap = h) {a : Addr} (E : Exa Z h a C) {argsL rest : List Value} (hM : own_Met l z bytes maxL ret [] rm Z (.ref a :: argsL).toArray h Q) (W : Nat) (hf : rm.frames + 1 ≤ R.frames) (hl : W + (maxL + 11) + rm.locals ≤ R.locals) (hc : cells + rm.cells ≤ R.cells) (hs : slots + rm.slots ≤ R.slots)
    {g : JFrame} (hg : g.method = m) (hsize : g.locals.size = c.maxLocals) (hlen : ∀ sig, parseMethodDescriptor y.desc = some sig → argsL.length = sig.parameters.length) (hstack : g.stack = argsL.reverse ++ .ref a :: rest) (hW : 2 * g.monitorRoom + (rest.map fun v => v.category).sum ≤ W) (hdg : decode c.code g.pc = .ok (.invokeinterface index count, 5)) :
    ∃ (v : Option Value) (T' : State) (h' : Heap) (L : List Loc), Stand p l e R s m args below meth c T' (locs ++ L) (cells + rm.cells) (slots + rm.slots) ∧ T'.heap = h' ∧ Q v h' L ∧ ∀ t, Steps p.tables e below (T'.setTop { g with pc := g.pc + 5, stack := v.toList ++ rest }) t → Steps p.tables e below (T.setTop g) t := by
  obtain ⟨cq, kq, qa, qb, qc⟩ := isOf hZ eT E
  obtain ⟨v, _, ⟨T', L', k', n'⟩, -, X', ⟨Lc, hQ, l', y', z'⟩, st⟩ := X.interfaceBack hx hown (mvT hZ w1) (mvT hZ w2) w3 (mvT hZ w5) (mvT hZ w7) (mvT hZ w8) (mvT hZ w9) (mvT hZ w10) hy (backOf (W := W) hM hZ w4 w6 hf hl) qa qb qc hg hsize (Steps.refl _) hlen hstack hW hdg (fun _ _ => ⟨rfl, eT, hc, hs⟩)
  dsimp only [Pt.U, Pt.locs, Pt.cells, Pt.slots] at X' l' y' z' st hQ
  subst l' y' z'
  exact ⟨v, T', _, Lc, X', rfl, hQ, fun t k => st.trans k⟩
end Calls
end OwnKit
end Jvm.RoadKit
namespace Jvm.Pilot.@@N@@
open Jvm Jvm.ClassFile Sem Op Lib Jvm.Free Jvm.Stand Jvm.LawKit Jvm.RoadKit Bundle Jvm.Pilot.@@N@@.Jvm.D
def own_x (k : Int32) (z : Int64) : Int64 := z ^^^ ((z).toUInt64 >>> (k &&& 0x3f).toInt64.toUInt64).toInt64
def own_mix (z : Int64) : Int64 := own_x (31 : Int32) (own_x (27 : Int32) (own_x (30 : Int32) z * (-4658895280553007687 : Int64)) * (-7723592293110705685 : Int64))
def own_u (k j : Int32) (z : Int64) : Int64 := (z ^^^ ((z).toUInt64 >>> (k &&& 0x3f).toInt64.toUInt64).toInt64) ^^^ ((z).toUInt64 >>> (j &&& 0x3f).toInt64.toUInt64).toInt64
theorem own_sh (z : Int64) (k : Int32) (n : Nat) (hk : ((k &&& 0x3f).toInt64.toUInt64 % 64).toBitVec.toNat = n) : (((z).toUInt64 >>> (k &&& 0x3f).toInt64.toUInt64).toInt64).toBitVec = z.toBitVec >>> n := by
  subst hk
  rfl
theorem own_bits (b : BitVec 64) (n : Nat) (h : 64 ≤ 3 * n) : ((b ^^^ b >>> n) ^^^ (b ^^^ b >>> n) >>> n) ^^^ (b ^^^ b >>> n) >>> (2 * n) = b := by
  apply BitVec.eq_of_getLsbD_eq
  intro i hi
  simp only [BitVec.getLsbD_xor, BitVec.getLsbD_ushiftRight]
  have e1 : n + (n + i) = 2 * n + i := by omega
  have e2 : n + (2 * n + i) = 3 * n + i := by omega
  have e3 : b.getLsbD (3 * n + i) = false := BitVec.getLsbD_of_ge _ _ (by omega)
  rw [e1, e2, e3]
  cases b.getLsbD i <;> cases b.getLsbD (n + i) <;> cases b.getLsbD (2 * n + i) <;> rfl
theorem own_ux (k j : Int32) (n : Nat) (hk : ((k &&& 0x3f).toInt64.toUInt64 % 64).toBitVec.toNat = n) (hj : ((j &&& 0x3f).toInt64.toUInt64 % 64).toBitVec.toNat = 2 * n) (h : 64 ≤ 3 * n) (z : Int64) : own_u k j (own_x k z) = z := by
  apply Int64.toBitVec_inj.mp
  have a : (own_x k z).toBitVec = z.toBitVec ^^^ z.toBitVec >>> n := by
    show z.toBitVec ^^^ (((z).toUInt64 >>> (k &&& 0x3f).toInt64.toUInt64).toInt64).toBitVec = _
    rw [own_sh z k n hk]
  generalize own_x k z = y at a ⊢
  show (y.toBitVec ^^^ (((y).toUInt64 >>> (k &&& 0x3f).toInt64.toUInt64).toInt64).toBitVec) ^^^ (((y).toUInt64 >>> (j &&& 0x3f).toInt64.toUInt64).toInt64).toBitVec = _
  rw [own_sh y k n hk, own_sh y j (2 * n) hj, a]
  exact own_bits _ n h
theorem own_u31 (z : Int64) : own_u (31 : Int32) (62 : Int32) (own_x (31 : Int32) z) = z := own_ux _ _ 31 (by decide) (by decide) (by decide) z
theorem own_u27 (z : Int64) : own_u (27 : Int32) (54 : Int32) (own_x (27 : Int32) z) = z := own_ux _ _ 27 (by decide) (by decide) (by decide) z
theorem own_u30 (z : Int64) : own_u (30 : Int32) (60 : Int32) (own_x (30 : Int32) z) = z := own_ux _ _ 30 (by decide) (by decide) (by decide) z
theorem own_mul (z m i : Int64) (h : m * i = 1) : z * m * i = z := by rw [Int64.mul_assoc, h, Int64.mul_one]
def own_unmix (r i j : Int64) : Int64 := own_u (30 : Int32) (60 : Int32) (own_u (27 : Int32) (54 : Int32) (own_u (31 : Int32) (62 : Int32) r * j) * i)
theorem own_back (z : Int64) : own_unmix (own_mix z) (-7575587736534282103 : Int64) (3573116690164977347 : Int64) = z := by
  rw [own_unmix, own_mix, own_u31, own_mul _ _ _ (by decide), own_u27, own_mul _ _ _ (by decide), own_u30]

def own_nw (c x : Int64) : Int64 := x * ((2 : Int64) - (c * x))
def own_inv (c : Int64) : Int64 := own_nw c (own_nw c (own_nw c (own_nw c (own_nw c c))))
theorem own_inv1 : own_inv (-4658895280553007687 : Int64) = (-7575587736534282103 : Int64) := by decide +kernel
theorem own_inv2 : own_inv (-7723592293110705685 : Int64) = (3573116690164977347 : Int64) := by decide +kernel
theorem d1_0 : decode method_2_code 0 = .ok (.lload_n 0, 1) := by decide +kernel
theorem d1_1 : decode method_2_code 1 = .ok (.lstore_n 2, 1) := by decide +kernel
theorem d1_2 : decode method_2_code 2 = .ok (.lload_n 2, 1) := by decide +kernel
theorem d1_3 : decode method_2_code 3 = .ok (.ldc2_w 7, 3) := by decide +kernel
theorem d1_6 : decode method_2_code 6 = .ok (.lload_n 0, 1) := by decide +kernel
theorem d1_7 : decode method_2_code 7 = .ok (.lload_n 2, 1) := by decide +kernel
theorem d1_8 : decode method_2_code 8 = .ok (.lmul, 1) := by decide +kernel
theorem d1_9 : decode method_2_code 9 = .ok (.lsub, 1) := by decide +kernel
theorem d1_10 : decode method_2_code 10 = .ok (.lmul, 1) := by decide +kernel
theorem d1_11 : decode method_2_code 11 = .ok (.lstore_n 2, 1) := by decide +kernel
theorem d1_12 : decode method_2_code 12 = .ok (.lload_n 2, 1) := by decide +kernel
theorem d1_13 : decode method_2_code 13 = .ok (.ldc2_w 7, 3) := by decide +kernel
theorem d1_16 : decode method_2_code 16 = .ok (.lload_n 0, 1) := by decide +kernel
theorem d1_17 : decode method_2_code 17 = .ok (.lload_n 2, 1) := by decide +kernel
theorem d1_18 : decode method_2_code 18 = .ok (.lmul, 1) := by decide +kernel
theorem d1_19 : decode method_2_code 19 = .ok (.lsub, 1) := by decide +kernel
theorem d1_20 : decode method_2_code 20 = .ok (.lmul, 1) := by decide +kernel
theorem d1_21 : decode method_2_code 21 = .ok (.lstore_n 2, 1) := by decide +kernel
theorem d1_22 : decode method_2_code 22 = .ok (.lload_n 2, 1) := by decide +kernel
theorem d1_23 : decode method_2_code 23 = .ok (.ldc2_w 7, 3) := by decide +kernel
theorem d1_26 : decode method_2_code 26 = .ok (.lload_n 0, 1) := by decide +kernel
theorem d1_27 : decode method_2_code 27 = .ok (.lload_n 2, 1) := by decide +kernel
theorem d1_28 : decode method_2_code 28 = .ok (.lmul, 1) := by decide +kernel
theorem d1_29 : decode method_2_code 29 = .ok (.lsub, 1) := by decide +kernel
theorem d1_30 : decode method_2_code 30 = .ok (.lmul, 1) := by decide +kernel
theorem d1_31 : decode method_2_code 31 = .ok (.lstore_n 2, 1) := by decide +kernel
theorem d1_32 : decode method_2_code 32 = .ok (.lload_n 2, 1) := by decide +kernel
theorem d1_33 : decode method_2_code 33 = .ok (.ldc2_w 7, 3) := by decide +kernel
theorem d1_36 : decode method_2_code 36 = .ok (.lload_n 0, 1) := by decide +kernel
theorem d1_37 : decode method_2_code 37 = .ok (.lload_n 2, 1) := by decide +kernel
theorem d1_38 : decode method_2_code 38 = .ok (.lmul, 1) := by decide +kernel
theorem d1_39 : decode method_2_code 39 = .ok (.lsub, 1) := by decide +kernel
theorem d1_40 : decode method_2_code 40 = .ok (.lmul, 1) := by decide +kernel
theorem d1_41 : decode method_2_code 41 = .ok (.lstore_n 2, 1) := by decide +kernel
theorem d1_42 : decode method_2_code 42 = .ok (.lload_n 2, 1) := by decide +kernel
theorem d1_43 : decode method_2_code 43 = .ok (.ldc2_w 7, 3) := by decide +kernel
theorem d1_46 : decode method_2_code 46 = .ok (.lload_n 0, 1) := by decide +kernel
theorem d1_47 : decode method_2_code 47 = .ok (.lload_n 2, 1) := by decide +kernel
theorem d1_48 : decode method_2_code 48 = .ok (.lmul, 1) := by decide +kernel
theorem d1_49 : decode method_2_code 49 = .ok (.lsub, 1) := by decide +kernel
theorem d1_50 : decode method_2_code 50 = .ok (.lmul, 1) := by decide +kernel
theorem d1_51 : decode method_2_code 51 = .ok (.lstore_n 2, 1) := by decide +kernel
theorem d1_52 : decode method_2_code 52 = .ok (.lload_n 2, 1) := by decide +kernel
theorem d1_53 : decode method_2_code 53 = .ok (.lreturn, 1) := by decide +kernel
theorem d2_0 : decode prog_167_method_1_code 0 = .ok (.aload_n 0, 1) := by decide +kernel
theorem d2_1 : decode prog_167_method_1_code 1 = .ok (.invokespecial 1, 3) := by decide +kernel
theorem d2_4 : decode prog_167_method_1_code 4 = .ok (.aload_n 0, 1) := by decide +kernel
theorem d2_5 : decode prog_167_method_1_code 5 = .ok (.lload_n 1, 1) := by decide +kernel
theorem d2_6 : decode prog_167_method_1_code 6 = .ok (.putfield 7, 3) := by decide +kernel
theorem d2_9 : decode prog_167_method_1_code 9 = .ok (.return_, 1) := by decide +kernel
theorem d4_0 : decode prog_167_method_2_code 0 = .ok (.aload_n 0, 1) := by decide +kernel
theorem d4_1 : decode prog_167_method_2_code 1 = .ok (.dup, 1) := by decide +kernel
theorem d4_2 : decode prog_167_method_2_code 2 = .ok (.getfield 7, 3) := by decide +kernel
theorem d4_5 : decode prog_167_method_2_code 5 = .ok (.ldc2_w 13, 3) := by decide +kernel
theorem d4_8 : decode prog_167_method_2_code 8 = .ok (.ladd, 1) := by decide +kernel
theorem d4_9 : decode prog_167_method_2_code 9 = .ok (.putfield 7, 3) := by decide +kernel
theorem d4_12 : decode prog_167_method_2_code 12 = .ok (.aload_n 0, 1) := by decide +kernel
theorem d4_13 : decode prog_167_method_2_code 13 = .ok (.getfield 7, 3) := by decide +kernel
theorem d4_16 : decode prog_167_method_2_code 16 = .ok (.lstore_n 1, 1) := by decide +kernel
theorem d4_17 : decode prog_167_method_2_code 17 = .ok (.lload_n 1, 1) := by decide +kernel
theorem d4_18 : decode prog_167_method_2_code 18 = .ok (.lload_n 1, 1) := by decide +kernel
theorem d4_19 : decode prog_167_method_2_code 19 = .ok (.bipush 30, 2) := by decide +kernel
theorem d4_21 : decode prog_167_method_2_code 21 = .ok (.lushr, 1) := by decide +kernel
theorem d4_22 : decode prog_167_method_2_code 22 = .ok (.lxor, 1) := by decide +kernel
theorem d4_23 : decode prog_167_method_2_code 23 = .ok (.ldc2_w 15, 3) := by decide +kernel
theorem d4_26 : decode prog_167_method_2_code 26 = .ok (.lmul, 1) := by decide +kernel
theorem d4_27 : decode prog_167_method_2_code 27 = .ok (.lstore_n 1, 1) := by decide +kernel
theorem d4_28 : decode prog_167_method_2_code 28 = .ok (.lload_n 1, 1) := by decide +kernel
theorem d4_29 : decode prog_167_method_2_code 29 = .ok (.lload_n 1, 1) := by decide +kernel
theorem d4_30 : decode prog_167_method_2_code 30 = .ok (.bipush 27, 2) := by decide +kernel
theorem d4_32 : decode prog_167_method_2_code 32 = .ok (.lushr, 1) := by decide +kernel
theorem d4_33 : decode prog_167_method_2_code 33 = .ok (.lxor, 1) := by decide +kernel
theorem d4_34 : decode prog_167_method_2_code 34 = .ok (.ldc2_w 17, 3) := by decide +kernel
theorem d4_37 : decode prog_167_method_2_code 37 = .ok (.lmul, 1) := by decide +kernel
theorem d4_38 : decode prog_167_method_2_code 38 = .ok (.lstore_n 1, 1) := by decide +kernel
theorem d4_39 : decode prog_167_method_2_code 39 = .ok (.lload_n 1, 1) := by decide +kernel
theorem d4_40 : decode prog_167_method_2_code 40 = .ok (.lload_n 1, 1) := by decide +kernel
theorem d4_41 : decode prog_167_method_2_code 41 = .ok (.bipush 31, 2) := by decide +kernel
theorem d4_43 : decode prog_167_method_2_code 43 = .ok (.lushr, 1) := by decide +kernel
theorem d4_44 : decode prog_167_method_2_code 44 = .ok (.lxor, 1) := by decide +kernel
theorem d4_45 : decode prog_167_method_2_code 45 = .ok (.lreturn, 1) := by decide +kernel
theorem d5_0 : decode method_3_code 0 = .ok (.lload_n 0, 1) := by decide +kernel
theorem d5_1 : decode method_3_code 1 = .ok (.lload_n 0, 1) := by decide +kernel
theorem d5_2 : decode method_3_code 2 = .ok (.bipush 31, 2) := by decide +kernel
theorem d5_4 : decode method_3_code 4 = .ok (.lushr, 1) := by decide +kernel
theorem d5_5 : decode method_3_code 5 = .ok (.lxor, 1) := by decide +kernel
theorem d5_6 : decode method_3_code 6 = .ok (.lload_n 0, 1) := by decide +kernel
theorem d5_7 : decode method_3_code 7 = .ok (.bipush 62, 2) := by decide +kernel
theorem d5_9 : decode method_3_code 9 = .ok (.lushr, 1) := by decide +kernel
theorem d5_10 : decode method_3_code 10 = .ok (.lxor, 1) := by decide +kernel
theorem d5_11 : decode method_3_code 11 = .ok (.lstore 6, 2) := by decide +kernel
theorem d5_13 : decode method_3_code 13 = .ok (.lload 6, 2) := by decide +kernel
theorem d5_15 : decode method_3_code 15 = .ok (.lload 4, 2) := by decide +kernel
theorem d5_17 : decode method_3_code 17 = .ok (.lmul, 1) := by decide +kernel
theorem d5_18 : decode method_3_code 18 = .ok (.lstore 6, 2) := by decide +kernel
theorem d5_20 : decode method_3_code 20 = .ok (.lload 6, 2) := by decide +kernel
theorem d5_22 : decode method_3_code 22 = .ok (.lload 6, 2) := by decide +kernel
theorem d5_24 : decode method_3_code 24 = .ok (.bipush 27, 2) := by decide +kernel
theorem d5_26 : decode method_3_code 26 = .ok (.lushr, 1) := by decide +kernel
theorem d5_27 : decode method_3_code 27 = .ok (.lxor, 1) := by decide +kernel
theorem d5_28 : decode method_3_code 28 = .ok (.lload 6, 2) := by decide +kernel
theorem d5_30 : decode method_3_code 30 = .ok (.bipush 54, 2) := by decide +kernel
theorem d5_32 : decode method_3_code 32 = .ok (.lushr, 1) := by decide +kernel
theorem d5_33 : decode method_3_code 33 = .ok (.lxor, 1) := by decide +kernel
theorem d5_34 : decode method_3_code 34 = .ok (.lstore 6, 2) := by decide +kernel
theorem d5_36 : decode method_3_code 36 = .ok (.lload 6, 2) := by decide +kernel
theorem d5_38 : decode method_3_code 38 = .ok (.lload_n 2, 1) := by decide +kernel
theorem d5_39 : decode method_3_code 39 = .ok (.lmul, 1) := by decide +kernel
theorem d5_40 : decode method_3_code 40 = .ok (.lstore 6, 2) := by decide +kernel
theorem d5_42 : decode method_3_code 42 = .ok (.lload 6, 2) := by decide +kernel
theorem d5_44 : decode method_3_code 44 = .ok (.lload 6, 2) := by decide +kernel
theorem d5_46 : decode method_3_code 46 = .ok (.bipush 30, 2) := by decide +kernel
theorem d5_48 : decode method_3_code 48 = .ok (.lushr, 1) := by decide +kernel
theorem d5_49 : decode method_3_code 49 = .ok (.lxor, 1) := by decide +kernel
theorem d5_50 : decode method_3_code 50 = .ok (.lload 6, 2) := by decide +kernel
theorem d5_52 : decode method_3_code 52 = .ok (.bipush 60, 2) := by decide +kernel
theorem d5_54 : decode method_3_code 54 = .ok (.lushr, 1) := by decide +kernel
theorem d5_55 : decode method_3_code 55 = .ok (.lxor, 1) := by decide +kernel
theorem d5_56 : decode method_3_code 56 = .ok (.lstore 6, 2) := by decide +kernel
theorem d5_58 : decode method_3_code 58 = .ok (.lload 6, 2) := by decide +kernel
theorem d5_60 : decode method_3_code 60 = .ok (.lreturn, 1) := by decide +kernel
theorem pd0 : parseMethodDescriptor "(J)J" = some ⟨[.long], some .long⟩ := by decide +kernel
theorem pd1 : parseMethodDescriptor "(J)V" = some ⟨[.long], none⟩ := by decide +kernel
theorem pd2 : parseMethodDescriptor "()J" = some ⟨[], some .long⟩ := by decide +kernel
theorem pd3 : parseMethodDescriptor "(JJJ)J" = some ⟨[.long, .long, .long], some .long⟩ := by decide +kernel
set_option maxRecDepth 65536 in
set_option maxHeartbeats 40000000 in
theorem rm2 (l : Launch) (Z : State) (a0 : Array Value) (hw : ∀ d ∈ tables_1, d.before a0 Z = true) (ws : List Jvm.Cond) (a1 : Addr) (q2 : Int64) (h0 : Heap) (n0 : Nat) (Z0 : n0 ≤ h0.size) (E_a1 : Exa Z h0 a1 "weirjoin/SplitMix64") (F_a1 : Fld Z h0 a1 "weirjoin/SplitMix64" "state" "J" (.long (0 : Int64))) (g_a1 : n0 ≤ a1) :
    own_Met l (⟨"weirjoin/SplitMix64", "<init>", "(J)V"⟩ : MethodName) prog_167_method_1_code 3 none ws ({ frames := 1, cells := 0, slots := 0, locals := 12 } : Room) Z #[(.ref a1), (.long q2)] h0 (fun v h L => v = none ∧ Fr n0 L ∧ Keep h0 h [a1] ∧ Exa Z h a1 "weirjoin/SplitMix64" ∧ Fld Z h a1 "weirjoin/SplitMix64" "state" "J" (.long q2)) := by
  refine own_body (plainFor_of_name (by first | (simp [plainName, overriddenIn]; done) | decide +kernel)) ?_
  intro p e s m below meth c s₁ X0 hx hby hml hown hnm hret hlk hZ e0
  have N0 := Fr.nil n0
  refine own_cast (show entryFrame m #[(.ref a1), (.long q2)] 3 = mkF m 0 #[.val (.ref a1), .val (.long q2), .second] [] from by first | (simp [entryFrame, mkF, argsToLocals, Value.category]; done) | rfl) ?_
  show own_Go _ _ _ _ s₁ (mkF m 0 #[.val (.ref a1), .val (.long q2), .second] [])
  refine own_go (fun _ k => XS.aloadN X0.here hx rfl (hb hby d2_0) rfl rfl k) ?_
  show own_Go _ _ _ _ s₁ (mkF m 1 #[.val (.ref a1), .val (.long q2), .second] [(.ref a1)])
  obtain ⟨T1, X1, e1, st1⟩ := initO X0 hx hZ hown (hw _ (List.mem_of_getElem? (i := 13) rfl)) (hw _ (List.mem_of_getElem? (i := 14) rfl)) (hw _ (List.mem_of_getElem? (i := 15) rfl)) e0 (g := (mkF m 1 #[.val (.ref a1), .val (.long q2), .second] [(.ref a1)])) rfl (by rw [hml]; rfl) rfl (hb hby d2_1) (by decide) (W := 0) (Nat.le_of_eq rfl) (by decide)
  refine own_go (st1) ?_
  show own_Go _ _ _ _ T1 (mkF m 4 #[.val (.ref a1), .val (.long q2), .second] [])
  refine own_go (fun _ k => XS.aloadN X1.here hx rfl (hb hby d2_4) rfl rfl k) ?_
  show own_Go _ _ _ _ T1 (mkF m 5 #[.val (.ref a1), .val (.long q2), .second] [(.ref a1)])
  refine own_go (fun _ k => XS.lloadN X1.here hx rfl (hb hby d2_5) rfl k) ?_
  show own_Go _ _ _ _ T1 (mkF m 6 #[.val (.ref a1), .val (.long q2), .second] [(.long q2), (.ref a1)])
  obtain ⟨T2, h2, X2, e2, W2, st2⟩ := putF X1 hx hZ hown (host := "") (Or.inl (hw _ (List.mem_of_getElem? (i := 16) rfl))) Via.refl e1 F_a1 E_a1 (Or.inl (hw _ (List.mem_of_getElem? (i := 17) rfl))) (hw _ (List.mem_of_getElem? (i := 8) rfl)) (ty := .long) (by decide) rfl rfl (g := (mkF m 6 #[.val (.ref a1), .val (.long q2), .second] [(.long q2), (.ref a1)])) rfl rfl (hb hby d2_6)
  refine own_go (st2) ?_
  have Fw2 := F_a1.same W2
  have N2 := Fr.snoc X2 N0 g_a1
  show own_Go _ _ _ _ T2 (mkF m 9 #[.val (.ref a1), .val (.long q2), .second] [])
  have f3 := ((Keep.refl h0 [a1]).wr W2 (Or.inl (List.mem_of_getElem? (i := 0) rfl)))
  have f4 := (E_a1.wr W2)
  exact own_retV X2 hx hret hlk (hb hby d2_9) (by decide) (by decide) (by first | exact ⟨rfl, N2, f3, f4, Fw2⟩ | (rw [e2]; exact ⟨rfl, N2, f3, f4, Fw2⟩))
set_option maxRecDepth 65536 in
set_option maxHeartbeats 40000000 in
theorem rm4 (l : Launch) (Z : State) (a0 : Array Value) (hw : ∀ d ∈ tables_1, d.before a0 Z = true) (ws : List Jvm.Cond) (a1 : Addr) (q2 : Int64) (h0 : Heap) (n0 : Nat) (Z0 : n0 ≤ h0.size) (E_a1 : Exa Z h0 a1 "weirjoin/SplitMix64") (F_a1 : Fld Z h0 a1 "weirjoin/SplitMix64" "state" "J" (.long q2)) (g_a1 : n0 ≤ a1) :
    own_Met l (⟨"weirjoin/SplitMix64", "nextLong", "()J"⟩ : MethodName) prog_167_method_2_code 3 (some .long) ws ({ frames := 0, cells := 0, slots := 0, locals := 0 } : Room) Z #[(.ref a1)] h0 (fun v h L => v = some (.long (own_mix (q2 + (-7046029254386353131 : Int64)))) ∧ Fr n0 L ∧ Keep h0 h [a1] ∧ Exa Z h a1 "weirjoin/SplitMix64" ∧ Fld Z h a1 "weirjoin/SplitMix64" "state" "J" (.long (q2 + (-7046029254386353131 : Int64)))) := by
  refine own_body (plainFor_of_name (by first | (simp [plainName, overriddenIn]; done) | decide +kernel)) ?_
  intro p e s m below meth c s₁ X0 hx hby hml hown hnm hret hlk hZ e0
  have N0 := Fr.nil n0
  refine own_cast (show entryFrame m #[(.ref a1)] 3 = mkF m 0 #[.val (.ref a1), .unset, .unset] [] from by first | (simp [entryFrame, mkF, argsToLocals, Value.category]; done) | rfl) ?_
  show own_Go _ _ _ _ s₁ (mkF m 0 #[.val (.ref a1), .unset, .unset] [])
  refine own_go (fun _ k => XS.aloadN X0.here hx rfl (hb hby d4_0) rfl rfl k) ?_
  show own_Go _ _ _ _ s₁ (mkF m 1 #[.val (.ref a1), .unset, .unset] [(.ref a1)])
  refine own_go (fun _ k => XS.dup X0.here hx rfl (hb hby d4_1) rfl rfl k) ?_
  show own_Go _ _ _ _ s₁ (mkF m 2 #[.val (.ref a1), .unset, .unset] [(.ref a1), (.ref a1)])
  obtain ⟨T5, X5, e5, st5⟩ := getF X0 hx hZ hown (host := "") (Or.inl (hw _ (List.mem_of_getElem? (i := 16) rfl))) Via.refl e0 F_a1 (g := (mkF m 2 #[.val (.ref a1), .unset, .unset] [(.ref a1), (.ref a1)])) rfl rfl (hb hby d4_2)
  refine own_go (st5) ?_
  show own_Go _ _ _ _ T5 (mkF m 5 #[.val (.ref a1), .unset, .unset] [(.long q2), (.ref a1)])
  refine own_go (X5.ldc2Long hx hown (mvT hZ (hw _ (List.mem_of_getElem? (i := 23) rfl))) (g := (mkF m 5 #[.val (.ref a1), .unset, .unset] [(.long q2), (.ref a1)])) rfl (hb hby d4_5)) ?_
  show own_Go _ _ _ _ T5 (mkF m 8 #[.val (.ref a1), .unset, .unset] [(.long (-7046029254386353131 : Int64)), (.long q2), (.ref a1)])
  refine own_go (fun _ k => XS.ladd X5.here hx rfl (hb hby d4_8) rfl k) ?_
  show own_Go _ _ _ _ T5 (mkF m 9 #[.val (.ref a1), .unset, .unset] [(.long (q2 + (-7046029254386353131 : Int64))), (.ref a1)])
  obtain ⟨T6, h6, X6, e6, W6, st6⟩ := putF X5 hx hZ hown (host := "") (Or.inl (hw _ (List.mem_of_getElem? (i := 16) rfl))) Via.refl e5 F_a1 E_a1 (Or.inl (hw _ (List.mem_of_getElem? (i := 17) rfl))) (hw _ (List.mem_of_getElem? (i := 8) rfl)) (ty := .long) (by decide) rfl rfl (g := (mkF m 9 #[.val (.ref a1), .unset, .unset] [(.long (q2 + (-7046029254386353131 : Int64))), (.ref a1)])) rfl rfl (hb hby d4_9)
  refine own_go (st6) ?_
  have Fw6 := F_a1.same W6
  have N6 := Fr.snoc X6 N0 g_a1
  show own_Go _ _ _ _ T6 (mkF m 12 #[.val (.ref a1), .unset, .unset] [])
  refine own_go (fun _ k => XS.aloadN X6.here hx rfl (hb hby d4_12) rfl rfl k) ?_
  show own_Go _ _ _ _ T6 (mkF m 13 #[.val (.ref a1), .unset, .unset] [(.ref a1)])
  obtain ⟨T7, X7, e7, st7⟩ := getF X6 hx hZ hown (host := "") (Or.inl (hw _ (List.mem_of_getElem? (i := 16) rfl))) Via.refl e6 Fw6 (g := (mkF m 13 #[.val (.ref a1), .unset, .unset] [(.ref a1)])) rfl rfl (hb hby d4_13)
  refine own_go (st7) ?_
  show own_Go _ _ _ _ T7 (mkF m 16 #[.val (.ref a1), .unset, .unset] [(.long (q2 + (-7046029254386353131 : Int64)))])
  refine own_go (fun _ k => XS.lstoreN X7.here hx rfl (hb hby d4_16) rfl (l' := #[.val (.ref a1), .val (.long (q2 + (-7046029254386353131 : Int64))), .second]) rfl k) ?_
  show own_Go _ _ _ _ T7 (mkF m 17 #[.val (.ref a1), .val (.long (q2 + (-7046029254386353131 : Int64))), .second] [])
  refine own_go (fun _ k => XS.lloadN X7.here hx rfl (hb hby d4_17) rfl k) ?_
  show own_Go _ _ _ _ T7 (mkF m 18 #[.val (.ref a1), .val (.long (q2 + (-7046029254386353131 : Int64))), .second] [(.long (q2 + (-7046029254386353131 : Int64)))])
  refine own_go (fun _ k => XS.lloadN X7.here hx rfl (hb hby d4_18) rfl k) ?_
  show own_Go _ _ _ _ T7 (mkF m 19 #[.val (.ref a1), .val (.long (q2 + (-7046029254386353131 : Int64))), .second] [(.long (q2 + (-7046029254386353131 : Int64))), (.long (q2 + (-7046029254386353131 : Int64)))])
  refine own_go (fun _ k => XS.bipush X7.here hx rfl (hb hby d4_19) k) ?_
  show own_Go _ _ _ _ T7 (mkF m 21 #[.val (.ref a1), .val (.long (q2 + (-7046029254386353131 : Int64))), .second] [(.int (30 : Int32)), (.long (q2 + (-7046029254386353131 : Int64))), (.long (q2 + (-7046029254386353131 : Int64)))])
  refine own_go (fun _ k => XS.lushr X7.here hx rfl (hb hby d4_21) rfl k) ?_
  show own_Go _ _ _ _ T7 (mkF m 22 #[.val (.ref a1), .val (.long (q2 + (-7046029254386353131 : Int64))), .second] [(.long (((q2 + (-7046029254386353131 : Int64))).toUInt64 >>> ((30 : Int32) &&& 0x3f).toInt64.toUInt64).toInt64), (.long (q2 + (-7046029254386353131 : Int64)))])
  refine own_go (fun _ k => XS.lxor X7.here hx rfl (hb hby d4_22) rfl k) ?_
  show own_Go _ _ _ _ T7 (mkF m 23 #[.val (.ref a1), .val (.long (q2 + (-7046029254386353131 : Int64))), .second] [(.long (own_x (30 : Int32) (q2 + (-7046029254386353131 : Int64))))])
  refine own_go (X7.ldc2Long hx hown (mvT hZ (hw _ (List.mem_of_getElem? (i := 24) rfl))) (g := (mkF m 23 #[.val (.ref a1), .val (.long (q2 + (-7046029254386353131 : Int64))), .second] [(.long (own_x (30 : Int32) (q2 + (-7046029254386353131 : Int64))))])) rfl (hb hby d4_23)) ?_
  show own_Go _ _ _ _ T7 (mkF m 26 #[.val (.ref a1), .val (.long (q2 + (-7046029254386353131 : Int64))), .second] [(.long (-4658895280553007687 : Int64)), (.long (own_x (30 : Int32) (q2 + (-7046029254386353131 : Int64))))])
  refine own_go (fun _ k => XS.lmul X7.here hx rfl (hb hby d4_26) rfl k) ?_
  show own_Go _ _ _ _ T7 (mkF m 27 #[.val (.ref a1), .val (.long (q2 + (-7046029254386353131 : Int64))), .second] [(.long ((own_x (30 : Int32) (q2 + (-7046029254386353131 : Int64))) * (-4658895280553007687 : Int64)))])
  refine own_go (fun _ k => XS.lstoreN X7.here hx rfl (hb hby d4_27) rfl (l' := #[.val (.ref a1), .val (.long ((own_x (30 : Int32) (q2 + (-7046029254386353131 : Int64))) * (-4658895280553007687 : Int64))), .second]) rfl k) ?_
  show own_Go _ _ _ _ T7 (mkF m 28 #[.val (.ref a1), .val (.long ((own_x (30 : Int32) (q2 + (-7046029254386353131 : Int64))) * (-4658895280553007687 : Int64))), .second] [])
  refine own_go (fun _ k => XS.lloadN X7.here hx rfl (hb hby d4_28) rfl k) ?_
  show own_Go _ _ _ _ T7 (mkF m 29 #[.val (.ref a1), .val (.long ((own_x (30 : Int32) (q2 + (-7046029254386353131 : Int64))) * (-4658895280553007687 : Int64))), .second] [(.long ((own_x (30 : Int32) (q2 + (-7046029254386353131 : Int64))) * (-4658895280553007687 : Int64)))])
  refine own_go (fun _ k => XS.lloadN X7.here hx rfl (hb hby d4_29) rfl k) ?_
  show own_Go _ _ _ _ T7 (mkF m 30 #[.val (.ref a1), .val (.long ((own_x (30 : Int32) (q2 + (-7046029254386353131 : Int64))) * (-4658895280553007687 : Int64))), .second] [(.long ((own_x (30 : Int32) (q2 + (-7046029254386353131 : Int64))) * (-4658895280553007687 : Int64))), (.long ((own_x (30 : Int32) (q2 + (-7046029254386353131 : Int64))) * (-4658895280553007687 : Int64)))])
  refine own_go (fun _ k => XS.bipush X7.here hx rfl (hb hby d4_30) k) ?_
  show own_Go _ _ _ _ T7 (mkF m 32 #[.val (.ref a1), .val (.long ((own_x (30 : Int32) (q2 + (-7046029254386353131 : Int64))) * (-4658895280553007687 : Int64))), .second] [(.int (27 : Int32)), (.long ((own_x (30 : Int32) (q2 + (-7046029254386353131 : Int64))) * (-4658895280553007687 : Int64))), (.long ((own_x (30 : Int32) (q2 + (-7046029254386353131 : Int64))) * (-4658895280553007687 : Int64)))])
  refine own_go (fun _ k => XS.lushr X7.here hx rfl (hb hby d4_32) rfl k) ?_
  show own_Go _ _ _ _ T7 (mkF m 33 #[.val (.ref a1), .val (.long ((own_x (30 : Int32) (q2 + (-7046029254386353131 : Int64))) * (-4658895280553007687 : Int64))), .second] [(.long ((((own_x (30 : Int32) (q2 + (-7046029254386353131 : Int64))) * (-4658895280553007687 : Int64))).toUInt64 >>> ((27 : Int32) &&& 0x3f).toInt64.toUInt64).toInt64), (.long ((own_x (30 : Int32) (q2 + (-7046029254386353131 : Int64))) * (-4658895280553007687 : Int64)))])
  refine own_go (fun _ k => XS.lxor X7.here hx rfl (hb hby d4_33) rfl k) ?_
  show own_Go _ _ _ _ T7 (mkF m 34 #[.val (.ref a1), .val (.long ((own_x (30 : Int32) (q2 + (-7046029254386353131 : Int64))) * (-4658895280553007687 : Int64))), .second] [(.long (own_x (27 : Int32) ((own_x (30 : Int32) (q2 + (-7046029254386353131 : Int64))) * (-4658895280553007687 : Int64))))])
  refine own_go (X7.ldc2Long hx hown (mvT hZ (hw _ (List.mem_of_getElem? (i := 25) rfl))) (g := (mkF m 34 #[.val (.ref a1), .val (.long ((own_x (30 : Int32) (q2 + (-7046029254386353131 : Int64))) * (-4658895280553007687 : Int64))), .second] [(.long (own_x (27 : Int32) ((own_x (30 : Int32) (q2 + (-7046029254386353131 : Int64))) * (-4658895280553007687 : Int64))))])) rfl (hb hby d4_34)) ?_
  show own_Go _ _ _ _ T7 (mkF m 37 #[.val (.ref a1), .val (.long ((own_x (30 : Int32) (q2 + (-7046029254386353131 : Int64))) * (-4658895280553007687 : Int64))), .second] [(.long (-7723592293110705685 : Int64)), (.long (own_x (27 : Int32) ((own_x (30 : Int32) (q2 + (-7046029254386353131 : Int64))) * (-4658895280553007687 : Int64))))])
  refine own_go (fun _ k => XS.lmul X7.here hx rfl (hb hby d4_37) rfl k) ?_
  show own_Go _ _ _ _ T7 (mkF m 38 #[.val (.ref a1), .val (.long ((own_x (30 : Int32) (q2 + (-7046029254386353131 : Int64))) * (-4658895280553007687 : Int64))), .second] [(.long ((own_x (27 : Int32) ((own_x (30 : Int32) (q2 + (-7046029254386353131 : Int64))) * (-4658895280553007687 : Int64))) * (-7723592293110705685 : Int64)))])
  refine own_go (fun _ k => XS.lstoreN X7.here hx rfl (hb hby d4_38) rfl (l' := #[.val (.ref a1), .val (.long ((own_x (27 : Int32) ((own_x (30 : Int32) (q2 + (-7046029254386353131 : Int64))) * (-4658895280553007687 : Int64))) * (-7723592293110705685 : Int64))), .second]) rfl k) ?_
  show own_Go _ _ _ _ T7 (mkF m 39 #[.val (.ref a1), .val (.long ((own_x (27 : Int32) ((own_x (30 : Int32) (q2 + (-7046029254386353131 : Int64))) * (-4658895280553007687 : Int64))) * (-7723592293110705685 : Int64))), .second] [])
  refine own_go (fun _ k => XS.lloadN X7.here hx rfl (hb hby d4_39) rfl k) ?_
  show own_Go _ _ _ _ T7 (mkF m 40 #[.val (.ref a1), .val (.long ((own_x (27 : Int32) ((own_x (30 : Int32) (q2 + (-7046029254386353131 : Int64))) * (-4658895280553007687 : Int64))) * (-7723592293110705685 : Int64))), .second] [(.long ((own_x (27 : Int32) ((own_x (30 : Int32) (q2 + (-7046029254386353131 : Int64))) * (-4658895280553007687 : Int64))) * (-7723592293110705685 : Int64)))])
  refine own_go (fun _ k => XS.lloadN X7.here hx rfl (hb hby d4_40) rfl k) ?_
  show own_Go _ _ _ _ T7 (mkF m 41 #[.val (.ref a1), .val (.long ((own_x (27 : Int32) ((own_x (30 : Int32) (q2 + (-7046029254386353131 : Int64))) * (-4658895280553007687 : Int64))) * (-7723592293110705685 : Int64))), .second] [(.long ((own_x (27 : Int32) ((own_x (30 : Int32) (q2 + (-7046029254386353131 : Int64))) * (-4658895280553007687 : Int64))) * (-7723592293110705685 : Int64))), (.long ((own_x (27 : Int32) ((own_x (30 : Int32) (q2 + (-7046029254386353131 : Int64))) * (-4658895280553007687 : Int64))) * (-7723592293110705685 : Int64)))])
  refine own_go (fun _ k => XS.bipush X7.here hx rfl (hb hby d4_41) k) ?_
  show own_Go _ _ _ _ T7 (mkF m 43 #[.val (.ref a1), .val (.long ((own_x (27 : Int32) ((own_x (30 : Int32) (q2 + (-7046029254386353131 : Int64))) * (-4658895280553007687 : Int64))) * (-7723592293110705685 : Int64))), .second] [(.int (31 : Int32)), (.long ((own_x (27 : Int32) ((own_x (30 : Int32) (q2 + (-7046029254386353131 : Int64))) * (-4658895280553007687 : Int64))) * (-7723592293110705685 : Int64))), (.long ((own_x (27 : Int32) ((own_x (30 : Int32) (q2 + (-7046029254386353131 : Int64))) * (-4658895280553007687 : Int64))) * (-7723592293110705685 : Int64)))])
  refine own_go (fun _ k => XS.lushr X7.here hx rfl (hb hby d4_43) rfl k) ?_
  show own_Go _ _ _ _ T7 (mkF m 44 #[.val (.ref a1), .val (.long ((own_x (27 : Int32) ((own_x (30 : Int32) (q2 + (-7046029254386353131 : Int64))) * (-4658895280553007687 : Int64))) * (-7723592293110705685 : Int64))), .second] [(.long ((((own_x (27 : Int32) ((own_x (30 : Int32) (q2 + (-7046029254386353131 : Int64))) * (-4658895280553007687 : Int64))) * (-7723592293110705685 : Int64))).toUInt64 >>> ((31 : Int32) &&& 0x3f).toInt64.toUInt64).toInt64), (.long ((own_x (27 : Int32) ((own_x (30 : Int32) (q2 + (-7046029254386353131 : Int64))) * (-4658895280553007687 : Int64))) * (-7723592293110705685 : Int64)))])
  refine own_go (fun _ k => XS.lxor X7.here hx rfl (hb hby d4_44) rfl k) ?_
  show own_Go _ _ _ _ T7 (mkF m 45 #[.val (.ref a1), .val (.long ((own_x (27 : Int32) ((own_x (30 : Int32) (q2 + (-7046029254386353131 : Int64))) * (-4658895280553007687 : Int64))) * (-7723592293110705685 : Int64))), .second] [(.long (own_x (31 : Int32) ((own_x (27 : Int32) ((own_x (30 : Int32) (q2 + (-7046029254386353131 : Int64))) * (-4658895280553007687 : Int64))) * (-7723592293110705685 : Int64))))])
  have f8 := ((Keep.refl h0 [a1]).wr W6 (Or.inl (List.mem_of_getElem? (i := 0) rfl)))
  have f9 := (E_a1.wr W6)
  exact own_retJ X7 hx hret hlk (hb hby d4_45) (by decide) (by decide) (by first | exact ⟨rfl, N6, f8, f9, Fw6⟩ | (rw [e7]; exact ⟨rfl, N6, f8, f9, Fw6⟩))
set_option maxRecDepth 65536 in
set_option maxHeartbeats 40000000 in
theorem rm1 (l : Launch) (Z : State) (a0 : Array Value) (hw : ∀ d ∈ tables_1, d.before a0 Z = true) (ws : List Jvm.Cond) (q1 : Int64) (h0 : Heap) (n0 : Nat) (Z0 : n0 ≤ h0.size) :
    own_Met l (⟨"weirjoin/SplitMix64NextLongPinLaw", "inv", "(J)J"⟩ : MethodName) method_2_code 4 (some .long) ws ({ frames := 0, cells := 0, slots := 0, locals := 0 } : Room) Z #[(.long q1)] h0 (fun v h L => v = some (.long (own_inv q1)) ∧ Fr n0 L ∧ h0 = h) := by
  refine own_body (plainFor_of_name (by first | (simp [plainName, overriddenIn]; done) | decide +kernel)) ?_
  intro p e s m below meth c s₁ X0 hx hby hml hown hnm hret hlk hZ e0
  have N0 := Fr.nil n0
  refine own_cast (show entryFrame m #[(.long q1)] 4 = mkF m 0 #[.val (.long q1), .second, .unset, .unset] [] from by first | (simp [entryFrame, mkF, argsToLocals, Value.category]; done) | rfl) ?_
  show own_Go _ _ _ _ s₁ (mkF m 0 #[.val (.long q1), .second, .unset, .unset] [])
  refine own_go (fun _ k => XS.lloadN X0.here hx rfl (hb hby d1_0) rfl k) ?_
  show own_Go _ _ _ _ s₁ (mkF m 1 #[.val (.long q1), .second, .unset, .unset] [(.long q1)])
  refine own_go (fun _ k => XS.lstoreN X0.here hx rfl (hb hby d1_1) rfl (l' := #[.val (.long q1), .second, .val (.long q1), .second]) rfl k) ?_
  show own_Go _ _ _ _ s₁ (mkF m 2 #[.val (.long q1), .second, .val (.long q1), .second] [])
  refine own_go (fun _ k => XS.lloadN X0.here hx rfl (hb hby d1_2) rfl k) ?_
  show own_Go _ _ _ _ s₁ (mkF m 3 #[.val (.long q1), .second, .val (.long q1), .second] [(.long q1)])
  refine own_go (X0.ldc2Long hx hown (mvT hZ (hw _ (List.mem_of_getElem? (i := 5) rfl))) (g := (mkF m 3 #[.val (.long q1), .second, .val (.long q1), .second] [(.long q1)])) rfl (hb hby d1_3)) ?_
  show own_Go _ _ _ _ s₁ (mkF m 6 #[.val (.long q1), .second, .val (.long q1), .second] [(.long (2 : Int64)), (.long q1)])
  refine own_go (fun _ k => XS.lloadN X0.here hx rfl (hb hby d1_6) rfl k) ?_
  show own_Go _ _ _ _ s₁ (mkF m 7 #[.val (.long q1), .second, .val (.long q1), .second] [(.long q1), (.long (2 : Int64)), (.long q1)])
  refine own_go (fun _ k => XS.lloadN X0.here hx rfl (hb hby d1_7) rfl k) ?_
  show own_Go _ _ _ _ s₁ (mkF m 8 #[.val (.long q1), .second, .val (.long q1), .second] [(.long q1), (.long q1), (.long (2 : Int64)), (.long q1)])
  refine own_go (fun _ k => XS.lmul X0.here hx rfl (hb hby d1_8) rfl k) ?_
  show own_Go _ _ _ _ s₁ (mkF m 9 #[.val (.long q1), .second, .val (.long q1), .second] [(.long (q1 * q1)), (.long (2 : Int64)), (.long q1)])
  refine own_go (fun _ k => XS.lsub X0.here hx rfl (hb hby d1_9) rfl k) ?_
  show own_Go _ _ _ _ s₁ (mkF m 10 #[.val (.long q1), .second, .val (.long q1), .second] [(.long ((2 : Int64) - (q1 * q1))), (.long q1)])
  refine own_go (fun _ k => XS.lmul X0.here hx rfl (hb hby d1_10) rfl k) ?_
  show own_Go _ _ _ _ s₁ (mkF m 11 #[.val (.long q1), .second, .val (.long q1), .second] [(.long (own_nw q1 q1))])
  refine own_go (fun _ k => XS.lstoreN X0.here hx rfl (hb hby d1_11) rfl (l' := #[.val (.long q1), .second, .val (.long (own_nw q1 q1)), .second]) rfl k) ?_
  show own_Go _ _ _ _ s₁ (mkF m 12 #[.val (.long q1), .second, .val (.long (own_nw q1 q1)), .second] [])
  refine own_go (fun _ k => XS.lloadN X0.here hx rfl (hb hby d1_12) rfl k) ?_
  show own_Go _ _ _ _ s₁ (mkF m 13 #[.val (.long q1), .second, .val (.long (own_nw q1 q1)), .second] [(.long (own_nw q1 q1))])
  refine own_go (X0.ldc2Long hx hown (mvT hZ (hw _ (List.mem_of_getElem? (i := 5) rfl))) (g := (mkF m 13 #[.val (.long q1), .second, .val (.long (own_nw q1 q1)), .second] [(.long (own_nw q1 q1))])) rfl (hb hby d1_13)) ?_
  show own_Go _ _ _ _ s₁ (mkF m 16 #[.val (.long q1), .second, .val (.long (own_nw q1 q1)), .second] [(.long (2 : Int64)), (.long (own_nw q1 q1))])
  refine own_go (fun _ k => XS.lloadN X0.here hx rfl (hb hby d1_16) rfl k) ?_
  show own_Go _ _ _ _ s₁ (mkF m 17 #[.val (.long q1), .second, .val (.long (own_nw q1 q1)), .second] [(.long q1), (.long (2 : Int64)), (.long (own_nw q1 q1))])
  refine own_go (fun _ k => XS.lloadN X0.here hx rfl (hb hby d1_17) rfl k) ?_
  show own_Go _ _ _ _ s₁ (mkF m 18 #[.val (.long q1), .second, .val (.long (own_nw q1 q1)), .second] [(.long (own_nw q1 q1)), (.long q1), (.long (2 : Int64)), (.long (own_nw q1 q1))])
  refine own_go (fun _ k => XS.lmul X0.here hx rfl (hb hby d1_18) rfl k) ?_
  show own_Go _ _ _ _ s₁ (mkF m 19 #[.val (.long q1), .second, .val (.long (own_nw q1 q1)), .second] [(.long (q1 * (own_nw q1 q1))), (.long (2 : Int64)), (.long (own_nw q1 q1))])
  refine own_go (fun _ k => XS.lsub X0.here hx rfl (hb hby d1_19) rfl k) ?_
  show own_Go _ _ _ _ s₁ (mkF m 20 #[.val (.long q1), .second, .val (.long (own_nw q1 q1)), .second] [(.long ((2 : Int64) - (q1 * (own_nw q1 q1)))), (.long (own_nw q1 q1))])
  refine own_go (fun _ k => XS.lmul X0.here hx rfl (hb hby d1_20) rfl k) ?_
  show own_Go _ _ _ _ s₁ (mkF m 21 #[.val (.long q1), .second, .val (.long (own_nw q1 q1)), .second] [(.long (own_nw q1 (own_nw q1 q1)))])
  refine own_go (fun _ k => XS.lstoreN X0.here hx rfl (hb hby d1_21) rfl (l' := #[.val (.long q1), .second, .val (.long (own_nw q1 (own_nw q1 q1))), .second]) rfl k) ?_
  show own_Go _ _ _ _ s₁ (mkF m 22 #[.val (.long q1), .second, .val (.long (own_nw q1 (own_nw q1 q1))), .second] [])
  refine own_go (fun _ k => XS.lloadN X0.here hx rfl (hb hby d1_22) rfl k) ?_
  show own_Go _ _ _ _ s₁ (mkF m 23 #[.val (.long q1), .second, .val (.long (own_nw q1 (own_nw q1 q1))), .second] [(.long (own_nw q1 (own_nw q1 q1)))])
  refine own_go (X0.ldc2Long hx hown (mvT hZ (hw _ (List.mem_of_getElem? (i := 5) rfl))) (g := (mkF m 23 #[.val (.long q1), .second, .val (.long (own_nw q1 (own_nw q1 q1))), .second] [(.long (own_nw q1 (own_nw q1 q1)))])) rfl (hb hby d1_23)) ?_
  show own_Go _ _ _ _ s₁ (mkF m 26 #[.val (.long q1), .second, .val (.long (own_nw q1 (own_nw q1 q1))), .second] [(.long (2 : Int64)), (.long (own_nw q1 (own_nw q1 q1)))])
  refine own_go (fun _ k => XS.lloadN X0.here hx rfl (hb hby d1_26) rfl k) ?_
  show own_Go _ _ _ _ s₁ (mkF m 27 #[.val (.long q1), .second, .val (.long (own_nw q1 (own_nw q1 q1))), .second] [(.long q1), (.long (2 : Int64)), (.long (own_nw q1 (own_nw q1 q1)))])
  refine own_go (fun _ k => XS.lloadN X0.here hx rfl (hb hby d1_27) rfl k) ?_
  show own_Go _ _ _ _ s₁ (mkF m 28 #[.val (.long q1), .second, .val (.long (own_nw q1 (own_nw q1 q1))), .second] [(.long (own_nw q1 (own_nw q1 q1))), (.long q1), (.long (2 : Int64)), (.long (own_nw q1 (own_nw q1 q1)))])
  refine own_go (fun _ k => XS.lmul X0.here hx rfl (hb hby d1_28) rfl k) ?_
  show own_Go _ _ _ _ s₁ (mkF m 29 #[.val (.long q1), .second, .val (.long (own_nw q1 (own_nw q1 q1))), .second] [(.long (q1 * (own_nw q1 (own_nw q1 q1)))), (.long (2 : Int64)), (.long (own_nw q1 (own_nw q1 q1)))])
  refine own_go (fun _ k => XS.lsub X0.here hx rfl (hb hby d1_29) rfl k) ?_
  show own_Go _ _ _ _ s₁ (mkF m 30 #[.val (.long q1), .second, .val (.long (own_nw q1 (own_nw q1 q1))), .second] [(.long ((2 : Int64) - (q1 * (own_nw q1 (own_nw q1 q1))))), (.long (own_nw q1 (own_nw q1 q1)))])
  refine own_go (fun _ k => XS.lmul X0.here hx rfl (hb hby d1_30) rfl k) ?_
  show own_Go _ _ _ _ s₁ (mkF m 31 #[.val (.long q1), .second, .val (.long (own_nw q1 (own_nw q1 q1))), .second] [(.long (own_nw q1 (own_nw q1 (own_nw q1 q1))))])
  refine own_go (fun _ k => XS.lstoreN X0.here hx rfl (hb hby d1_31) rfl (l' := #[.val (.long q1), .second, .val (.long (own_nw q1 (own_nw q1 (own_nw q1 q1)))), .second]) rfl k) ?_
  show own_Go _ _ _ _ s₁ (mkF m 32 #[.val (.long q1), .second, .val (.long (own_nw q1 (own_nw q1 (own_nw q1 q1)))), .second] [])
  refine own_go (fun _ k => XS.lloadN X0.here hx rfl (hb hby d1_32) rfl k) ?_
  show own_Go _ _ _ _ s₁ (mkF m 33 #[.val (.long q1), .second, .val (.long (own_nw q1 (own_nw q1 (own_nw q1 q1)))), .second] [(.long (own_nw q1 (own_nw q1 (own_nw q1 q1))))])
  refine own_go (X0.ldc2Long hx hown (mvT hZ (hw _ (List.mem_of_getElem? (i := 5) rfl))) (g := (mkF m 33 #[.val (.long q1), .second, .val (.long (own_nw q1 (own_nw q1 (own_nw q1 q1)))), .second] [(.long (own_nw q1 (own_nw q1 (own_nw q1 q1))))])) rfl (hb hby d1_33)) ?_
  show own_Go _ _ _ _ s₁ (mkF m 36 #[.val (.long q1), .second, .val (.long (own_nw q1 (own_nw q1 (own_nw q1 q1)))), .second] [(.long (2 : Int64)), (.long (own_nw q1 (own_nw q1 (own_nw q1 q1))))])
  refine own_go (fun _ k => XS.lloadN X0.here hx rfl (hb hby d1_36) rfl k) ?_
  show own_Go _ _ _ _ s₁ (mkF m 37 #[.val (.long q1), .second, .val (.long (own_nw q1 (own_nw q1 (own_nw q1 q1)))), .second] [(.long q1), (.long (2 : Int64)), (.long (own_nw q1 (own_nw q1 (own_nw q1 q1))))])
  refine own_go (fun _ k => XS.lloadN X0.here hx rfl (hb hby d1_37) rfl k) ?_
  show own_Go _ _ _ _ s₁ (mkF m 38 #[.val (.long q1), .second, .val (.long (own_nw q1 (own_nw q1 (own_nw q1 q1)))), .second] [(.long (own_nw q1 (own_nw q1 (own_nw q1 q1)))), (.long q1), (.long (2 : Int64)), (.long (own_nw q1 (own_nw q1 (own_nw q1 q1))))])
  refine own_go (fun _ k => XS.lmul X0.here hx rfl (hb hby d1_38) rfl k) ?_
  show own_Go _ _ _ _ s₁ (mkF m 39 #[.val (.long q1), .second, .val (.long (own_nw q1 (own_nw q1 (own_nw q1 q1)))), .second] [(.long (q1 * (own_nw q1 (own_nw q1 (own_nw q1 q1))))), (.long (2 : Int64)), (.long (own_nw q1 (own_nw q1 (own_nw q1 q1))))])
  refine own_go (fun _ k => XS.lsub X0.here hx rfl (hb hby d1_39) rfl k) ?_
  show own_Go _ _ _ _ s₁ (mkF m 40 #[.val (.long q1), .second, .val (.long (own_nw q1 (own_nw q1 (own_nw q1 q1)))), .second] [(.long ((2 : Int64) - (q1 * (own_nw q1 (own_nw q1 (own_nw q1 q1)))))), (.long (own_nw q1 (own_nw q1 (own_nw q1 q1))))])
  refine own_go (fun _ k => XS.lmul X0.here hx rfl (hb hby d1_40) rfl k) ?_
  show own_Go _ _ _ _ s₁ (mkF m 41 #[.val (.long q1), .second, .val (.long (own_nw q1 (own_nw q1 (own_nw q1 q1)))), .second] [(.long (own_nw q1 (own_nw q1 (own_nw q1 (own_nw q1 q1)))))])
  refine own_go (fun _ k => XS.lstoreN X0.here hx rfl (hb hby d1_41) rfl (l' := #[.val (.long q1), .second, .val (.long (own_nw q1 (own_nw q1 (own_nw q1 (own_nw q1 q1))))), .second]) rfl k) ?_
  show own_Go _ _ _ _ s₁ (mkF m 42 #[.val (.long q1), .second, .val (.long (own_nw q1 (own_nw q1 (own_nw q1 (own_nw q1 q1))))), .second] [])
  refine own_go (fun _ k => XS.lloadN X0.here hx rfl (hb hby d1_42) rfl k) ?_
  show own_Go _ _ _ _ s₁ (mkF m 43 #[.val (.long q1), .second, .val (.long (own_nw q1 (own_nw q1 (own_nw q1 (own_nw q1 q1))))), .second] [(.long (own_nw q1 (own_nw q1 (own_nw q1 (own_nw q1 q1)))))])
  refine own_go (X0.ldc2Long hx hown (mvT hZ (hw _ (List.mem_of_getElem? (i := 5) rfl))) (g := (mkF m 43 #[.val (.long q1), .second, .val (.long (own_nw q1 (own_nw q1 (own_nw q1 (own_nw q1 q1))))), .second] [(.long (own_nw q1 (own_nw q1 (own_nw q1 (own_nw q1 q1)))))])) rfl (hb hby d1_43)) ?_
  show own_Go _ _ _ _ s₁ (mkF m 46 #[.val (.long q1), .second, .val (.long (own_nw q1 (own_nw q1 (own_nw q1 (own_nw q1 q1))))), .second] [(.long (2 : Int64)), (.long (own_nw q1 (own_nw q1 (own_nw q1 (own_nw q1 q1)))))])
  refine own_go (fun _ k => XS.lloadN X0.here hx rfl (hb hby d1_46) rfl k) ?_
  show own_Go _ _ _ _ s₁ (mkF m 47 #[.val (.long q1), .second, .val (.long (own_nw q1 (own_nw q1 (own_nw q1 (own_nw q1 q1))))), .second] [(.long q1), (.long (2 : Int64)), (.long (own_nw q1 (own_nw q1 (own_nw q1 (own_nw q1 q1)))))])
  refine own_go (fun _ k => XS.lloadN X0.here hx rfl (hb hby d1_47) rfl k) ?_
  show own_Go _ _ _ _ s₁ (mkF m 48 #[.val (.long q1), .second, .val (.long (own_nw q1 (own_nw q1 (own_nw q1 (own_nw q1 q1))))), .second] [(.long (own_nw q1 (own_nw q1 (own_nw q1 (own_nw q1 q1))))), (.long q1), (.long (2 : Int64)), (.long (own_nw q1 (own_nw q1 (own_nw q1 (own_nw q1 q1)))))])
  refine own_go (fun _ k => XS.lmul X0.here hx rfl (hb hby d1_48) rfl k) ?_
  show own_Go _ _ _ _ s₁ (mkF m 49 #[.val (.long q1), .second, .val (.long (own_nw q1 (own_nw q1 (own_nw q1 (own_nw q1 q1))))), .second] [(.long (q1 * (own_nw q1 (own_nw q1 (own_nw q1 (own_nw q1 q1)))))), (.long (2 : Int64)), (.long (own_nw q1 (own_nw q1 (own_nw q1 (own_nw q1 q1)))))])
  refine own_go (fun _ k => XS.lsub X0.here hx rfl (hb hby d1_49) rfl k) ?_
  show own_Go _ _ _ _ s₁ (mkF m 50 #[.val (.long q1), .second, .val (.long (own_nw q1 (own_nw q1 (own_nw q1 (own_nw q1 q1))))), .second] [(.long ((2 : Int64) - (q1 * (own_nw q1 (own_nw q1 (own_nw q1 (own_nw q1 q1))))))), (.long (own_nw q1 (own_nw q1 (own_nw q1 (own_nw q1 q1)))))])
  refine own_go (fun _ k => XS.lmul X0.here hx rfl (hb hby d1_50) rfl k) ?_
  show own_Go _ _ _ _ s₁ (mkF m 51 #[.val (.long q1), .second, .val (.long (own_nw q1 (own_nw q1 (own_nw q1 (own_nw q1 q1))))), .second] [(.long (own_nw q1 (own_nw q1 (own_nw q1 (own_nw q1 (own_nw q1 q1))))))])
  refine own_go (fun _ k => XS.lstoreN X0.here hx rfl (hb hby d1_51) rfl (l' := #[.val (.long q1), .second, .val (.long (own_nw q1 (own_nw q1 (own_nw q1 (own_nw q1 (own_nw q1 q1)))))), .second]) rfl k) ?_
  show own_Go _ _ _ _ s₁ (mkF m 52 #[.val (.long q1), .second, .val (.long (own_nw q1 (own_nw q1 (own_nw q1 (own_nw q1 (own_nw q1 q1)))))), .second] [])
  refine own_go (fun _ k => XS.lloadN X0.here hx rfl (hb hby d1_52) rfl k) ?_
  show own_Go _ _ _ _ s₁ (mkF m 53 #[.val (.long q1), .second, .val (.long (own_nw q1 (own_nw q1 (own_nw q1 (own_nw q1 (own_nw q1 q1)))))), .second] [(.long (own_nw q1 (own_nw q1 (own_nw q1 (own_nw q1 (own_nw q1 q1))))))])
  exact own_retJ X0 hx hret hlk (hb hby d1_53) (by decide) (by decide) (by first | exact ⟨rfl, N0, rfl⟩ | (rw [e0]; exact ⟨rfl, N0, rfl⟩))
set_option maxRecDepth 65536 in
set_option maxHeartbeats 40000000 in
theorem rm5 (l : Launch) (Z : State) (a0 : Array Value) (hw : ∀ d ∈ tables_1, d.before a0 Z = true) (ws : List Jvm.Cond) (q1 q2 q3 : Int64) (h0 : Heap) (n0 : Nat) (Z0 : n0 ≤ h0.size) :
    own_Met l (⟨"weirjoin/SplitMix64NextLongPinLaw", "unmix", "(JJJ)J"⟩ : MethodName) method_3_code 8 (some .long) ws ({ frames := 0, cells := 0, slots := 0, locals := 0 } : Room) Z #[(.long q1), (.long q2), (.long q3)] h0 (fun v h L => v = some (.long (own_unmix q1 q2 q3)) ∧ Fr n0 L ∧ h0 = h) := by
  refine own_body (plainFor_of_name (by first | (simp [plainName, overriddenIn]; done) | decide +kernel)) ?_
  intro p e s m below meth c s₁ X0 hx hby hml hown hnm hret hlk hZ e0
  have N0 := Fr.nil n0
  refine own_cast (show entryFrame m #[(.long q1), (.long q2), (.long q3)] 8 = mkF m 0 #[.val (.long q1), .second, .val (.long q2), .second, .val (.long q3), .second, .unset, .unset] [] from by first | (simp [entryFrame, mkF, argsToLocals, Value.category]; done) | rfl) ?_
  show own_Go _ _ _ _ s₁ (mkF m 0 #[.val (.long q1), .second, .val (.long q2), .second, .val (.long q3), .second, .unset, .unset] [])
  refine own_go (fun _ k => XS.lloadN X0.here hx rfl (hb hby d5_0) rfl k) ?_
  show own_Go _ _ _ _ s₁ (mkF m 1 #[.val (.long q1), .second, .val (.long q2), .second, .val (.long q3), .second, .unset, .unset] [(.long q1)])
  refine own_go (fun _ k => XS.lloadN X0.here hx rfl (hb hby d5_1) rfl k) ?_
  show own_Go _ _ _ _ s₁ (mkF m 2 #[.val (.long q1), .second, .val (.long q2), .second, .val (.long q3), .second, .unset, .unset] [(.long q1), (.long q1)])
  refine own_go (fun _ k => XS.bipush X0.here hx rfl (hb hby d5_2) k) ?_
  show own_Go _ _ _ _ s₁ (mkF m 4 #[.val (.long q1), .second, .val (.long q2), .second, .val (.long q3), .second, .unset, .unset] [(.int (31 : Int32)), (.long q1), (.long q1)])
  refine own_go (fun _ k => XS.lushr X0.here hx rfl (hb hby d5_4) rfl k) ?_
  show own_Go _ _ _ _ s₁ (mkF m 5 #[.val (.long q1), .second, .val (.long q2), .second, .val (.long q3), .second, .unset, .unset] [(.long ((q1).toUInt64 >>> ((31 : Int32) &&& 0x3f).toInt64.toUInt64).toInt64), (.long q1)])
  refine own_go (fun _ k => XS.lxor X0.here hx rfl (hb hby d5_5) rfl k) ?_
  show own_Go _ _ _ _ s₁ (mkF m 6 #[.val (.long q1), .second, .val (.long q2), .second, .val (.long q3), .second, .unset, .unset] [(.long (q1 ^^^ ((q1).toUInt64 >>> ((31 : Int32) &&& 0x3f).toInt64.toUInt64).toInt64))])
  refine own_go (fun _ k => XS.lloadN X0.here hx rfl (hb hby d5_6) rfl k) ?_
  show own_Go _ _ _ _ s₁ (mkF m 7 #[.val (.long q1), .second, .val (.long q2), .second, .val (.long q3), .second, .unset, .unset] [(.long q1), (.long (q1 ^^^ ((q1).toUInt64 >>> ((31 : Int32) &&& 0x3f).toInt64.toUInt64).toInt64))])
  refine own_go (fun _ k => XS.bipush X0.here hx rfl (hb hby d5_7) k) ?_
  show own_Go _ _ _ _ s₁ (mkF m 9 #[.val (.long q1), .second, .val (.long q2), .second, .val (.long q3), .second, .unset, .unset] [(.int (62 : Int32)), (.long q1), (.long (q1 ^^^ ((q1).toUInt64 >>> ((31 : Int32) &&& 0x3f).toInt64.toUInt64).toInt64))])
  refine own_go (fun _ k => XS.lushr X0.here hx rfl (hb hby d5_9) rfl k) ?_
  show own_Go _ _ _ _ s₁ (mkF m 10 #[.val (.long q1), .second, .val (.long q2), .second, .val (.long q3), .second, .unset, .unset] [(.long ((q1).toUInt64 >>> ((62 : Int32) &&& 0x3f).toInt64.toUInt64).toInt64), (.long (q1 ^^^ ((q1).toUInt64 >>> ((31 : Int32) &&& 0x3f).toInt64.toUInt64).toInt64))])
  refine own_go (fun _ k => XS.lxor X0.here hx rfl (hb hby d5_10) rfl k) ?_
  show own_Go _ _ _ _ s₁ (mkF m 11 #[.val (.long q1), .second, .val (.long q2), .second, .val (.long q3), .second, .unset, .unset] [(.long (own_u (31 : Int32) (62 : Int32) q1))])
  refine own_go (fun _ k => XS.lstore X0.here hx rfl (hb hby d5_11) rfl (l' := #[.val (.long q1), .second, .val (.long q2), .second, .val (.long q3), .second, .val (.long (own_u (31 : Int32) (62 : Int32) q1)), .second]) rfl k) ?_
  show own_Go _ _ _ _ s₁ (mkF m 13 #[.val (.long q1), .second, .val (.long q2), .second, .val (.long q3), .second, .val (.long (own_u (31 : Int32) (62 : Int32) q1)), .second] [])
  refine own_go (fun _ k => XS.lload X0.here hx rfl (hb hby d5_13) rfl k) ?_
  show own_Go _ _ _ _ s₁ (mkF m 15 #[.val (.long q1), .second, .val (.long q2), .second, .val (.long q3), .second, .val (.long (own_u (31 : Int32) (62 : Int32) q1)), .second] [(.long (own_u (31 : Int32) (62 : Int32) q1))])
  refine own_go (fun _ k => XS.lload X0.here hx rfl (hb hby d5_15) rfl k) ?_
  show own_Go _ _ _ _ s₁ (mkF m 17 #[.val (.long q1), .second, .val (.long q2), .second, .val (.long q3), .second, .val (.long (own_u (31 : Int32) (62 : Int32) q1)), .second] [(.long q3), (.long (own_u (31 : Int32) (62 : Int32) q1))])
  refine own_go (fun _ k => XS.lmul X0.here hx rfl (hb hby d5_17) rfl k) ?_
  show own_Go _ _ _ _ s₁ (mkF m 18 #[.val (.long q1), .second, .val (.long q2), .second, .val (.long q3), .second, .val (.long (own_u (31 : Int32) (62 : Int32) q1)), .second] [(.long ((own_u (31 : Int32) (62 : Int32) q1) * q3))])
  refine own_go (fun _ k => XS.lstore X0.here hx rfl (hb hby d5_18) rfl (l' := #[.val (.long q1), .second, .val (.long q2), .second, .val (.long q3), .second, .val (.long ((own_u (31 : Int32) (62 : Int32) q1) * q3)), .second]) rfl k) ?_
  show own_Go _ _ _ _ s₁ (mkF m 20 #[.val (.long q1), .second, .val (.long q2), .second, .val (.long q3), .second, .val (.long ((own_u (31 : Int32) (62 : Int32) q1) * q3)), .second] [])
  refine own_go (fun _ k => XS.lload X0.here hx rfl (hb hby d5_20) rfl k) ?_
  show own_Go _ _ _ _ s₁ (mkF m 22 #[.val (.long q1), .second, .val (.long q2), .second, .val (.long q3), .second, .val (.long ((own_u (31 : Int32) (62 : Int32) q1) * q3)), .second] [(.long ((own_u (31 : Int32) (62 : Int32) q1) * q3))])
  refine own_go (fun _ k => XS.lload X0.here hx rfl (hb hby d5_22) rfl k) ?_
  show own_Go _ _ _ _ s₁ (mkF m 24 #[.val (.long q1), .second, .val (.long q2), .second, .val (.long q3), .second, .val (.long ((own_u (31 : Int32) (62 : Int32) q1) * q3)), .second] [(.long ((own_u (31 : Int32) (62 : Int32) q1) * q3)), (.long ((own_u (31 : Int32) (62 : Int32) q1) * q3))])
  refine own_go (fun _ k => XS.bipush X0.here hx rfl (hb hby d5_24) k) ?_
  show own_Go _ _ _ _ s₁ (mkF m 26 #[.val (.long q1), .second, .val (.long q2), .second, .val (.long q3), .second, .val (.long ((own_u (31 : Int32) (62 : Int32) q1) * q3)), .second] [(.int (27 : Int32)), (.long ((own_u (31 : Int32) (62 : Int32) q1) * q3)), (.long ((own_u (31 : Int32) (62 : Int32) q1) * q3))])
  refine own_go (fun _ k => XS.lushr X0.here hx rfl (hb hby d5_26) rfl k) ?_
  show own_Go _ _ _ _ s₁ (mkF m 27 #[.val (.long q1), .second, .val (.long q2), .second, .val (.long q3), .second, .val (.long ((own_u (31 : Int32) (62 : Int32) q1) * q3)), .second] [(.long ((((own_u (31 : Int32) (62 : Int32) q1) * q3)).toUInt64 >>> ((27 : Int32) &&& 0x3f).toInt64.toUInt64).toInt64), (.long ((own_u (31 : Int32) (62 : Int32) q1) * q3))])
  refine own_go (fun _ k => XS.lxor X0.here hx rfl (hb hby d5_27) rfl k) ?_
  show own_Go _ _ _ _ s₁ (mkF m 28 #[.val (.long q1), .second, .val (.long q2), .second, .val (.long q3), .second, .val (.long ((own_u (31 : Int32) (62 : Int32) q1) * q3)), .second] [(.long (((own_u (31 : Int32) (62 : Int32) q1) * q3) ^^^ ((((own_u (31 : Int32) (62 : Int32) q1) * q3)).toUInt64 >>> ((27 : Int32) &&& 0x3f).toInt64.toUInt64).toInt64))])
  refine own_go (fun _ k => XS.lload X0.here hx rfl (hb hby d5_28) rfl k) ?_
  show own_Go _ _ _ _ s₁ (mkF m 30 #[.val (.long q1), .second, .val (.long q2), .second, .val (.long q3), .second, .val (.long ((own_u (31 : Int32) (62 : Int32) q1) * q3)), .second] [(.long ((own_u (31 : Int32) (62 : Int32) q1) * q3)), (.long (((own_u (31 : Int32) (62 : Int32) q1) * q3) ^^^ ((((own_u (31 : Int32) (62 : Int32) q1) * q3)).toUInt64 >>> ((27 : Int32) &&& 0x3f).toInt64.toUInt64).toInt64))])
  refine own_go (fun _ k => XS.bipush X0.here hx rfl (hb hby d5_30) k) ?_
  show own_Go _ _ _ _ s₁ (mkF m 32 #[.val (.long q1), .second, .val (.long q2), .second, .val (.long q3), .second, .val (.long ((own_u (31 : Int32) (62 : Int32) q1) * q3)), .second] [(.int (54 : Int32)), (.long ((own_u (31 : Int32) (62 : Int32) q1) * q3)), (.long (((own_u (31 : Int32) (62 : Int32) q1) * q3) ^^^ ((((own_u (31 : Int32) (62 : Int32) q1) * q3)).toUInt64 >>> ((27 : Int32) &&& 0x3f).toInt64.toUInt64).toInt64))])
  refine own_go (fun _ k => XS.lushr X0.here hx rfl (hb hby d5_32) rfl k) ?_
  show own_Go _ _ _ _ s₁ (mkF m 33 #[.val (.long q1), .second, .val (.long q2), .second, .val (.long q3), .second, .val (.long ((own_u (31 : Int32) (62 : Int32) q1) * q3)), .second] [(.long ((((own_u (31 : Int32) (62 : Int32) q1) * q3)).toUInt64 >>> ((54 : Int32) &&& 0x3f).toInt64.toUInt64).toInt64), (.long (((own_u (31 : Int32) (62 : Int32) q1) * q3) ^^^ ((((own_u (31 : Int32) (62 : Int32) q1) * q3)).toUInt64 >>> ((27 : Int32) &&& 0x3f).toInt64.toUInt64).toInt64))])
  refine own_go (fun _ k => XS.lxor X0.here hx rfl (hb hby d5_33) rfl k) ?_
  show own_Go _ _ _ _ s₁ (mkF m 34 #[.val (.long q1), .second, .val (.long q2), .second, .val (.long q3), .second, .val (.long ((own_u (31 : Int32) (62 : Int32) q1) * q3)), .second] [(.long (own_u (27 : Int32) (54 : Int32) ((own_u (31 : Int32) (62 : Int32) q1) * q3)))])
  refine own_go (fun _ k => XS.lstore X0.here hx rfl (hb hby d5_34) rfl (l' := #[.val (.long q1), .second, .val (.long q2), .second, .val (.long q3), .second, .val (.long (own_u (27 : Int32) (54 : Int32) ((own_u (31 : Int32) (62 : Int32) q1) * q3))), .second]) rfl k) ?_
  show own_Go _ _ _ _ s₁ (mkF m 36 #[.val (.long q1), .second, .val (.long q2), .second, .val (.long q3), .second, .val (.long (own_u (27 : Int32) (54 : Int32) ((own_u (31 : Int32) (62 : Int32) q1) * q3))), .second] [])
  refine own_go (fun _ k => XS.lload X0.here hx rfl (hb hby d5_36) rfl k) ?_
  show own_Go _ _ _ _ s₁ (mkF m 38 #[.val (.long q1), .second, .val (.long q2), .second, .val (.long q3), .second, .val (.long (own_u (27 : Int32) (54 : Int32) ((own_u (31 : Int32) (62 : Int32) q1) * q3))), .second] [(.long (own_u (27 : Int32) (54 : Int32) ((own_u (31 : Int32) (62 : Int32) q1) * q3)))])
  refine own_go (fun _ k => XS.lloadN X0.here hx rfl (hb hby d5_38) rfl k) ?_
  show own_Go _ _ _ _ s₁ (mkF m 39 #[.val (.long q1), .second, .val (.long q2), .second, .val (.long q3), .second, .val (.long (own_u (27 : Int32) (54 : Int32) ((own_u (31 : Int32) (62 : Int32) q1) * q3))), .second] [(.long q2), (.long (own_u (27 : Int32) (54 : Int32) ((own_u (31 : Int32) (62 : Int32) q1) * q3)))])
  refine own_go (fun _ k => XS.lmul X0.here hx rfl (hb hby d5_39) rfl k) ?_
  show own_Go _ _ _ _ s₁ (mkF m 40 #[.val (.long q1), .second, .val (.long q2), .second, .val (.long q3), .second, .val (.long (own_u (27 : Int32) (54 : Int32) ((own_u (31 : Int32) (62 : Int32) q1) * q3))), .second] [(.long ((own_u (27 : Int32) (54 : Int32) ((own_u (31 : Int32) (62 : Int32) q1) * q3)) * q2))])
  refine own_go (fun _ k => XS.lstore X0.here hx rfl (hb hby d5_40) rfl (l' := #[.val (.long q1), .second, .val (.long q2), .second, .val (.long q3), .second, .val (.long ((own_u (27 : Int32) (54 : Int32) ((own_u (31 : Int32) (62 : Int32) q1) * q3)) * q2)), .second]) rfl k) ?_
  show own_Go _ _ _ _ s₁ (mkF m 42 #[.val (.long q1), .second, .val (.long q2), .second, .val (.long q3), .second, .val (.long ((own_u (27 : Int32) (54 : Int32) ((own_u (31 : Int32) (62 : Int32) q1) * q3)) * q2)), .second] [])
  refine own_go (fun _ k => XS.lload X0.here hx rfl (hb hby d5_42) rfl k) ?_
  show own_Go _ _ _ _ s₁ (mkF m 44 #[.val (.long q1), .second, .val (.long q2), .second, .val (.long q3), .second, .val (.long ((own_u (27 : Int32) (54 : Int32) ((own_u (31 : Int32) (62 : Int32) q1) * q3)) * q2)), .second] [(.long ((own_u (27 : Int32) (54 : Int32) ((own_u (31 : Int32) (62 : Int32) q1) * q3)) * q2))])
  refine own_go (fun _ k => XS.lload X0.here hx rfl (hb hby d5_44) rfl k) ?_
  show own_Go _ _ _ _ s₁ (mkF m 46 #[.val (.long q1), .second, .val (.long q2), .second, .val (.long q3), .second, .val (.long ((own_u (27 : Int32) (54 : Int32) ((own_u (31 : Int32) (62 : Int32) q1) * q3)) * q2)), .second] [(.long ((own_u (27 : Int32) (54 : Int32) ((own_u (31 : Int32) (62 : Int32) q1) * q3)) * q2)), (.long ((own_u (27 : Int32) (54 : Int32) ((own_u (31 : Int32) (62 : Int32) q1) * q3)) * q2))])
  refine own_go (fun _ k => XS.bipush X0.here hx rfl (hb hby d5_46) k) ?_
  show own_Go _ _ _ _ s₁ (mkF m 48 #[.val (.long q1), .second, .val (.long q2), .second, .val (.long q3), .second, .val (.long ((own_u (27 : Int32) (54 : Int32) ((own_u (31 : Int32) (62 : Int32) q1) * q3)) * q2)), .second] [(.int (30 : Int32)), (.long ((own_u (27 : Int32) (54 : Int32) ((own_u (31 : Int32) (62 : Int32) q1) * q3)) * q2)), (.long ((own_u (27 : Int32) (54 : Int32) ((own_u (31 : Int32) (62 : Int32) q1) * q3)) * q2))])
  refine own_go (fun _ k => XS.lushr X0.here hx rfl (hb hby d5_48) rfl k) ?_
  show own_Go _ _ _ _ s₁ (mkF m 49 #[.val (.long q1), .second, .val (.long q2), .second, .val (.long q3), .second, .val (.long ((own_u (27 : Int32) (54 : Int32) ((own_u (31 : Int32) (62 : Int32) q1) * q3)) * q2)), .second] [(.long ((((own_u (27 : Int32) (54 : Int32) ((own_u (31 : Int32) (62 : Int32) q1) * q3)) * q2)).toUInt64 >>> ((30 : Int32) &&& 0x3f).toInt64.toUInt64).toInt64), (.long ((own_u (27 : Int32) (54 : Int32) ((own_u (31 : Int32) (62 : Int32) q1) * q3)) * q2))])
  refine own_go (fun _ k => XS.lxor X0.here hx rfl (hb hby d5_49) rfl k) ?_
  show own_Go _ _ _ _ s₁ (mkF m 50 #[.val (.long q1), .second, .val (.long q2), .second, .val (.long q3), .second, .val (.long ((own_u (27 : Int32) (54 : Int32) ((own_u (31 : Int32) (62 : Int32) q1) * q3)) * q2)), .second] [(.long (((own_u (27 : Int32) (54 : Int32) ((own_u (31 : Int32) (62 : Int32) q1) * q3)) * q2) ^^^ ((((own_u (27 : Int32) (54 : Int32) ((own_u (31 : Int32) (62 : Int32) q1) * q3)) * q2)).toUInt64 >>> ((30 : Int32) &&& 0x3f).toInt64.toUInt64).toInt64))])
  refine own_go (fun _ k => XS.lload X0.here hx rfl (hb hby d5_50) rfl k) ?_
  show own_Go _ _ _ _ s₁ (mkF m 52 #[.val (.long q1), .second, .val (.long q2), .second, .val (.long q3), .second, .val (.long ((own_u (27 : Int32) (54 : Int32) ((own_u (31 : Int32) (62 : Int32) q1) * q3)) * q2)), .second] [(.long ((own_u (27 : Int32) (54 : Int32) ((own_u (31 : Int32) (62 : Int32) q1) * q3)) * q2)), (.long (((own_u (27 : Int32) (54 : Int32) ((own_u (31 : Int32) (62 : Int32) q1) * q3)) * q2) ^^^ ((((own_u (27 : Int32) (54 : Int32) ((own_u (31 : Int32) (62 : Int32) q1) * q3)) * q2)).toUInt64 >>> ((30 : Int32) &&& 0x3f).toInt64.toUInt64).toInt64))])
  refine own_go (fun _ k => XS.bipush X0.here hx rfl (hb hby d5_52) k) ?_
  show own_Go _ _ _ _ s₁ (mkF m 54 #[.val (.long q1), .second, .val (.long q2), .second, .val (.long q3), .second, .val (.long ((own_u (27 : Int32) (54 : Int32) ((own_u (31 : Int32) (62 : Int32) q1) * q3)) * q2)), .second] [(.int (60 : Int32)), (.long ((own_u (27 : Int32) (54 : Int32) ((own_u (31 : Int32) (62 : Int32) q1) * q3)) * q2)), (.long (((own_u (27 : Int32) (54 : Int32) ((own_u (31 : Int32) (62 : Int32) q1) * q3)) * q2) ^^^ ((((own_u (27 : Int32) (54 : Int32) ((own_u (31 : Int32) (62 : Int32) q1) * q3)) * q2)).toUInt64 >>> ((30 : Int32) &&& 0x3f).toInt64.toUInt64).toInt64))])
  refine own_go (fun _ k => XS.lushr X0.here hx rfl (hb hby d5_54) rfl k) ?_
  show own_Go _ _ _ _ s₁ (mkF m 55 #[.val (.long q1), .second, .val (.long q2), .second, .val (.long q3), .second, .val (.long ((own_u (27 : Int32) (54 : Int32) ((own_u (31 : Int32) (62 : Int32) q1) * q3)) * q2)), .second] [(.long ((((own_u (27 : Int32) (54 : Int32) ((own_u (31 : Int32) (62 : Int32) q1) * q3)) * q2)).toUInt64 >>> ((60 : Int32) &&& 0x3f).toInt64.toUInt64).toInt64), (.long (((own_u (27 : Int32) (54 : Int32) ((own_u (31 : Int32) (62 : Int32) q1) * q3)) * q2) ^^^ ((((own_u (27 : Int32) (54 : Int32) ((own_u (31 : Int32) (62 : Int32) q1) * q3)) * q2)).toUInt64 >>> ((30 : Int32) &&& 0x3f).toInt64.toUInt64).toInt64))])
  refine own_go (fun _ k => XS.lxor X0.here hx rfl (hb hby d5_55) rfl k) ?_
  show own_Go _ _ _ _ s₁ (mkF m 56 #[.val (.long q1), .second, .val (.long q2), .second, .val (.long q3), .second, .val (.long ((own_u (27 : Int32) (54 : Int32) ((own_u (31 : Int32) (62 : Int32) q1) * q3)) * q2)), .second] [(.long (own_u (30 : Int32) (60 : Int32) ((own_u (27 : Int32) (54 : Int32) ((own_u (31 : Int32) (62 : Int32) q1) * q3)) * q2)))])
  refine own_go (fun _ k => XS.lstore X0.here hx rfl (hb hby d5_56) rfl (l' := #[.val (.long q1), .second, .val (.long q2), .second, .val (.long q3), .second, .val (.long (own_u (30 : Int32) (60 : Int32) ((own_u (27 : Int32) (54 : Int32) ((own_u (31 : Int32) (62 : Int32) q1) * q3)) * q2))), .second]) rfl k) ?_
  show own_Go _ _ _ _ s₁ (mkF m 58 #[.val (.long q1), .second, .val (.long q2), .second, .val (.long q3), .second, .val (.long (own_u (30 : Int32) (60 : Int32) ((own_u (27 : Int32) (54 : Int32) ((own_u (31 : Int32) (62 : Int32) q1) * q3)) * q2))), .second] [])
  refine own_go (fun _ k => XS.lload X0.here hx rfl (hb hby d5_58) rfl k) ?_
  show own_Go _ _ _ _ s₁ (mkF m 60 #[.val (.long q1), .second, .val (.long q2), .second, .val (.long q3), .second, .val (.long (own_u (30 : Int32) (60 : Int32) ((own_u (27 : Int32) (54 : Int32) ((own_u (31 : Int32) (62 : Int32) q1) * q3)) * q2))), .second] [(.long (own_u (30 : Int32) (60 : Int32) ((own_u (27 : Int32) (54 : Int32) ((own_u (31 : Int32) (62 : Int32) q1) * q3)) * q2)))])
  exact own_retJ X0 hx hret hlk (hb hby d5_60) (by decide) (by decide) (by first | exact ⟨rfl, N0, rfl⟩ | (rw [e0]; exact ⟨rfl, N0, rfl⟩))
set_option maxRecDepth 65536 in
set_option maxHeartbeats 40000000 in
theorem rm0 (l : Launch) (Z : State) (a0 : Array Value) (hw : ∀ d ∈ tables_1, d.before a0 Z = true) (ws : List Jvm.Cond) (q1 : Int64) (h0 : Heap) (n0 : Nat) (Z0 : n0 ≤ h0.size) :
    own_Met l x code maxLocals ret ws room_1 Z #[(.long q1)] h0 (fun v h L => v = some (.int 1) ∧ Fr n0 L) := by
  refine own_body (plainFor_of_name (by first | (simp [plainName, overriddenIn]; done) | decide +kernel)) ?_
  intro p e s m below meth c s₁ X0 hx hby hml hown hnm hret hlk hZ e0
  have N0 := Fr.nil n0
  refine own_cast (show entryFrame m #[(.long q1)] maxLocals = mkF m 0 #[.val (.long q1), .second, .unset, .unset, .unset, .unset, .unset, .unset, .unset, .unset, .unset] [] from by first | (simp [entryFrame, mkF, argsToLocals, Value.category, maxLocals]; done) | rfl) ?_
  show own_Go _ _ _ _ s₁ (mkF m 0 #[.val (.long q1), .second, .unset, .unset, .unset, .unset, .unset, .unset, .unset, .unset, .unset] [])
  refine own_go (X0.ldc2Long hx hown (mvT hZ (hw _ (List.mem_of_getElem? (i := 0) rfl))) (g := (mkF m 0 #[.val (.long q1), .second, .unset, .unset, .unset, .unset, .unset, .unset, .unset, .unset, .unset] [])) rfl (hb hby at_0)) ?_
  show own_Go _ _ _ _ s₁ (mkF m 3 #[.val (.long q1), .second, .unset, .unset, .unset, .unset, .unset, .unset, .unset, .unset, .unset] [(.long (-4658895280553007687 : Int64))])
  obtain ⟨v10, T10, h10, L10, X10, e10, hQ10, st10⟩ := own_callS X0 hx hZ hown (hw _ (List.mem_of_getElem? (i := 1) rfl)) (hw _ (List.mem_of_getElem? (i := 2) rfl)) (hw _ (List.mem_of_getElem? (i := 3) rfl)) (hw _ (List.mem_of_getElem? (i := 4) rfl)) (by decide) e0 (argsL := [(.long (-4658895280553007687 : Int64))]) (rest := []) (rm1 l Z a0 hw [] (-4658895280553007687 : Int64) h0 n0 Z0) 0 (by decide) (by decide) (by decide) (by decide) (g := (mkF m 3 #[.val (.long q1), .second, .unset, .unset, .unset, .unset, .unset, .unset, .unset, .unset, .unset] [(.long (-4658895280553007687 : Int64))])) rfl (by rw [hml]; rfl) (lenOf pd0 rfl) rfl (Nat.le_of_eq rfl) (hb hby at_3)
  obtain ⟨rfl, N10q, rfl⟩ := hQ10
  refine own_go (st10) ?_
  have N10 := Fr.app N0 N10q
  show own_Go _ _ _ _ T10 (mkF m 6 #[.val (.long q1), .second, .unset, .unset, .unset, .unset, .unset, .unset, .unset, .unset, .unset] [(.long (own_inv (-4658895280553007687 : Int64)))])
  rw [own_inv1]
  show own_Go _ _ _ _ T10 (mkF m 6 #[.val (.long q1), .second, .unset, .unset, .unset, .unset, .unset, .unset, .unset, .unset, .unset] [(.long (-7575587736534282103 : Int64))])
  refine own_go (fun _ k => XS.lstoreN X10.here hx rfl (hb hby at_6) rfl (l' := #[.val (.long q1), .second, .val (.long (-7575587736534282103 : Int64)), .second, .unset, .unset, .unset, .unset, .unset, .unset, .unset]) rfl k) ?_
  show own_Go _ _ _ _ T10 (mkF m 7 #[.val (.long q1), .second, .val (.long (-7575587736534282103 : Int64)), .second, .unset, .unset, .unset, .unset, .unset, .unset, .unset] [])
  refine own_go (X10.ldc2Long hx hown (mvT hZ (hw _ (List.mem_of_getElem? (i := 6) rfl))) (g := (mkF m 7 #[.val (.long q1), .second, .val (.long (-7575587736534282103 : Int64)), .second, .unset, .unset, .unset, .unset, .unset, .unset, .unset] [])) rfl (hb hby at_7)) ?_
  show own_Go _ _ _ _ T10 (mkF m 10 #[.val (.long q1), .second, .val (.long (-7575587736534282103 : Int64)), .second, .unset, .unset, .unset, .unset, .unset, .unset, .unset] [(.long (-7723592293110705685 : Int64))])
  obtain ⟨v11, T11, h11, L11, X11, e11, hQ11, st11⟩ := own_callS X10 hx hZ hown (hw _ (List.mem_of_getElem? (i := 1) rfl)) (hw _ (List.mem_of_getElem? (i := 2) rfl)) (hw _ (List.mem_of_getElem? (i := 3) rfl)) (hw _ (List.mem_of_getElem? (i := 4) rfl)) (by decide) e10 (argsL := [(.long (-7723592293110705685 : Int64))]) (rest := []) (rm1 l Z a0 hw [] (-7723592293110705685 : Int64) h0 n0 Z0) 0 (by decide) (by decide) (by decide) (by decide) (g := (mkF m 10 #[.val (.long q1), .second, .val (.long (-7575587736534282103 : Int64)), .second, .unset, .unset, .unset, .unset, .unset, .unset, .unset] [(.long (-7723592293110705685 : Int64))])) rfl (by rw [hml]; rfl) (lenOf pd0 rfl) rfl (Nat.le_of_eq rfl) (hb hby at_10)
  obtain ⟨rfl, N11q, rfl⟩ := hQ11
  refine own_go (st11) ?_
  have N11 := Fr.app N10 N11q
  show own_Go _ _ _ _ T11 (mkF m 13 #[.val (.long q1), .second, .val (.long (-7575587736534282103 : Int64)), .second, .unset, .unset, .unset, .unset, .unset, .unset, .unset] [(.long (own_inv (-7723592293110705685 : Int64)))])
  rw [own_inv2]
  show own_Go _ _ _ _ T11 (mkF m 13 #[.val (.long q1), .second, .val (.long (-7575587736534282103 : Int64)), .second, .unset, .unset, .unset, .unset, .unset, .unset, .unset] [(.long (3573116690164977347 : Int64))])
  refine own_go (fun _ k => XS.lstore X11.here hx rfl (hb hby at_13) rfl (l' := #[.val (.long q1), .second, .val (.long (-7575587736534282103 : Int64)), .second, .val (.long (3573116690164977347 : Int64)), .second, .unset, .unset, .unset, .unset, .unset]) rfl k) ?_
  show own_Go _ _ _ _ T11 (mkF m 15 #[.val (.long q1), .second, .val (.long (-7575587736534282103 : Int64)), .second, .val (.long (3573116690164977347 : Int64)), .second, .unset, .unset, .unset, .unset, .unset] [])
  refine own_go (X11.ldc2Long hx hown (mvT hZ (hw _ (List.mem_of_getElem? (i := 0) rfl))) (g := (mkF m 15 #[.val (.long q1), .second, .val (.long (-7575587736534282103 : Int64)), .second, .val (.long (3573116690164977347 : Int64)), .second, .unset, .unset, .unset, .unset, .unset] [])) rfl (hb hby at_15)) ?_
  show own_Go _ _ _ _ T11 (mkF m 18 #[.val (.long q1), .second, .val (.long (-7575587736534282103 : Int64)), .second, .val (.long (3573116690164977347 : Int64)), .second, .unset, .unset, .unset, .unset, .unset] [(.long (-4658895280553007687 : Int64))])
  refine own_go (fun _ k => XS.lloadN X11.here hx rfl (hb hby at_18) rfl k) ?_
  show own_Go _ _ _ _ T11 (mkF m 19 #[.val (.long q1), .second, .val (.long (-7575587736534282103 : Int64)), .second, .val (.long (3573116690164977347 : Int64)), .second, .unset, .unset, .unset, .unset, .unset] [(.long (-7575587736534282103 : Int64)), (.long (-4658895280553007687 : Int64))])
  refine own_go (fun _ k => XS.lmul X11.here hx rfl (hb hby at_19) rfl k) ?_
  show own_Go _ _ _ _ T11 (mkF m 20 #[.val (.long q1), .second, .val (.long (-7575587736534282103 : Int64)), .second, .val (.long (3573116690164977347 : Int64)), .second, .unset, .unset, .unset, .unset, .unset] [(.long ((-4658895280553007687 : Int64) * (-7575587736534282103 : Int64)))])
  refine own_go (fun _ k => XS.lconst X11.here hx rfl (hb hby at_20) k) ?_
  show own_Go _ _ _ _ T11 (mkF m 21 #[.val (.long q1), .second, .val (.long (-7575587736534282103 : Int64)), .second, .val (.long (3573116690164977347 : Int64)), .second, .unset, .unset, .unset, .unset, .unset] [(.long (1 : Int64)), (.long ((-4658895280553007687 : Int64) * (-7575587736534282103 : Int64)))])
  refine own_go (fun _ k => XS.lcmp X11.here hx rfl (hb hby at_21) rfl k) ?_
  show own_Go _ _ _ _ T11 (mkF m 22 #[.val (.long q1), .second, .val (.long (-7575587736534282103 : Int64)), .second, .val (.long (3573116690164977347 : Int64)), .second, .unset, .unset, .unset, .unset, .unset] [(.int (lcmpW ((-4658895280553007687 : Int64) * (-7575587736534282103 : Int64)) (1 : Int64)))])
  refine own_go (fun _ k => XS.ifNo X11.here hx rfl (hb hby at_22) rfl ((if0 _ _).trans (teq ((lw_eq _ _).mpr (by decide))).2) k) ?_
  show own_Go _ _ _ _ T11 (mkF m 25 #[.val (.long q1), .second, .val (.long (-7575587736534282103 : Int64)), .second, .val (.long (3573116690164977347 : Int64)), .second, .unset, .unset, .unset, .unset, .unset] [])
  refine own_go (X11.ldc2Long hx hown (mvT hZ (hw _ (List.mem_of_getElem? (i := 6) rfl))) (g := (mkF m 25 #[.val (.long q1), .second, .val (.long (-7575587736534282103 : Int64)), .second, .val (.long (3573116690164977347 : Int64)), .second, .unset, .unset, .unset, .unset, .unset] [])) rfl (hb hby at_25)) ?_
  show own_Go _ _ _ _ T11 (mkF m 28 #[.val (.long q1), .second, .val (.long (-7575587736534282103 : Int64)), .second, .val (.long (3573116690164977347 : Int64)), .second, .unset, .unset, .unset, .unset, .unset] [(.long (-7723592293110705685 : Int64))])
  refine own_go (fun _ k => XS.lload X11.here hx rfl (hb hby at_28) rfl k) ?_
  show own_Go _ _ _ _ T11 (mkF m 30 #[.val (.long q1), .second, .val (.long (-7575587736534282103 : Int64)), .second, .val (.long (3573116690164977347 : Int64)), .second, .unset, .unset, .unset, .unset, .unset] [(.long (3573116690164977347 : Int64)), (.long (-7723592293110705685 : Int64))])
  refine own_go (fun _ k => XS.lmul X11.here hx rfl (hb hby at_30) rfl k) ?_
  show own_Go _ _ _ _ T11 (mkF m 31 #[.val (.long q1), .second, .val (.long (-7575587736534282103 : Int64)), .second, .val (.long (3573116690164977347 : Int64)), .second, .unset, .unset, .unset, .unset, .unset] [(.long ((-7723592293110705685 : Int64) * (3573116690164977347 : Int64)))])
  refine own_go (fun _ k => XS.lconst X11.here hx rfl (hb hby at_31) k) ?_
  show own_Go _ _ _ _ T11 (mkF m 32 #[.val (.long q1), .second, .val (.long (-7575587736534282103 : Int64)), .second, .val (.long (3573116690164977347 : Int64)), .second, .unset, .unset, .unset, .unset, .unset] [(.long (1 : Int64)), (.long ((-7723592293110705685 : Int64) * (3573116690164977347 : Int64)))])
  refine own_go (fun _ k => XS.lcmp X11.here hx rfl (hb hby at_32) rfl k) ?_
  show own_Go _ _ _ _ T11 (mkF m 33 #[.val (.long q1), .second, .val (.long (-7575587736534282103 : Int64)), .second, .val (.long (3573116690164977347 : Int64)), .second, .unset, .unset, .unset, .unset, .unset] [(.int (lcmpW ((-7723592293110705685 : Int64) * (3573116690164977347 : Int64)) (1 : Int64)))])
  refine own_go (fun _ k => XS.ifYes X11.here hx rfl (pc0 := 33) (pc' := 38) rfl (hb hby at_33) rfl ((if0 _ _).trans (teq ((lw_eq _ _).mpr (by decide))).1) (by decide) (by decide) k) ?_
  show own_Go _ _ _ _ T11 (mkF m 38 #[.val (.long q1), .second, .val (.long (-7575587736534282103 : Int64)), .second, .val (.long (3573116690164977347 : Int64)), .second, .unset, .unset, .unset, .unset, .unset] [])
  obtain ⟨T12, h12, X12, e12, E12, A12, D12, -, st12⟩ := newO X11 hx hZ hown (hw _ (List.mem_of_getElem? (i := 7) rfl)) (hw _ (List.mem_of_getElem? (i := 8) rfl)) (hw _ (List.mem_of_getElem? (i := 9) rfl)) e11 (g := (mkF m 38 #[.val (.long q1), .second, .val (.long (-7575587736534282103 : Int64)), .second, .val (.long (3573116690164977347 : Int64)), .second, .unset, .unset, .unset, .unset, .unset] [])) rfl (hb hby at_38) (by decide) (by decide)
  obtain ⟨b12, g12⟩ : ∃ z, z = h0.size := ⟨_, rfl⟩
  rw [← g12] at A12 D12 st12
  refine own_go (st12) ?_
  have g_b12 : n0 ≤ b12 := Nat.le_trans Z0 (Nat.le_of_eq g12.symm)
  have F12_state : Fld Z h12 b12 "weirjoin/SplitMix64" "state" "J" (.long (0 : Int64)) := D12 (Or.inl (hw _ (List.mem_of_getElem? (i := 17) rfl))) (ty := .long) (by decide)
  show own_Go _ _ _ _ T12 (mkF m 41 #[.val (.long q1), .second, .val (.long (-7575587736534282103 : Int64)), .second, .val (.long (3573116690164977347 : Int64)), .second, .unset, .unset, .unset, .unset, .unset] [(.ref b12)])
  refine own_go (fun _ k => XS.dup X12.here hx rfl (hb hby at_41) rfl rfl k) ?_
  show own_Go _ _ _ _ T12 (mkF m 42 #[.val (.long q1), .second, .val (.long (-7575587736534282103 : Int64)), .second, .val (.long (3573116690164977347 : Int64)), .second, .unset, .unset, .unset, .unset, .unset] [(.ref b12), (.ref b12)])
  refine own_go (fun _ k => XS.lloadN X12.here hx rfl (hb hby at_42) rfl k) ?_
  show own_Go _ _ _ _ T12 (mkF m 43 #[.val (.long q1), .second, .val (.long (-7575587736534282103 : Int64)), .second, .val (.long (3573116690164977347 : Int64)), .second, .unset, .unset, .unset, .unset, .unset] [(.long q1), (.ref b12), (.ref b12)])
  have f13 := (Nat.le_trans Z0 E12.1)
  obtain ⟨v14, T14, h14, L14, X14, e14, hQ14, st14⟩ := own_callI X12 hx hZ rfl hown (hw _ (List.mem_of_getElem? (i := 10) rfl)) (hw _ (List.mem_of_getElem? (i := 11) rfl)) (hw _ (List.mem_of_getElem? (i := 9) rfl)) (hw _ (List.mem_of_getElem? (i := 12) rfl)) (by decide) e12 (a := b12) (argsL := [(.long q1)]) (rest := [(.ref b12)]) (rm2 l Z a0 hw [] b12 q1 h12 n0 f13 A12 F12_state g_b12) 1 (by decide) (by decide) (by decide) (by decide) (g := (mkF m 43 #[.val (.long q1), .second, .val (.long (-7575587736534282103 : Int64)), .second, .val (.long (3573116690164977347 : Int64)), .second, .unset, .unset, .unset, .unset, .unset] [(.long q1), (.ref b12), (.ref b12)])) rfl (by rw [hml]; rfl) (lenOf pd1 rfl) rfl (Nat.le_of_eq rfl) (hb hby at_43)
  obtain ⟨rfl, N14q, K14, E14x, F14x⟩ := hQ14
  refine own_go (st14) ?_
  have N14 := Fr.app N11 N14q
  show own_Go _ _ _ _ T14 (mkF m 46 #[.val (.long q1), .second, .val (.long (-7575587736534282103 : Int64)), .second, .val (.long (3573116690164977347 : Int64)), .second, .unset, .unset, .unset, .unset, .unset] [(.ref b12)])
  refine own_go (fun _ k => XS.astore X14.here hx rfl (hb hby at_46) rfl rfl (l' := #[.val (.long q1), .second, .val (.long (-7575587736534282103 : Int64)), .second, .val (.long (3573116690164977347 : Int64)), .second, .val (.ref b12), .unset, .unset, .unset, .unset]) rfl k) ?_
  show own_Go _ _ _ _ T14 (mkF m 48 #[.val (.long q1), .second, .val (.long (-7575587736534282103 : Int64)), .second, .val (.long (3573116690164977347 : Int64)), .second, .val (.ref b12), .unset, .unset, .unset, .unset] [])
  refine own_go (fun _ k => XS.aload X14.here hx rfl (hb hby at_48) rfl rfl k) ?_
  show own_Go _ _ _ _ T14 (mkF m 50 #[.val (.long q1), .second, .val (.long (-7575587736534282103 : Int64)), .second, .val (.long (3573116690164977347 : Int64)), .second, .val (.ref b12), .unset, .unset, .unset, .unset] [(.ref b12)])
  have f15 := (Nat.le_trans f13 K14.1)
  obtain ⟨v16, T16, h16, L16, X16, e16, hQ16, st16⟩ := own_callV X14 hx hZ hown (hw _ (List.mem_of_getElem? (i := 18) rfl)) (hw _ (List.mem_of_getElem? (i := 19) rfl)) (hw _ (List.mem_of_getElem? (i := 21) rfl)) (notFace_of_selects (args := #[]) (mvT hZ (hw _ (List.mem_of_getElem? (i := 21) rfl)))) (hw _ (List.mem_of_getElem? (i := 20) rfl)) (hw _ (List.mem_of_getElem? (i := 9) rfl)) (hw _ (List.mem_of_getElem? (i := 22) rfl)) (by decide) e14 E14x (argsL := []) (rest := []) (rm4 l Z a0 hw [] b12 q1 h14 n0 f15 E14x F14x g_b12) 0 (by decide) (by decide) (by decide) (by decide) (g := (mkF m 50 #[.val (.long q1), .second, .val (.long (-7575587736534282103 : Int64)), .second, .val (.long (3573116690164977347 : Int64)), .second, .val (.ref b12), .unset, .unset, .unset, .unset] [(.ref b12)])) rfl (by rw [hml]; rfl) (lenOf pd2 rfl) rfl (Nat.le_of_eq rfl) (hb hby at_50)
  obtain ⟨rfl, N16q, K16, E16x, F16x⟩ := hQ16
  refine own_go (st16) ?_
  have N16 := Fr.app N14 N16q
  show own_Go _ _ _ _ T16 (mkF m 53 #[.val (.long q1), .second, .val (.long (-7575587736534282103 : Int64)), .second, .val (.long (3573116690164977347 : Int64)), .second, .val (.ref b12), .unset, .unset, .unset, .unset] [(.long (own_mix (q1 + (-7046029254386353131 : Int64))))])
  refine own_go (fun _ k => XS.lstore X16.here hx rfl (hb hby at_53) rfl (l' := #[.val (.long q1), .second, .val (.long (-7575587736534282103 : Int64)), .second, .val (.long (3573116690164977347 : Int64)), .second, .val (.ref b12), .val (.long (own_mix (q1 + (-7046029254386353131 : Int64)))), .second, .unset, .unset]) rfl k) ?_
  show own_Go _ _ _ _ T16 (mkF m 55 #[.val (.long q1), .second, .val (.long (-7575587736534282103 : Int64)), .second, .val (.long (3573116690164977347 : Int64)), .second, .val (.ref b12), .val (.long (own_mix (q1 + (-7046029254386353131 : Int64)))), .second, .unset, .unset] [])
  refine own_go (fun _ k => XS.aload X16.here hx rfl (hb hby at_55) rfl rfl k) ?_
  show own_Go _ _ _ _ T16 (mkF m 57 #[.val (.long q1), .second, .val (.long (-7575587736534282103 : Int64)), .second, .val (.long (3573116690164977347 : Int64)), .second, .val (.ref b12), .val (.long (own_mix (q1 + (-7046029254386353131 : Int64)))), .second, .unset, .unset] [(.ref b12)])
  have f17 := (Nat.le_trans f15 K16.1)
  obtain ⟨v18, T18, h18, L18, X18, e18, hQ18, st18⟩ := own_callV X16 hx hZ hown (hw _ (List.mem_of_getElem? (i := 18) rfl)) (hw _ (List.mem_of_getElem? (i := 19) rfl)) (hw _ (List.mem_of_getElem? (i := 21) rfl)) (notFace_of_selects (args := #[]) (mvT hZ (hw _ (List.mem_of_getElem? (i := 21) rfl)))) (hw _ (List.mem_of_getElem? (i := 20) rfl)) (hw _ (List.mem_of_getElem? (i := 9) rfl)) (hw _ (List.mem_of_getElem? (i := 22) rfl)) (by decide) e16 E16x (argsL := []) (rest := []) (rm4 l Z a0 hw [] b12 (q1 + (-7046029254386353131 : Int64)) h16 n0 f17 E16x F16x g_b12) 0 (by decide) (by decide) (by decide) (by decide) (g := (mkF m 57 #[.val (.long q1), .second, .val (.long (-7575587736534282103 : Int64)), .second, .val (.long (3573116690164977347 : Int64)), .second, .val (.ref b12), .val (.long (own_mix (q1 + (-7046029254386353131 : Int64)))), .second, .unset, .unset] [(.ref b12)])) rfl (by rw [hml]; rfl) (lenOf pd2 rfl) rfl (Nat.le_of_eq rfl) (hb hby at_57)
  obtain ⟨rfl, N18q, K18, E18x, F18x⟩ := hQ18
  refine own_go (st18) ?_
  have N18 := Fr.app N16 N18q
  show own_Go _ _ _ _ T18 (mkF m 60 #[.val (.long q1), .second, .val (.long (-7575587736534282103 : Int64)), .second, .val (.long (3573116690164977347 : Int64)), .second, .val (.ref b12), .val (.long (own_mix (q1 + (-7046029254386353131 : Int64)))), .second, .unset, .unset] [(.long (own_mix ((q1 + (-7046029254386353131 : Int64)) + (-7046029254386353131 : Int64))))])
  refine own_go (fun _ k => XS.lstore X18.here hx rfl (hb hby at_60) rfl (l' := #[.val (.long q1), .second, .val (.long (-7575587736534282103 : Int64)), .second, .val (.long (3573116690164977347 : Int64)), .second, .val (.ref b12), .val (.long (own_mix (q1 + (-7046029254386353131 : Int64)))), .second, .val (.long (own_mix ((q1 + (-7046029254386353131 : Int64)) + (-7046029254386353131 : Int64)))), .second]) rfl k) ?_
  show own_Go _ _ _ _ T18 (mkF m 62 #[.val (.long q1), .second, .val (.long (-7575587736534282103 : Int64)), .second, .val (.long (3573116690164977347 : Int64)), .second, .val (.ref b12), .val (.long (own_mix (q1 + (-7046029254386353131 : Int64)))), .second, .val (.long (own_mix ((q1 + (-7046029254386353131 : Int64)) + (-7046029254386353131 : Int64)))), .second] [])
  refine own_go (fun _ k => XS.lload X18.here hx rfl (hb hby at_62) rfl k) ?_
  show own_Go _ _ _ _ T18 (mkF m 64 #[.val (.long q1), .second, .val (.long (-7575587736534282103 : Int64)), .second, .val (.long (3573116690164977347 : Int64)), .second, .val (.ref b12), .val (.long (own_mix (q1 + (-7046029254386353131 : Int64)))), .second, .val (.long (own_mix ((q1 + (-7046029254386353131 : Int64)) + (-7046029254386353131 : Int64)))), .second] [(.long (own_mix (q1 + (-7046029254386353131 : Int64))))])
  refine own_go (fun _ k => XS.lloadN X18.here hx rfl (hb hby at_64) rfl k) ?_
  show own_Go _ _ _ _ T18 (mkF m 65 #[.val (.long q1), .second, .val (.long (-7575587736534282103 : Int64)), .second, .val (.long (3573116690164977347 : Int64)), .second, .val (.ref b12), .val (.long (own_mix (q1 + (-7046029254386353131 : Int64)))), .second, .val (.long (own_mix ((q1 + (-7046029254386353131 : Int64)) + (-7046029254386353131 : Int64)))), .second] [(.long (-7575587736534282103 : Int64)), (.long (own_mix (q1 + (-7046029254386353131 : Int64))))])
  refine own_go (fun _ k => XS.lload X18.here hx rfl (hb hby at_65) rfl k) ?_
  show own_Go _ _ _ _ T18 (mkF m 67 #[.val (.long q1), .second, .val (.long (-7575587736534282103 : Int64)), .second, .val (.long (3573116690164977347 : Int64)), .second, .val (.ref b12), .val (.long (own_mix (q1 + (-7046029254386353131 : Int64)))), .second, .val (.long (own_mix ((q1 + (-7046029254386353131 : Int64)) + (-7046029254386353131 : Int64)))), .second] [(.long (3573116690164977347 : Int64)), (.long (-7575587736534282103 : Int64)), (.long (own_mix (q1 + (-7046029254386353131 : Int64))))])
  have f19 := (Nat.le_trans f17 K18.1)
  obtain ⟨v20, T20, h20, L20, X20, e20, hQ20, st20⟩ := own_callS X18 hx hZ hown (hw _ (List.mem_of_getElem? (i := 26) rfl)) (hw _ (List.mem_of_getElem? (i := 27) rfl)) (hw _ (List.mem_of_getElem? (i := 3) rfl)) (hw _ (List.mem_of_getElem? (i := 28) rfl)) (by decide) e18 (argsL := [(.long (own_mix (q1 + (-7046029254386353131 : Int64)))), (.long (-7575587736534282103 : Int64)), (.long (3573116690164977347 : Int64))]) (rest := []) (rm5 l Z a0 hw [] (own_mix (q1 + (-7046029254386353131 : Int64))) (-7575587736534282103 : Int64) (3573116690164977347 : Int64) h18 n0 f19) 0 (by decide) (by decide) (by decide) (by decide) (g := (mkF m 67 #[.val (.long q1), .second, .val (.long (-7575587736534282103 : Int64)), .second, .val (.long (3573116690164977347 : Int64)), .second, .val (.ref b12), .val (.long (own_mix (q1 + (-7046029254386353131 : Int64)))), .second, .val (.long (own_mix ((q1 + (-7046029254386353131 : Int64)) + (-7046029254386353131 : Int64)))), .second] [(.long (3573116690164977347 : Int64)), (.long (-7575587736534282103 : Int64)), (.long (own_mix (q1 + (-7046029254386353131 : Int64))))])) rfl (by rw [hml]; rfl) (lenOf pd3 rfl) rfl (Nat.le_of_eq rfl) (hb hby at_67)
  obtain ⟨rfl, N20q, rfl⟩ := hQ20
  refine own_go (st20) ?_
  have N20 := Fr.app N18 N20q
  show own_Go _ _ _ _ T20 (mkF m 70 #[.val (.long q1), .second, .val (.long (-7575587736534282103 : Int64)), .second, .val (.long (3573116690164977347 : Int64)), .second, .val (.ref b12), .val (.long (own_mix (q1 + (-7046029254386353131 : Int64)))), .second, .val (.long (own_mix ((q1 + (-7046029254386353131 : Int64)) + (-7046029254386353131 : Int64)))), .second] [(.long (own_unmix (own_mix (q1 + (-7046029254386353131 : Int64))) (-7575587736534282103 : Int64) (3573116690164977347 : Int64)))])
  refine own_go (fun _ k => XS.lloadN X20.here hx rfl (hb hby at_70) rfl k) ?_
  show own_Go _ _ _ _ T20 (mkF m 71 #[.val (.long q1), .second, .val (.long (-7575587736534282103 : Int64)), .second, .val (.long (3573116690164977347 : Int64)), .second, .val (.ref b12), .val (.long (own_mix (q1 + (-7046029254386353131 : Int64)))), .second, .val (.long (own_mix ((q1 + (-7046029254386353131 : Int64)) + (-7046029254386353131 : Int64)))), .second] [(.long q1), (.long (own_unmix (own_mix (q1 + (-7046029254386353131 : Int64))) (-7575587736534282103 : Int64) (3573116690164977347 : Int64)))])
  refine own_go (X20.ldc2Long hx hown (mvT hZ (hw _ (List.mem_of_getElem? (i := 29) rfl))) (g := (mkF m 71 #[.val (.long q1), .second, .val (.long (-7575587736534282103 : Int64)), .second, .val (.long (3573116690164977347 : Int64)), .second, .val (.ref b12), .val (.long (own_mix (q1 + (-7046029254386353131 : Int64)))), .second, .val (.long (own_mix ((q1 + (-7046029254386353131 : Int64)) + (-7046029254386353131 : Int64)))), .second] [(.long q1), (.long (own_unmix (own_mix (q1 + (-7046029254386353131 : Int64))) (-7575587736534282103 : Int64) (3573116690164977347 : Int64)))])) rfl (hb hby at_71)) ?_
  show own_Go _ _ _ _ T20 (mkF m 74 #[.val (.long q1), .second, .val (.long (-7575587736534282103 : Int64)), .second, .val (.long (3573116690164977347 : Int64)), .second, .val (.ref b12), .val (.long (own_mix (q1 + (-7046029254386353131 : Int64)))), .second, .val (.long (own_mix ((q1 + (-7046029254386353131 : Int64)) + (-7046029254386353131 : Int64)))), .second] [(.long (-7046029254386353131 : Int64)), (.long q1), (.long (own_unmix (own_mix (q1 + (-7046029254386353131 : Int64))) (-7575587736534282103 : Int64) (3573116690164977347 : Int64)))])
  refine own_go (fun _ k => XS.ladd X20.here hx rfl (hb hby at_74) rfl k) ?_
  show own_Go _ _ _ _ T20 (mkF m 75 #[.val (.long q1), .second, .val (.long (-7575587736534282103 : Int64)), .second, .val (.long (3573116690164977347 : Int64)), .second, .val (.ref b12), .val (.long (own_mix (q1 + (-7046029254386353131 : Int64)))), .second, .val (.long (own_mix ((q1 + (-7046029254386353131 : Int64)) + (-7046029254386353131 : Int64)))), .second] [(.long (q1 + (-7046029254386353131 : Int64))), (.long (own_unmix (own_mix (q1 + (-7046029254386353131 : Int64))) (-7575587736534282103 : Int64) (3573116690164977347 : Int64)))])
  refine own_go (fun _ k => XS.lcmp X20.here hx rfl (hb hby at_75) rfl k) ?_
  show own_Go _ _ _ _ T20 (mkF m 76 #[.val (.long q1), .second, .val (.long (-7575587736534282103 : Int64)), .second, .val (.long (3573116690164977347 : Int64)), .second, .val (.ref b12), .val (.long (own_mix (q1 + (-7046029254386353131 : Int64)))), .second, .val (.long (own_mix ((q1 + (-7046029254386353131 : Int64)) + (-7046029254386353131 : Int64)))), .second] [(.int (lcmpW (own_unmix (own_mix (q1 + (-7046029254386353131 : Int64))) (-7575587736534282103 : Int64) (3573116690164977347 : Int64)) (q1 + (-7046029254386353131 : Int64))))])
  refine own_go (fun _ k => XS.ifNo X20.here hx rfl (hb hby at_76) rfl ((if0 _ _).trans (teq ((lw_eq _ _).mpr (own_back _))).2) k) ?_
  show own_Go _ _ _ _ T20 (mkF m 79 #[.val (.long q1), .second, .val (.long (-7575587736534282103 : Int64)), .second, .val (.long (3573116690164977347 : Int64)), .second, .val (.ref b12), .val (.long (own_mix (q1 + (-7046029254386353131 : Int64)))), .second, .val (.long (own_mix ((q1 + (-7046029254386353131 : Int64)) + (-7046029254386353131 : Int64)))), .second] [])
  refine own_go (fun _ k => XS.lload X20.here hx rfl (hb hby at_79) rfl k) ?_
  show own_Go _ _ _ _ T20 (mkF m 81 #[.val (.long q1), .second, .val (.long (-7575587736534282103 : Int64)), .second, .val (.long (3573116690164977347 : Int64)), .second, .val (.ref b12), .val (.long (own_mix (q1 + (-7046029254386353131 : Int64)))), .second, .val (.long (own_mix ((q1 + (-7046029254386353131 : Int64)) + (-7046029254386353131 : Int64)))), .second] [(.long (own_mix ((q1 + (-7046029254386353131 : Int64)) + (-7046029254386353131 : Int64))))])
  refine own_go (fun _ k => XS.lloadN X20.here hx rfl (hb hby at_81) rfl k) ?_
  show own_Go _ _ _ _ T20 (mkF m 82 #[.val (.long q1), .second, .val (.long (-7575587736534282103 : Int64)), .second, .val (.long (3573116690164977347 : Int64)), .second, .val (.ref b12), .val (.long (own_mix (q1 + (-7046029254386353131 : Int64)))), .second, .val (.long (own_mix ((q1 + (-7046029254386353131 : Int64)) + (-7046029254386353131 : Int64)))), .second] [(.long (-7575587736534282103 : Int64)), (.long (own_mix ((q1 + (-7046029254386353131 : Int64)) + (-7046029254386353131 : Int64))))])
  refine own_go (fun _ k => XS.lload X20.here hx rfl (hb hby at_82) rfl k) ?_
  show own_Go _ _ _ _ T20 (mkF m 84 #[.val (.long q1), .second, .val (.long (-7575587736534282103 : Int64)), .second, .val (.long (3573116690164977347 : Int64)), .second, .val (.ref b12), .val (.long (own_mix (q1 + (-7046029254386353131 : Int64)))), .second, .val (.long (own_mix ((q1 + (-7046029254386353131 : Int64)) + (-7046029254386353131 : Int64)))), .second] [(.long (3573116690164977347 : Int64)), (.long (-7575587736534282103 : Int64)), (.long (own_mix ((q1 + (-7046029254386353131 : Int64)) + (-7046029254386353131 : Int64))))])
  obtain ⟨v21, T21, h21, L21, X21, e21, hQ21, st21⟩ := own_callS X20 hx hZ hown (hw _ (List.mem_of_getElem? (i := 26) rfl)) (hw _ (List.mem_of_getElem? (i := 27) rfl)) (hw _ (List.mem_of_getElem? (i := 3) rfl)) (hw _ (List.mem_of_getElem? (i := 28) rfl)) (by decide) e20 (argsL := [(.long (own_mix ((q1 + (-7046029254386353131 : Int64)) + (-7046029254386353131 : Int64)))), (.long (-7575587736534282103 : Int64)), (.long (3573116690164977347 : Int64))]) (rest := []) (rm5 l Z a0 hw [] (own_mix ((q1 + (-7046029254386353131 : Int64)) + (-7046029254386353131 : Int64))) (-7575587736534282103 : Int64) (3573116690164977347 : Int64) h18 n0 f19) 0 (by decide) (by decide) (by decide) (by decide) (g := (mkF m 84 #[.val (.long q1), .second, .val (.long (-7575587736534282103 : Int64)), .second, .val (.long (3573116690164977347 : Int64)), .second, .val (.ref b12), .val (.long (own_mix (q1 + (-7046029254386353131 : Int64)))), .second, .val (.long (own_mix ((q1 + (-7046029254386353131 : Int64)) + (-7046029254386353131 : Int64)))), .second] [(.long (3573116690164977347 : Int64)), (.long (-7575587736534282103 : Int64)), (.long (own_mix ((q1 + (-7046029254386353131 : Int64)) + (-7046029254386353131 : Int64))))])) rfl (by rw [hml]; rfl) (lenOf pd3 rfl) rfl (Nat.le_of_eq rfl) (hb hby at_84)
  obtain ⟨rfl, N21q, rfl⟩ := hQ21
  refine own_go (st21) ?_
  have N21 := Fr.app N20 N21q
  show own_Go _ _ _ _ T21 (mkF m 87 #[.val (.long q1), .second, .val (.long (-7575587736534282103 : Int64)), .second, .val (.long (3573116690164977347 : Int64)), .second, .val (.ref b12), .val (.long (own_mix (q1 + (-7046029254386353131 : Int64)))), .second, .val (.long (own_mix ((q1 + (-7046029254386353131 : Int64)) + (-7046029254386353131 : Int64)))), .second] [(.long (own_unmix (own_mix ((q1 + (-7046029254386353131 : Int64)) + (-7046029254386353131 : Int64))) (-7575587736534282103 : Int64) (3573116690164977347 : Int64)))])
  refine own_go (fun _ k => XS.lloadN X21.here hx rfl (hb hby at_87) rfl k) ?_
  show own_Go _ _ _ _ T21 (mkF m 88 #[.val (.long q1), .second, .val (.long (-7575587736534282103 : Int64)), .second, .val (.long (3573116690164977347 : Int64)), .second, .val (.ref b12), .val (.long (own_mix (q1 + (-7046029254386353131 : Int64)))), .second, .val (.long (own_mix ((q1 + (-7046029254386353131 : Int64)) + (-7046029254386353131 : Int64)))), .second] [(.long q1), (.long (own_unmix (own_mix ((q1 + (-7046029254386353131 : Int64)) + (-7046029254386353131 : Int64))) (-7575587736534282103 : Int64) (3573116690164977347 : Int64)))])
  refine own_go (X21.ldc2Long hx hown (mvT hZ (hw _ (List.mem_of_getElem? (i := 29) rfl))) (g := (mkF m 88 #[.val (.long q1), .second, .val (.long (-7575587736534282103 : Int64)), .second, .val (.long (3573116690164977347 : Int64)), .second, .val (.ref b12), .val (.long (own_mix (q1 + (-7046029254386353131 : Int64)))), .second, .val (.long (own_mix ((q1 + (-7046029254386353131 : Int64)) + (-7046029254386353131 : Int64)))), .second] [(.long q1), (.long (own_unmix (own_mix ((q1 + (-7046029254386353131 : Int64)) + (-7046029254386353131 : Int64))) (-7575587736534282103 : Int64) (3573116690164977347 : Int64)))])) rfl (hb hby at_88)) ?_
  show own_Go _ _ _ _ T21 (mkF m 91 #[.val (.long q1), .second, .val (.long (-7575587736534282103 : Int64)), .second, .val (.long (3573116690164977347 : Int64)), .second, .val (.ref b12), .val (.long (own_mix (q1 + (-7046029254386353131 : Int64)))), .second, .val (.long (own_mix ((q1 + (-7046029254386353131 : Int64)) + (-7046029254386353131 : Int64)))), .second] [(.long (-7046029254386353131 : Int64)), (.long q1), (.long (own_unmix (own_mix ((q1 + (-7046029254386353131 : Int64)) + (-7046029254386353131 : Int64))) (-7575587736534282103 : Int64) (3573116690164977347 : Int64)))])
  refine own_go (fun _ k => XS.ladd X21.here hx rfl (hb hby at_91) rfl k) ?_
  show own_Go _ _ _ _ T21 (mkF m 92 #[.val (.long q1), .second, .val (.long (-7575587736534282103 : Int64)), .second, .val (.long (3573116690164977347 : Int64)), .second, .val (.ref b12), .val (.long (own_mix (q1 + (-7046029254386353131 : Int64)))), .second, .val (.long (own_mix ((q1 + (-7046029254386353131 : Int64)) + (-7046029254386353131 : Int64)))), .second] [(.long (q1 + (-7046029254386353131 : Int64))), (.long (own_unmix (own_mix ((q1 + (-7046029254386353131 : Int64)) + (-7046029254386353131 : Int64))) (-7575587736534282103 : Int64) (3573116690164977347 : Int64)))])
  refine own_go (X21.ldc2Long hx hown (mvT hZ (hw _ (List.mem_of_getElem? (i := 29) rfl))) (g := (mkF m 92 #[.val (.long q1), .second, .val (.long (-7575587736534282103 : Int64)), .second, .val (.long (3573116690164977347 : Int64)), .second, .val (.ref b12), .val (.long (own_mix (q1 + (-7046029254386353131 : Int64)))), .second, .val (.long (own_mix ((q1 + (-7046029254386353131 : Int64)) + (-7046029254386353131 : Int64)))), .second] [(.long (q1 + (-7046029254386353131 : Int64))), (.long (own_unmix (own_mix ((q1 + (-7046029254386353131 : Int64)) + (-7046029254386353131 : Int64))) (-7575587736534282103 : Int64) (3573116690164977347 : Int64)))])) rfl (hb hby at_92)) ?_
  show own_Go _ _ _ _ T21 (mkF m 95 #[.val (.long q1), .second, .val (.long (-7575587736534282103 : Int64)), .second, .val (.long (3573116690164977347 : Int64)), .second, .val (.ref b12), .val (.long (own_mix (q1 + (-7046029254386353131 : Int64)))), .second, .val (.long (own_mix ((q1 + (-7046029254386353131 : Int64)) + (-7046029254386353131 : Int64)))), .second] [(.long (-7046029254386353131 : Int64)), (.long (q1 + (-7046029254386353131 : Int64))), (.long (own_unmix (own_mix ((q1 + (-7046029254386353131 : Int64)) + (-7046029254386353131 : Int64))) (-7575587736534282103 : Int64) (3573116690164977347 : Int64)))])
  refine own_go (fun _ k => XS.ladd X21.here hx rfl (hb hby at_95) rfl k) ?_
  show own_Go _ _ _ _ T21 (mkF m 96 #[.val (.long q1), .second, .val (.long (-7575587736534282103 : Int64)), .second, .val (.long (3573116690164977347 : Int64)), .second, .val (.ref b12), .val (.long (own_mix (q1 + (-7046029254386353131 : Int64)))), .second, .val (.long (own_mix ((q1 + (-7046029254386353131 : Int64)) + (-7046029254386353131 : Int64)))), .second] [(.long ((q1 + (-7046029254386353131 : Int64)) + (-7046029254386353131 : Int64))), (.long (own_unmix (own_mix ((q1 + (-7046029254386353131 : Int64)) + (-7046029254386353131 : Int64))) (-7575587736534282103 : Int64) (3573116690164977347 : Int64)))])
  refine own_go (fun _ k => XS.lcmp X21.here hx rfl (hb hby at_96) rfl k) ?_
  show own_Go _ _ _ _ T21 (mkF m 97 #[.val (.long q1), .second, .val (.long (-7575587736534282103 : Int64)), .second, .val (.long (3573116690164977347 : Int64)), .second, .val (.ref b12), .val (.long (own_mix (q1 + (-7046029254386353131 : Int64)))), .second, .val (.long (own_mix ((q1 + (-7046029254386353131 : Int64)) + (-7046029254386353131 : Int64)))), .second] [(.int (lcmpW (own_unmix (own_mix ((q1 + (-7046029254386353131 : Int64)) + (-7046029254386353131 : Int64))) (-7575587736534282103 : Int64) (3573116690164977347 : Int64)) ((q1 + (-7046029254386353131 : Int64)) + (-7046029254386353131 : Int64))))])
  refine own_go (fun _ k => XS.ifNo X21.here hx rfl (hb hby at_97) rfl ((if0 _ _).trans (teq ((lw_eq _ _).mpr (own_back _))).2) k) ?_
  show own_Go _ _ _ _ T21 (mkF m 100 #[.val (.long q1), .second, .val (.long (-7575587736534282103 : Int64)), .second, .val (.long (3573116690164977347 : Int64)), .second, .val (.ref b12), .val (.long (own_mix (q1 + (-7046029254386353131 : Int64)))), .second, .val (.long (own_mix ((q1 + (-7046029254386353131 : Int64)) + (-7046029254386353131 : Int64)))), .second] [])
  refine own_go (fun _ k => XS.iconst X21.here hx rfl (hb hby at_100) k) ?_
  show own_Go _ _ _ _ T21 (mkF m 101 #[.val (.long q1), .second, .val (.long (-7575587736534282103 : Int64)), .second, .val (.long (3573116690164977347 : Int64)), .second, .val (.ref b12), .val (.long (own_mix (q1 + (-7046029254386353131 : Int64)))), .second, .val (.long (own_mix ((q1 + (-7046029254386353131 : Int64)) + (-7046029254386353131 : Int64)))), .second] [(.int (1 : Int32))])
  refine own_go (fun _ k => XS.goto X21.here hx rfl (pc0 := 101) (pc' := 105) rfl (hb hby at_101) (by decide) (by decide) k) ?_
  show own_Go _ _ _ _ T21 (mkF m 105 #[.val (.long q1), .second, .val (.long (-7575587736534282103 : Int64)), .second, .val (.long (3573116690164977347 : Int64)), .second, .val (.ref b12), .val (.long (own_mix (q1 + (-7046029254386353131 : Int64)))), .second, .val (.long (own_mix ((q1 + (-7046029254386353131 : Int64)) + (-7046029254386353131 : Int64)))), .second] [(.int (1 : Int32))])
  exact own_retN X21 hx hret (by simp) hlk (hb hby at_105) (by decide) (by decide) (by first | exact ⟨rfl, N21⟩ | (rw [e21]; exact ⟨rfl, N21⟩))
set_option maxRecDepth 65536 in
set_option maxHeartbeats 40000000 in
theorem comes_1 {Post : Tables → Env → Array Value → State → Outcome → State → Prop} (hpost : ∀ tb e args s v u, (limb_1_1.after args s (.returned v) u = true ∧ limb_1_2.after args s (.returned v) u = true ∧ True) → FrameEnd s (.returned v) u (Jvm.fieldLocs frame_1_writes args s ++ Jvm.arrayLocs frame_1_arrays args s ++ Jvm.staticLocs frame_1_statics s) 16 128 → Post tb e args s (.returned v) u) :
    ArmFor flags0 classFile x code maxLocals ret World_1 tables_1 room_1 Calls_1 rest_1 Pre_1 Post := by
  intro l hfl _ _ p e ha hc hk s m args below hf hA hF happ hP
  obtain ⟨hcalls, hrest, hpre⟩ := hP
  obtain ⟨-, -, -, hnamed, -, -, -, hat⟩ := (Spec.applies_iff hf).mp happ
  obtain ⟨hg, hn⟩ := and_e (Cond.before_iff.mp (show (Jvm.Cond.and given_1 narrow_1).before args s = true from hpre))
  obtain ⟨gc, hg⟩ := and_e hg
  have gv0 := hg
  obtain ⟨w0, rfl⟩ : ∃ w0 : Value, args = #[w0] := by
    have hs : args.size = 1 := by simpa [Cond.value, given_1] using gc
    obtain ⟨L⟩ := args
    match L, hs with
    | [w0], _ => exact ⟨w0, rfl⟩
  have hw := fun d (hd : d ∈ tables_1) => atoms_spec (ws := Jvm.Cond.code x code maxLocals ret :: tables_1) hat d (List.mem_cons_of_mem _ hd)
  obtain ⟨i0, ei0⟩ := isL_v gv0
  obtain rfl : w0 = (.long i0) := Option.some.inj ei0
  obtain ⟨n, o, h1, h2, h3, _, L, rfl, ⟨rfl, N⟩, hq⟩ := rm0 l s _ hw tables_1 i0 s.heap s.heap.size (Nat.le_refl _) p e ha hc hk s m _ below hf ((Spec.applies_iff_loose hf).mp happ).1 ⟨rfl, State.Warmed39.refl s, rfl⟩ trivial
  refine ⟨n, _, h1, h2, h3, hpost _ _ _ _ _ _ ⟨Cond.after_iff.mpr rfl, Cond.after_iff.mpr (eq_i res_at (Term.int_eval (1)) rfl), trivial⟩ ⟨hq.1, hq.2.1, (hq.2.2.sift fun y hy => Or.inr (N y hy)).mono (by decide) (by decide)⟩⟩
theorem main_1_1 : Claimed_1_1 := comes_1 fun _ _ _ _ _ _ h hF => ⟨h.1, hF⟩
theorem main_1_2 : Claimed_1_2 := comes_1 fun _ _ _ _ _ _ h hF => ⟨h.2.1, hF⟩
end Jvm.Pilot.@@N@@
namespace Jvm.Pilot.@@N@@
open Jvm Jvm.ClassFile Sem Op Lib Jvm.Free Jvm.Stand Jvm.Pilot.@@N@@.Jvm.D
/-! MADE BY PROGRAM (witnessworld.py) out of the Statement's table words and the real class files: 9 classes; the members and pool entries that the words name. The judged class is class 1, her method 3. -/
namespace start1
open Jvm.ClassFile
def u (s : String) : CpInfo := .utf8 (stringToUtf16 s)
/-- a pool by its gaps: so many unusable entries, then the entry; so many at the end -/
def gap : Nat → List CpInfo → List CpInfo
  | 0, r => r
  | n + 1, r => .unusable :: gap n r
def poolList (es : List (Nat × CpInfo)) (last : Nat) : List CpInfo := es.foldr (fun e r => gap e.1 (e.2 :: r)) (gap last [])
def pool (es : List (Nat × CpInfo)) (last : Nat) : Array CpInfo := ⟨poolList es last⟩
def fileOf (pool : Array CpInfo) (this : Nat) (attrs : Array Attribute := #[]) (ms : Array MethodInfo := #[]) (fl : Nat := 33) (sup : Nat := 0) (ifs : Array Nat := #[]) (fds : Array FieldInfo := #[]) : ClassFile where
  minorVersion := 0
  majorVersion := 65
  constantPool := pool
  accessFlags := fl
  thisClass := this
  superClass := sup
  interfaces := ifs
  fields := fds
  methods := ms
  attributes := attrs
def plain (name : String) (sup : Option ClassId) : Class where
  name := name
  kind := .ordinary
  loader := none
  accessFlags := 33
  super := sup
  interfaces := #[]
  cf := none
  fields := #[]
  methods := #[]
  instanceTypes := #[]
  staticTypes := #[]
  resolved := #[]
  callSites := []
  init := .initialized
  statics := none
  mirror := none

def pool0 : Array CpInfo := pool [(5, u "<init>"), (0, u "()V"), (1, .class_ 10), (1, u "java/lang/Object")] 113

def k0c0 : Code := { maxStack := 0, maxLocals := 1, code := object_method_1_code, exceptionTable := #[], attributes := #[] }
def k0m0 : Method := { name := "<init>", desc := "()V", sig := { parameters := [], returnType := none }, accessFlags := 1, code := some k0c0 }
/-- java/lang/Object -/
def k0 : Class := { plain "java/lang/Object" none with
  accessFlags := 33
  interfaces := #[]
  cf := some (fileOf pool0 8 #[] #[{ accessFlags := 1, nameIndex := 5, descriptorIndex := 6, attributes := #[] }] 33 0 #[] #[])
  fields := #[]
  methods := #[k0m0]
  instanceTypes := #[]
  staticTypes := #[]
  resolved := Array.replicate 124 none
  statics := none }

def pool1 : Array CpInfo := pool [(2, .class_ 4), (1, u "java/lang/Object"), (0, u "<init>"), (0, u "()V"), (0, .long 2), (1, .class_ 10), (0, u "weirjoin/SplitMix64NextLongPinLaw"), (0, .long 13787848793156543929), (1, .methodref 9 14), (0, .nameAndType 15 16), (0, u "inv"), (0, u "(J)J"), (0, .long 10723151780598845931), (1, .class_ 20), (0, u "weirjoin/SplitMix64"), (0, .methodref 19 22), (0, .nameAndType 5 23), (0, u "(J)V"), (0, .methodref 19 25), (0, .nameAndType 26 27), (0, u "nextLong"), (0, u "()J"), (0, .methodref 9 29), (0, .nameAndType 30 31), (0, u "unmix"), (0, u "(JJJ)J"), (0, .long 11400714819323198485), (1, u "G"), (0, u "J"), (1, u "M1"), (0, u "M2"), (2, u "law"), (0, u "(J)Z")] 3

def k1m0 : Method := { name := "<init>", desc := "()V", sig := { parameters := [], returnType := none }, accessFlags := 1, code := none }
def k1c1 : Code := { maxStack := 8, maxLocals := 4, code := method_2_code, exceptionTable := #[], attributes := #[] }
def k1m1 : Method := { name := "inv", desc := "(J)J", sig := { parameters := [.long], returnType := some .long }, accessFlags := 10, code := some k1c1 }
def k1c2 : Code := { maxStack := 5, maxLocals := 8, code := method_3_code, exceptionTable := #[], attributes := #[] }
def k1m2 : Method := { name := "unmix", desc := "(JJJ)J", sig := { parameters := [.long, .long, .long], returnType := some .long }, accessFlags := 10, code := some k1c2 }
def k1c3 : Code := { maxStack := 6, maxLocals := 11, code := code, exceptionTable := #[], attributes := #[] }
def k1m3 : Method := { name := "law", desc := "(J)Z", sig := { parameters := [.long], returnType := some .boolean }, accessFlags := 9, code := some k1c3 }
/-- weirjoin/SplitMix64NextLongPinLaw -/
def k1 : Class := { plain "weirjoin/SplitMix64NextLongPinLaw" (some 0) with
  accessFlags := 49
  interfaces := #[]
  cf := some (fileOf pool1 9 #[] #[{ accessFlags := 1, nameIndex := 5, descriptorIndex := 6, attributes := #[] }, { accessFlags := 10, nameIndex := 15, descriptorIndex := 16, attributes := #[] }, { accessFlags := 10, nameIndex := 30, descriptorIndex := 31, attributes := #[] }, { accessFlags := 9, nameIndex := 41, descriptorIndex := 42, attributes := #[] }] 49 2 #[] #[{ accessFlags := 26, nameIndex := 34, descriptorIndex := 35, attributes := #[] }, { accessFlags := 26, nameIndex := 37, descriptorIndex := 35, attributes := #[] }, { accessFlags := 26, nameIndex := 38, descriptorIndex := 35, attributes := #[] }])
  fields := #[{ name := "G", type := .long, accessFlags := 26, slot := 0, constantValue := 0 }, { name := "M1", type := .long, accessFlags := 26, slot := 1, constantValue := 0 }, { name := "M2", type := .long, accessFlags := 26, slot := 2, constantValue := 0 }]
  methods := #[k1m0, k1m1, k1m2, k1m3]
  instanceTypes := #[]
  staticTypes := #[.long, .long, .long]
  resolved := Array.replicate 46 none
  statics := none }

def pool2 : Array CpInfo := pool [(1, .methodref 2 3), (0, .class_ 4), (0, .nameAndType 5 6), (0, u "java/lang/Object"), (0, u "<init>"), (0, u "()V"), (0, .fieldref 8 9), (0, .class_ 10), (0, .nameAndType 11 12), (0, u "weirjoin/SplitMix64"), (0, u "state"), (0, u "J"), (0, .long 11400714819323198485), (1, .long 13787848793156543929), (1, .long 10723151780598845931), (3, u "nextLong"), (0, u "()J"), (8, u "GAMMA"), (1, u "DOUBLE_UNIT"), (0, u "D"), (0, u "(J)V")] 8

def k2c0 : Code := { maxStack := 3, maxLocals := 3, code := prog_167_method_1_code, exceptionTable := #[], attributes := #[] }
def k2m0 : Method := { name := "<init>", desc := "(J)V", sig := { parameters := [.long], returnType := none }, accessFlags := 0, code := some k2c0 }
def k2c1 : Code := { maxStack := 5, maxLocals := 3, code := prog_167_method_2_code, exceptionTable := #[], attributes := #[] }
def k2m1 : Method := { name := "nextLong", desc := "()J", sig := { parameters := [], returnType := some .long }, accessFlags := 0, code := some k2c1 }
/-- weirjoin/SplitMix64 -/
def k2 : Class := { plain "weirjoin/SplitMix64" (some 0) with
  accessFlags := 48
  interfaces := #[]
  cf := some (fileOf pool2 8 #[] #[{ accessFlags := 0, nameIndex := 5, descriptorIndex := 35, attributes := #[] }, { accessFlags := 0, nameIndex := 21, descriptorIndex := 22, attributes := #[] }] 48 2 #[] #[{ accessFlags := 26, nameIndex := 31, descriptorIndex := 12, attributes := #[] }, { accessFlags := 26, nameIndex := 33, descriptorIndex := 34, attributes := #[] }, { accessFlags := 2, nameIndex := 11, descriptorIndex := 12, attributes := #[] }])
  fields := #[{ name := "GAMMA", type := .long, accessFlags := 26, slot := 0, constantValue := 0 }, { name := "DOUBLE_UNIT", type := .double, accessFlags := 26, slot := 1, constantValue := 0 }, { name := "state", type := .long, accessFlags := 2, slot := 0, constantValue := 0 }]
  methods := #[k2m0, k2m1]
  instanceTypes := #[.long]
  staticTypes := #[.long, .double]
  resolved := Array.replicate 44 none
  statics := none }

def pool3 : Array CpInfo := pool [(1, u "java/lang/Cloneable"), (0, .class_ 1), (0, u "java/lang/Object"), (0, .class_ 3)] 3

/-- java/lang/Cloneable -/
def k3 : Class := { plain "java/lang/Cloneable" (some 0) with
  accessFlags := 1537
  interfaces := #[]
  cf := some (fileOf pool3 2 #[] #[] 1537 4 #[] #[])
  fields := #[]
  methods := #[]
  instanceTypes := #[]
  staticTypes := #[]
  resolved := Array.replicate 8 none
  statics := none }

def pool4 : Array CpInfo := pool [(1, u "java/io/Serializable"), (0, .class_ 1), (0, u "java/lang/Object"), (0, .class_ 3)] 3

/-- java/io/Serializable -/
def k4 : Class := { plain "java/io/Serializable" (some 0) with
  accessFlags := 1537
  interfaces := #[]
  cf := some (fileOf pool4 2 #[] #[] 1537 4 #[] #[])
  fields := #[]
  methods := #[]
  instanceTypes := #[]
  staticTypes := #[]
  resolved := Array.replicate 8 none
  statics := none }

/-- the primitive byte -/
def k5 : Class := { plain "byte" none with kind := .primitive 'B', accessFlags := 0x411 }
/-- [B -/
def k6 : Class := { plain "[B" (some 0) with kind := .array 5 .byte, interfaces := #[3, 4], accessFlags := 1041 }

/-- the primitive int -/
def k7 : Class := { plain "int" none with kind := .primitive 'I', accessFlags := 0x411 }
/-- [I -/
def k8 : Class := { plain "[I" (some 0) with kind := .array 7 .int, interfaces := #[3, 4], accessFlags := 1041 }

def heap : Heap := #[]
def classes : Array Class := #[k0, k1, k2, k3, k4, k5, k6, k7, k8]
def interned : List (Array UInt16 × Addr) := []
def slotsUsed : Nat := 0
def theMethod : MethodId := ⟨1, 3⟩
def args0 : Array Value := #[.long 9]
def aboutOver (below : List Frame) : State where
  vm := { classes := classes, interned := interned.toArray }
  heap := heap
  slotsUsed := slotsUsed
  threads := #[{ frames := .invoking theMethod args0 :: below }]
def below0 : List Frame := [.native { method := ⟨0, 0⟩, args := #[] }]
def about1 : State := aboutOver below0
def p0 : Program := .bare "" "" ""
def e0 : Env := launch0.env 0 0 0
theorem w_frames : about1.frames = Frame.invoking theMethod args0 :: below0 := rfl
set_option maxRecDepth 65536 in
theorem w_args : argsFit about1.vm theMethod args0 = true := by decide +kernel
set_option maxRecDepth 65536 in
theorem w_heap : heapFits about1 = true := by decide +kernel
set_option maxRecDepth 65536 in
theorem w_runnable : about1.curStatus? = some .runnable := by decide +kernel
set_option maxRecDepth 65536 in
theorem w_alone : about1.alone = true := by decide +kernel
set_option maxRecDepth 65536 in
theorem w_named : about1.methodNamed? x = some theMethod := by decide +kernel
set_option maxRecDepth 65536 in
theorem w_hears : about1.hears theMethod below0 = true := by decide +kernel
set_option maxRecDepth 65536 in
theorem w_ripe : about1.ripe theMethod args0 below0 = true := by decide +kernel
theorem w_running : about1.status = .running := rfl
set_option maxRecDepth 65536 in
theorem w_room : about1.hasRoom e0.platform room_1 = true :=
  launch0.hasRoom_least _ room_1 (by decide +kernel) (by decide +kernel) (by decide +kernel) (by decide +kernel) (by decide +kernel) (by decide +kernel)
theorem allAtoms_all (ts : List Jvm.Cond) (a : Array Jvm.Value) (st : Jvm.State) : (allAtoms ts).before a st = ts.all (fun c => c.before a st) := by
  induction ts with
  | nil => rfl
  | cons c t ih =>
    show (Jvm.Cond.and c (allAtoms t)).before a st = _
    rw [Jvm.Cond.before_and, ih, List.all_cons]
def words1 : List Jvm.Cond := Jvm.Cond.code x code maxLocals ret :: tables_1
/-- a 'code' word, met by the world's own term for the bytes: nothing is compared byte by byte -/
theorem code_word {y : MethodName} {bytes : ByteArray} {mx : Nat} {rt : Option FieldType} {a : Array Value} {s : State} {m : MethodId} {meth : Method} {c : Code} (h1 : s.methodNamed? y = some m) (h2 : s.vm.method? m = some meth) (h3 : meth.code = some c) (h4 : c.code = bytes)
    (h5 : (c.maxLocals == mx && c.exceptionTable.isEmpty && decide (c.maxStack ≤ mostOperands) && decide (meth.sig.returnType = rt) && !meth.locks && decide (parseMethodDescriptor y.desc = some meth.sig)) = true) : (Jvm.Cond.code y bytes mx rt).before a s = true := by
  simp only [Bool.and_eq_true, beq_iff_eq, Bool.not_eq_true', decide_eq_true_eq] at h5
  obtain ⟨⟨⟨⟨⟨g1, g2⟩, g3⟩, g4⟩, g5⟩, g6⟩ := h5
  simp [Cond.before, Cond.holds, Cond.value, h1, h2, h3, h4, g1, g2, g3, g4, g5, g6]
def isCode : Jvm.Cond → Bool
  | .code _ _ _ _ => true
  | _ => false
theorem all_split {L : List Jvm.Cond} {P : Jvm.Cond → Bool} (h1 : L.all (fun c => isCode c || P c) = true) (h2 : ∀ c ∈ L.filter isCode, P c = true) : L.all P = true := by
  refine List.all_eq_true.mpr fun c hc => ?_
  have h := List.all_eq_true.mp h1 c hc
  rcases Bool.eq_false_or_eq_true (isCode c) with hi | hi
  · exact h2 c (List.mem_filter.mpr ⟨hc, hi⟩)
  · simpa [hi] using h
set_option maxRecDepth 65536 in
theorem w_c0 : (Jvm.Cond.code x code maxLocals ret).before args0 about1 = true := code_word (m := ⟨1, 3⟩) (meth := k1m3) (c := k1c3) (by decide +kernel) rfl rfl rfl (by decide +kernel)
set_option maxRecDepth 65536 in
theorem w_c1 : (Jvm.Cond.code ({ cls := "weirjoin/SplitMix64NextLongPinLaw", name := "inv", desc := "(J)J" } : Jvm.MethodName) method_2_code (4 : Nat) (Option.some Jvm.ClassFile.FieldType.long)).before args0 about1 = true := code_word (m := ⟨1, 1⟩) (meth := k1m1) (c := k1c1) (by decide +kernel) rfl rfl rfl (by decide +kernel)
set_option maxRecDepth 65536 in
theorem w_c2 : (Jvm.Cond.code ({ cls := "weirjoin/SplitMix64", name := "<init>", desc := "(J)V" } : Jvm.MethodName) prog_167_method_1_code (3 : Nat) (Option.none : Option Jvm.ClassFile.FieldType)).before args0 about1 = true := code_word (m := ⟨2, 0⟩) (meth := k2m0) (c := k2c0) (by decide +kernel) rfl rfl rfl (by decide +kernel)
set_option maxRecDepth 65536 in
theorem w_c3 : (Jvm.Cond.code ({ cls := "java/lang/Object", name := "<init>", desc := "()V" } : Jvm.MethodName) object_method_1_code (1 : Nat) (Option.none : Option Jvm.ClassFile.FieldType)).before args0 about1 = true := code_word (m := ⟨0, 0⟩) (meth := k0m0) (c := k0c0) (by decide +kernel) rfl rfl rfl (by decide +kernel)
set_option maxRecDepth 65536 in
theorem w_c4 : (Jvm.Cond.code ({ cls := "weirjoin/SplitMix64", name := "nextLong", desc := "()J" } : Jvm.MethodName) prog_167_method_2_code (3 : Nat) (Option.some Jvm.ClassFile.FieldType.long)).before args0 about1 = true := code_word (m := ⟨2, 1⟩) (meth := k2m1) (c := k2c1) (by decide +kernel) rfl rfl rfl (by decide +kernel)
set_option maxRecDepth 65536 in
theorem w_c5 : (Jvm.Cond.code ({ cls := "weirjoin/SplitMix64NextLongPinLaw", name := "unmix", desc := "(JJJ)J" } : Jvm.MethodName) method_3_code (8 : Nat) (Option.some Jvm.ClassFile.FieldType.long)).before args0 about1 = true := code_word (m := ⟨1, 2⟩) (meth := k1m2) (c := k1c2) (by decide +kernel) rfl rfl rfl (by decide +kernel)
def codes1 : List Jvm.Cond := [Jvm.Cond.code x code maxLocals ret, Jvm.Cond.code ({ cls := "weirjoin/SplitMix64NextLongPinLaw", name := "inv", desc := "(J)J" } : Jvm.MethodName) method_2_code (4 : Nat) (Option.some Jvm.ClassFile.FieldType.long), Jvm.Cond.code ({ cls := "weirjoin/SplitMix64", name := "<init>", desc := "(J)V" } : Jvm.MethodName) prog_167_method_1_code (3 : Nat) (Option.none : Option Jvm.ClassFile.FieldType), Jvm.Cond.code ({ cls := "java/lang/Object", name := "<init>", desc := "()V" } : Jvm.MethodName) object_method_1_code (1 : Nat) (Option.none : Option Jvm.ClassFile.FieldType), Jvm.Cond.code ({ cls := "weirjoin/SplitMix64", name := "nextLong", desc := "()J" } : Jvm.MethodName) prog_167_method_2_code (3 : Nat) (Option.some Jvm.ClassFile.FieldType.long), Jvm.Cond.code ({ cls := "weirjoin/SplitMix64NextLongPinLaw", name := "unmix", desc := "(JJJ)J" } : Jvm.MethodName) method_3_code (8 : Nat) (Option.some Jvm.ClassFile.FieldType.long)]
set_option maxRecDepth 65536 in
theorem codes_eq : words1.filter isCode = codes1 := rfl
theorem w_codes : ∀ c ∈ words1.filter isCode, c.before args0 about1 = true := by
  rw [codes_eq]
  intro c hc
  simp only [codes1, List.mem_cons, List.not_mem_nil, or_false] at hc
  rcases hc with rfl | rfl | rfl | rfl | rfl | rfl
  · exact w_c0
  · exact w_c1
  · exact w_c2
  · exact w_c3
  · exact w_c4
  · exact w_c5
set_option maxRecDepth 65536 in
theorem w_t1 : (words1.take 24).all (fun c => isCode c || c.before args0 about1) = true := by decide +kernel
set_option maxRecDepth 65536 in
theorem w_t2 : (words1.drop 24).all (fun c => isCode c || c.before args0 about1) = true := by decide +kernel
theorem w_tables : (allAtoms (Jvm.Cond.code x code maxLocals ret :: tables_1)).before args0 about1 = true := by
  rw [allAtoms_all]
  show words1.all (fun c => c.before args0 about1) = true
  refine all_split ?_ w_codes
  rw [← List.take_append_drop 24 words1, List.all_append, w_t1, w_t2]
  rfl
set_option maxRecDepth 65536 in
theorem w_case : (Jvm.Cond.and given_1 narrow_1).before args0 about1 = true := by decide +kernel
theorem w_applies : (headSpec (Jvm.Cond.code x code maxLocals ret :: tables_1) room_1).applies x e0.platform about1 = true :=
  (Spec.applies_iff w_frames).mpr ⟨w_running, w_runnable, w_alone, w_named, w_hears, w_ripe, w_room, w_tables⟩
theorem atStart : AtStart classFile x code maxLocals ret World_1 tables_1 room_1 Calls_1 rest_1 Pre_1 launch0 p0 e0 about1 theMethod args0 below0 :=
  ⟨lists_1, trivial, launch0.admits_env _ _ _, launch0.least_env, fairChoices_fair.cas, fairChoices_fair.clock, w_frames, w_args, w_heap, w_applies, trivial, trivial, w_case⟩
end start1
theorem witness_1 : WitnessClaimed_1 := ⟨start1.p0, start1.e0, start1.about1, start1.theMethod, start1.args0, start1.below0, start1.atStart⟩
end Jvm.Pilot.@@N@@
