import JvmDerived
import JvmDerived.Pilot.@@N@@Statement
import JvmDerived.Pilot.@@N@@Code
set_option linter.unusedVariables false
set_option linter.unusedSimpArgs false
namespace Jvm.RoadKit
open Sem ClassFile Op Lib Jvm.Stand Jvm.Free Jvm.LawKit
section OwnKit
variable {p : Program} {l : Launch} {e : Env} {R : Room} {s : State} {m : MethodId} {args : Array Value} {below : List Frame} {meth : Method} {c : Code} {T : State} {locs : List Loc} {cells slots : Nat}
theorem retI (X : Stand p l e R s m args below meth c T locs cells slots) (hx : p.tables.exec = Jvm.exec) {pc : Nat} {Ls : Array Slot} {z : Int32} {rest : List Value} (hret : meth.sig.returnType = some .int) (hd : decode c.code pc = .ok (.ireturn, 1)) {fs : List Frame}
    (hl : ∀ (f : JFrame) (acts : List Action), f.method = m → f.locked = none → f.entered = [] → (doReturn e (T.setTop f) acts (some (.int z))).1 = T.setFrames fs) : Steps p.tables e below (T.setTop (mkF m pc Ls (.int z :: rest))) (T.setFrames fs) := by
  have hm' : T.vm.method? m = some meth := X.method'
  have hn : narrow .int (.int z) = .int z := rfl
  show Steps p.tables e below (T.setTop { method := m, pc := pc, locals := Ls, stack := _ :: rest, locked := none }) _
  jvm_step X.here [X.here.top, hx, hd, hm', hret, hn]
  first | (intro acts; rw [hl _ acts rfl rfl rfl]) | rw [hl _ _ rfl rfl rfl]
  exact Steps.refl _
/-- from this state and frame the run comes to an end that P says -/
def own_Go (tb : Tables) (e : Env) (below : List Frame) (P : State → Outcome → Prop) (T : State) (g : JFrame) : Prop := ∃ s₂ o, Steps tb e below (T.setTop g) s₂ ∧ P s₂ o
theorem own_go {tb : Tables} {P : State → Outcome → Prop} {T' : State} {g g' : JFrame} (st : ∀ t, Steps tb e below (T'.setTop g') t → Steps tb e below (T.setTop g) t) (k : own_Go tb e below P T' g') : own_Go tb e below P T g := by
  obtain ⟨s, o, h, q⟩ := k
  exact ⟨s, o, st s h, q⟩
/-- how a body ends: what it returned, its heap and the places that it wrote stand in Q -/
def own_P (below : List Frame) (s : State) (Q : Option Value → Heap → List Loc → Prop) (k n : Nat) (s₂ : State) (o : Outcome) : Prop := s₂.status = .running ∧ Ended s₂ below o ∧ ∃ v L, o = .returned v ∧ Q v s₂.heap L ∧ FrameEnd s o s₂ L k n
theorem own_leave (X : Stand p l e R s m args below meth c T locs cells slots) {Q : Option Value → Heap → List Loc → Prop} {k n : Nat} {v : Option Value} {g : JFrame} (hlk : meth.locks = false) (hv : meth.sig.returnType = none → v = none) (hq : Q v T.heap locs) (hk : cells ≤ k) (hn : slots ≤ n)
    (hst : ∀ fs, (∀ (f : JFrame) (acts : List Action), f.method = m → f.locked = none → f.entered = [] → (doReturn e (T.setTop f) acts v).1 = T.setFrames fs) → Steps p.tables e below (T.setTop g) (T.setFrames fs)) : own_Go p.tables e below (own_P below s Q k n) T g := by
  obtain ⟨fs, hr, hrun, hended, hW, hsame⟩ := X.leave (v := v) hv hlk
  exact ⟨_, _, hst fs hr, hrun, hended, _, _, rfl, hq, ⟨_, rfl⟩, hW, hsame.mono hk hn⟩
section Rets
variable {Q : Option Value → Heap → List Loc → Prop} {k n : Nat} {pc : Nat} {Ls : Array Slot} {rest : List Value}
theorem own_retI (X : Stand p l e R s m args below meth c T locs cells slots) (hx : p.tables.exec = Jvm.exec) {z : Int32} (hret : meth.sig.returnType = some .int) (hlk : meth.locks = false) (hd : decode c.code pc = .ok (.ireturn, 1)) (hk : cells ≤ k) (hn : slots ≤ n) (hq : Q (some (.int z)) T.heap locs) : own_Go p.tables e below (own_P below s Q k n) T (mkF m pc Ls (.int z :: rest)) :=
  own_leave X hlk (fun h => by rw [hret] at h; cases h) hq hk hn (fun fs hr => retI X hx hret hd hr)
theorem own_retN (X : Stand p l e R s m args below meth c T locs cells slots) (hx : p.tables.exec = Jvm.exec) {z : Int32} {t : FieldType} (hret : meth.sig.returnType = some t) (ht : t = .boolean ∨ t = .byte ∨ t = .char ∨ t = .short) (hlk : meth.locks = false) (hd : decode c.code pc = .ok (.ireturn, 1)) (hk : cells ≤ k) (hn : slots ≤ n) (hq : Q (some (.int (nar t z))) T.heap locs) : own_Go p.tables e below (own_P below s Q k n) T (mkF m pc Ls (.int z :: rest)) :=
  own_leave X hlk (fun h => by rw [hret] at h; cases h) hq hk hn (fun fs hr => retN X hx hret ht hd hr)
theorem own_retJ (X : Stand p l e R s m args below meth c T locs cells slots) (hx : p.tables.exec = Jvm.exec) {z : Int64} (hret : meth.sig.returnType = some .long) (hlk : meth.locks = false) (hd : decode c.code pc = .ok (.lreturn, 1)) (hk : cells ≤ k) (hn : slots ≤ n) (hq : Q (some (.long z)) T.heap locs) : own_Go p.tables e below (own_P below s Q k n) T (mkF m pc Ls (.long z :: rest)) :=
  own_leave X hlk (fun h => by rw [hret] at h; cases h) hq hk hn (fun fs hr => retOut X hx hret rfl (Or.inr (Or.inl ⟨rfl, rfl, z, rfl⟩)) hd hr)
theorem own_narR {t : FieldType} {v : Value} (ht : t.isReference = true) : narrow t v = v := by
  cases t <;> simp [FieldType.isReference] at ht <;> rfl
theorem own_retR (X : Stand p l e R s m args below meth c T locs cells slots) (hx : p.tables.exec = Jvm.exec) {z : Value} {t : FieldType} (hret : meth.sig.returnType = some t) (ht : t.isReference = true) (hz : z.isRef = true) (hlk : meth.locks = false) (hd : decode c.code pc = .ok (.areturn, 1)) (hk : cells ≤ k) (hn : slots ≤ n) (hq : Q (some z) T.heap locs) : own_Go p.tables e below (own_P below s Q k n) T (mkF m pc Ls (z :: rest)) :=
  own_leave X hlk (fun h => by rw [hret] at h; cases h) hq hk hn (fun fs hr => retOut X hx hret (own_narR ht) (Or.inr (Or.inr (Or.inr (Or.inr ⟨rfl, ht, hz⟩)))) hd hr)
theorem own_retV (X : Stand p l e R s m args below meth c T locs cells slots) (hx : p.tables.exec = Jvm.exec) (hret : meth.sig.returnType = none) (hlk : meth.locks = false) (hd : decode c.code pc = .ok (.return_, 1)) (hk : cells ≤ k) (hn : slots ≤ n) (hq : Q none T.heap locs) : own_Go p.tables e below (own_P below s Q k n) T (mkF m pc Ls []) :=
  own_leave X hlk (fun _ => rfl) hq hk hn (fun fs hr => X.returnOut hx hret hd hr)
end Rets
/-- a body's contract at one call: its arguments, the heap at the call, what it leaves -/
abbrev own_Met (l : Launch) (y : MethodName) (bytes : ByteArray) (maxL : Nat) (ret : Option FieldType) (ws : List Cond) (rm : Room) (Z : State) (as' : Array Value) (h0 : Heap) (Q : Option Value → Heap → List Loc → Prop) : Prop :=
  MetFree l y (head1 (Cond.code y bytes maxL ret :: ws) rm) (fun a U => a = as' ∧ Z.Warmed39 U.vm ∧ U.heap = h0) (fun _ _ _ _ _ => True) (fun _ U o U' => ∃ v L, o = .returned v ∧ Q v U'.heap L ∧ FrameEnd U o U' L rm.cells rm.slots)
theorem own_body {y : MethodName} {bytes : ByteArray} {maxL : Nat} {ret : Option FieldType} {ws : List Cond} {rm : Room} {Z : State} {as' : Array Value} {h0 : Heap} {Q : Option Value → Heap → List Loc → Prop} (hpl : plainFor y = true)
    (H : ∀ (p : Program) (e : Env) (s : State) (m : MethodId) (below : List Frame) (meth : Method) (c : Code) (s₁ : State), Stand p l e rm s m as' below meth c s₁ [] 0 0 → p.tables.exec = Jvm.exec → c.code = bytes → c.maxLocals = maxL → s.vm.findClass y.cls = some m.cls → meth.name = y.name → meth.sig.returnType = ret → meth.locks = false → Z.Warmed39 s.vm → s₁.heap = h0 → own_Go p.tables e below (own_P below s Q rm.cells rm.slots) s₁ (entryFrame m as' maxL)) :
    own_Met l y bytes maxL ret ws rm Z as' h0 Q := by
  refine MetFree.of_bodySF hpl hisR ?_
  intro p e s m args below meth c s₁ Bd hml hP hK
  obtain ⟨rfl, hZ, hh⟩ := hP
  exact H p e s m below meth c s₁ (Stand.of_body Bd) Bd.exec Bd.bytes hml (findClass_of_methodNamed Bd.named) (name_of_methodNamed Bd.named Bd.method).1 Bd.returns Bd.notSynchronized hZ (by rw [← hh, Bd.state]; rfl)
theorem own_cast {tb : Tables} {P : State → Outcome → Prop} {g g' : JFrame} (q : g = g') (k : own_Go tb e below P T g') : own_Go tb e below P T g := q ▸ k
section Calls
variable {Z : State} {a0 : Array Value} {h : Heap} {own : String} {index : Nat} {y : MethodName} {bytes : ByteArray} {maxL : Nat} {ret : Option FieldType} {rm : Room} {Q : Option Value → Heap → List Loc → Prop}
theorem own_callS (X : Stand p l e R s m args below meth c T locs cells slots) (hx : p.tables.exec = Jvm.exec) (hZ : Z.Warmed39 s.vm) (hown : s.vm.findClass own = some m.cls) (w1 : (Cond.methodLink own index y).before a0 Z = true) (w2 : (Cond.static y).before a0 Z = true) (w3 : (Cond.initialized y.cls).before a0 Z = true) (w4 : (Cond.code y bytes maxL ret).before a0 Z = true)
    (hy : y.cls ≠ "java/lang/invoke/MethodHandle" ∧ y.cls ≠ "java/lang/invoke/VarHandle") (eT : T.heap = h) {argsL rest : List Value} (hM : own_Met l y bytes maxL ret [] rm Z argsL.toArray h Q) (W : Nat) (hf : rm.frames + 1 ≤ R.frames) (hl : W + (maxL + 11) + rm.locals ≤ R.locals) (hc : cells + rm.cells ≤ R.cells) (hs : slots + rm.slots ≤ R.slots)
    {g : JFrame} (hg : g.method = m) (hsize : g.locals.size = c.maxLocals) (hlen : ∀ sig, parseMethodDescriptor y.desc = some sig → argsL.length = sig.parameters.length) (hstack : g.stack = argsL.reverse ++ rest) (hW : 2 * g.monitorRoom + (rest.map fun v => v.category).sum ≤ W) (hdg : decode c.code g.pc = .ok (.invokestatic index, 3)) :
    ∃ (v : Option Value) (T' : State) (h' : Heap) (L : List Loc), Stand p l e R s m args below meth c T' (locs ++ L) (cells + rm.cells) (slots + rm.slots) ∧ T'.heap = h' ∧ Q v h' L ∧ ∀ t, Steps p.tables e below (T'.setTop { g with pc := g.pc + 3, stack := v.toList ++ rest }) t → Steps p.tables e below (T.setTop g) t := by
  obtain ⟨v, _, ⟨T', L', k', n'⟩, -, X', ⟨Lc, hQ, l', y', z'⟩, st⟩ := Jvm.LawKit.callS X hx hown (mvT hZ w1) (mvT hZ w2) (mvT hZ w3) (mvT hZ w4) hy (backOf (W := W) hM hZ w4 w3 hf hl) hg hsize hlen hstack hW hdg (fun _ _ => ⟨rfl, eT, hc, hs⟩)
  dsimp only [Pt.U, Pt.locs, Pt.cells, Pt.slots] at X' l' y' z' st hQ
  subst l' y' z'
  exact ⟨v, T', _, Lc, X', rfl, hQ, st⟩
theorem own_callI (X : Stand p l e R s m args below meth c T locs cells slots) (hx : p.tables.exec = Jvm.exec) (hZ : Z.Warmed39 s.vm) (hn : y.name = "<init>") (hown : s.vm.findClass own = some m.cls) (w1 : (Cond.methodLink own index y).before a0 Z = true) (w2 : (Cond.instanceMethod y).before a0 Z = true) (w3 : (Cond.initialized y.cls).before a0 Z = true) (w4 : (Cond.code y bytes maxL none).before a0 Z = true)
    (hy : y.cls ≠ "java/lang/invoke/MethodHandle" ∧ y.cls ≠ "java/lang/invoke/VarHandle") (eT : T.heap = h) {a : Addr} {argsL rest : List Value} (hM : own_Met l y bytes maxL none [] rm Z (.ref a :: argsL).toArray h Q) (W : Nat) (hf : rm.frames + 1 ≤ R.frames) (hl : W + (maxL + 11) + rm.locals ≤ R.locals) (hc : cells + rm.cells ≤ R.cells) (hs : slots + rm.slots ≤ R.slots)
    {g : JFrame} (hg : g.method = m) (hsize : g.locals.size = c.maxLocals) (hlen : ∀ sig, parseMethodDescriptor y.desc = some sig → argsL.length = sig.parameters.length) (hstack : g.stack = argsL.reverse ++ .ref a :: rest) (hW : 2 * g.monitorRoom + (rest.map fun v => v.category).sum ≤ W) (hdg : decode c.code g.pc = .ok (.invokespecial index, 3)) :
    ∃ (v : Option Value) (T' : State) (h' : Heap) (L : List Loc), Stand p l e R s m args below meth c T' (locs ++ L) (cells + rm.cells) (slots + rm.slots) ∧ T'.heap = h' ∧ Q v h' L ∧ ∀ t, Steps p.tables e below (T'.setTop { g with pc := g.pc + 3, stack := v.toList ++ rest }) t → Steps p.tables e below (T.setTop g) t := by
  obtain ⟨v, _, ⟨T', L', k', n'⟩, -, X', ⟨Lc, hQ, l', y', z'⟩, st⟩ := X.specialBack hx hn hown (mvT hZ w1) (mvT hZ w2) (mvT hZ w4) hy (backOf (W := W) hM hZ w4 w3 hf hl) hg hsize (Steps.refl _) hlen hstack hW hdg (fun _ _ => ⟨rfl, eT, hc, hs⟩)
  dsimp only [Pt.U, Pt.locs, Pt.cells, Pt.slots] at X' l' y' z' st hQ
  subst l' y' z'
  exact ⟨v, T', _, Lc, X', rfl, hQ, fun t k => st.trans k⟩
theorem own_callV {C : String} {z : MethodName} (X : Stand p l e R s m args below meth c T locs cells slots) (hx : p.tables.exec = Jvm.exec) (hZ : Z.Warmed39 s.vm) (hown : s.vm.findClass own = some m.cls) (w1 : (Cond.methodLink own index y).before a0 Z = true) (w2 : (Cond.declares y).before a0 Z = true) (w3 : (Cond.selects C y z).before a0 Z = true) (hnf : NotFace s y) (w5 : (Cond.instanceMethod z).before a0 Z = true) (w6 : (Cond.initialized z.cls).before a0 Z = true) (w4 : (Cond.code z bytes maxL ret).before a0 Z = true)
    (hy : y.cls ≠ "java/lang/invoke/MethodHandle" ∧ y.cls ≠ "java/lang/invoke/VarHandle") (eT : T.heap = h) {a : Addr} (E : Exa Z h a C) {argsL rest : List Value} (hM : own_Met l z bytes maxL ret [] rm Z (.ref a :: argsL).toArray h Q) (W : Nat) (hf : rm.frames + 1 ≤ R.frames) (hl : W + (maxL + 11) + rm.locals ≤ R.locals) (hc : cells + rm.cells ≤ R.cells) (hs : slots + rm.slots ≤ R.slots)
    {g : JFrame} (hg : g.method = m) (hsize : g.locals.size = c.maxLocals) (hlen : ∀ sig, parseMethodDescriptor y.desc = some sig → argsL.length = sig.parameters.length) (hstack : g.stack = argsL.reverse ++ .ref a :: rest) (hW : 2 * g.monitorRoom + (rest.map fun v => v.category).sum ≤ W) (hdg : decode c.code g.pc = .ok (.invokevirtual index, 3)) :
    ∃ (v : Option Value) (T' : State) (h' : Heap) (L : List Loc), Stand p l e R s m args below meth c T' (locs ++ L) (cells + rm.cells) (slots + rm.slots) ∧ T'.heap = h' ∧ Q v h' L ∧ ∀ t, Steps p.tables e below (T'.setTop { g with pc := g.pc + 3, stack := v.toList ++ rest }) t → Steps p.tables e below (T.setTop g) t := by
  obtain ⟨cq, kq, qa, qb, qc⟩ := isOf hZ eT E
  obtain ⟨v, _, ⟨T', L', k', n'⟩, -, X', ⟨Lc, hQ, l', y', z'⟩, st⟩ := X.virtualBack hx hown (mvT hZ w1) (mvT hZ w2) hnf (mvT hZ w3) (mvT hZ w5) hy (backOf (W := W) hM hZ w4 w6 hf hl) qa qc hg hsize (Steps.refl _) hlen hstack hW hdg (fun _ _ => ⟨rfl, eT, hc, hs⟩)
  dsimp only [Pt.U, Pt.locs, Pt.cells, Pt.slots] at X' l' y' z' st hQ
  subst l' y' z'
  exact ⟨v, T', _, Lc, X', rfl, hQ, fun t k => st.trans k⟩
theorem own_callP (X : Stand p l e R s m args below meth c T locs cells slots) (hx : p.tables.exec = Jvm.exec) (hZ : Z.Warmed39 s.vm) (hown : s.vm.findClass own = some m.cls) (w1 : (Cond.methodLink own index y).before a0 Z = true) (w2 : (Cond.instanceMethod y).before a0 Z = true) (w3 : (Cond.selects y.cls y y).before a0 Z = true) (w5 : (Cond.privateMethod y).before a0 Z = true) (w6 : (Cond.initialized y.cls).before a0 Z = true) (w4 : (Cond.code y bytes maxL ret).before a0 Z = true)
    (hy : y.cls ≠ "java/lang/invoke/MethodHandle" ∧ y.cls ≠ "java/lang/invoke/VarHandle") (eT : T.heap = h) {a : Addr} {C : String} (E : Exa Z h a C) {argsL rest : List Value} (hM : own_Met l y bytes maxL ret [] rm Z (.ref a :: argsL).toArray h Q) (W : Nat) (hf : rm.frames + 1 ≤ R.frames) (hl : W + (maxL + 11) + rm.locals ≤ R.locals) (hc : cells + rm.cells ≤ R.cells) (hs : slots + rm.slots ≤ R.slots)
    {g : JFrame} (hg : g.method = m) (hsize : g.locals.size = c.maxLocals) (hlen : ∀ sig, parseMethodDescriptor y.desc = some sig → argsL.length = sig.parameters.length) (hstack : g.stack = argsL.reverse ++ .ref a :: rest) (hW : 2 * g.monitorRoom + (rest.map fun v => v.category).sum ≤ W) (hdg : decode c.code g.pc = .ok (.invokevirtual index, 3)) :
    ∃ (v : Option Value) (T' : State) (h' : Heap) (L : List Loc), Stand p l e R s m args below meth c T' (locs ++ L) (cells + rm.cells) (slots + rm.slots) ∧ T'.heap = h' ∧ Q v h' L ∧ ∀ t, Steps p.tables e below (T'.setTop { g with pc := g.pc + 3, stack := v.toList ++ rest }) t → Steps p.tables e below (T.setTop g) t := by
  obtain ⟨cq, q1, q2⟩ := E.cell
  obtain ⟨v, _, ⟨T', L', k', n'⟩, -, X', ⟨Lc, hQ, l', y', z'⟩, st⟩ := X.privateBack hx hown (mvT hZ w1) (mvT hZ w2) (mvT hZ w3) (Cond.privateMethod_at (mvP hZ w5 (args := #[]))) (mvT hZ w4) hy (backOf (W := W) hM hZ w4 w6 hf hl) hg hsize (Steps.refl _) (by rw [eT]; exact q1) q2 hlen hstack hW hdg (fun _ _ => ⟨rfl, eT, hc, hs⟩)
  dsimp only [Pt.U, Pt.locs, Pt.cells, Pt.slots] at X' l' y' z' st hQ
  subst l' y' z'
  exact ⟨v, T', _, Lc, X', rfl, hQ, fun t k => st.trans k⟩
theorem own_callF {C : String} {z : MethodName} {count : Nat} (X : Stand p l e R s m args below meth c T locs cells slots) (hx : p.tables.exec = Jvm.exec) (hZ : Z.Warmed39 s.vm) (hown : s.vm.findClass own = some m.cls) (w1 : (Cond.methodLink own index y).before a0 Z = true) (w2 : (Cond.declares y).before a0 Z = true) (w3 : (Cond.interfaceMethod y.cls y.cls y.name y.desc).before args s = true) (w5 : (Cond.selects C y z).before a0 Z = true) (w7 : (Cond.instanceMethod z).before a0 Z = true) (w8 : (Cond.publicMethod z).before a0 Z = true) (w9 : (Cond.unhidden C y.name y.desc).before a0 Z = true) (w10 : (Cond.castable C y.cls).before a0 Z = true) (w6 : (Cond.initialized z.cls).before a0 Z = true) (w4 : (Cond.code z bytes maxL ret).before a0 Z = true)
    (hy : y.cls ≠ "java/lang/invoke/MethodHandle" ∧ y.cls ≠ "java/lang/invoke/VarHandle") (eT : T.heap = h) {a : Addr} (E : Exa Z h a C) {argsL rest : List Value} (hM : own_Met l z bytes maxL ret [] rm Z (.ref a :: argsL).toArray h Q) (W : Nat) (hf : rm.frames + 1 ≤ R.frames) (hl : W + (maxL + 11) + rm.locals ≤ R.locals) (hc : cells + rm.cells ≤ R.cells) (hs : slots + rm.slots ≤ R.slots)
    {g : JFrame} (hg : g.method = m) (hsize : g.locals.size = c.maxLocals) (hlen : ∀ sig, parseMethodDescriptor y.desc = some sig → argsL.length = sig.parameters.length) (hstack : g.stack = argsL.reverse ++ .ref a :: rest) (hW : 2 * g.monitorRoom + (rest.map fun v => v.category).sum ≤ W) (hdg : decode c.code g.pc = .ok (.invokeinterface index count, 5)) :
    ∃ (v : Option Value) (T' : State) (h' : Heap) (L : List Loc), Stand p l e R s m args below meth c T' (locs ++ L) (cells + rm.cells) (slots + rm.slots) ∧ T'.heap = h' ∧ Q v h' L ∧ ∀ t, Steps p.tables e below (T'.setTop { g with pc := g.pc + 5, stack := v.toList ++ rest }) t → Steps p.tables e below (T.setTop g) t := by
  obtain ⟨cq, kq, qa, qb, qc⟩ := isOf hZ eT E
  obtain ⟨v, _, ⟨T', L', k', n'⟩, -, X', ⟨Lc, hQ, l', y', z'⟩, st⟩ := X.interfaceBack hx hown (mvT hZ w1) (mvT hZ w2) w3 (mvT hZ w5) (mvT hZ w7) (mvT hZ w8) (mvT hZ w9) (mvT hZ w10) hy (backOf (W := W) hM hZ w4 w6 hf hl) qa qb qc hg hsize (Steps.refl _) hlen hstack hW hdg (fun _ _ => ⟨rfl, eT, hc, hs⟩)
  dsimp only [Pt.U, Pt.locs, Pt.cells, Pt.slots] at X' l' y' z' st hQ
  subst l' y' z'
  exact ⟨v, T', _, Lc, X', rfl, hQ, fun t k => st.trans k⟩
end Calls
end OwnKit
end Jvm.RoadKit
namespace Jvm.Pilot.@@N@@
open Jvm Jvm.ClassFile Sem Op Lib Jvm.Free Jvm.Stand Jvm.LawKit Jvm.RoadKit Bundle Jvm.Pilot.@@N@@.Jvm.D
def own_a (f : Nat → Int32) (p en : Int32) : Int32 := if p < en then f (p).toNatClampNeg &&& (255 : Int32) else (-1 : Int32)
def own_hr (q e : Int32) : Int32 := if q < e then (1 : Int32) else (0 : Int32)
def own_spec (f : Nat → Int32) (s en : Int32) : Int32 × Int32 := if (own_a f s en) < (0 : Int32) then ((-1 : Int32), en - s) else if (own_a f s en) < (128 : Int32) then ((own_a f s en), (1 : Int32)) else if (own_a f (s + (1 : Int32)) en) < (0 : Int32) then ((-1 : Int32), en - s) else if (own_a f (s + (1 : Int32)) en) < (128 : Int32) then ((((own_a f s en) - (128 : Int32)) + ((own_a f (s + (1 : Int32)) en) * (128 : Int32))), (2 : Int32)) else if (own_a f (s + (2 : Int32)) en) < (0 : Int32) then ((-1 : Int32), en - s) else if (own_a f (s + (2 : Int32)) en) < (128 : Int32) then (((((own_a f s en) - (128 : Int32)) + (((own_a f (s + (1 : Int32)) en) - (128 : Int32)) * (128 : Int32))) + ((own_a f (s + (2 : Int32)) en) * (16384 : Int32))), (3 : Int32)) else if (own_a f (s + (3 : Int32)) en) < (0 : Int32) then ((-1 : Int32), en - s) else if (own_a f (s + (3 : Int32)) en) < (128 : Int32) then ((((((own_a f s en) - (128 : Int32)) + (((own_a f (s + (1 : Int32)) en) - (128 : Int32)) * (128 : Int32))) + (((own_a f (s + (2 : Int32)) en) - (128 : Int32)) * (16384 : Int32))) + ((own_a f (s + (3 : Int32)) en) * (2097152 : Int32))), (4 : Int32)) else if (own_a f (s + (4 : Int32)) en) < (0 : Int32) then ((-1 : Int32), en - s) else if (own_a f (s + (4 : Int32)) en) < (128 : Int32) then (if (7 : Int32) < (own_a f (s + (4 : Int32)) en) then ((-1 : Int32), (5 : Int32)) else (((((((own_a f s en) - (128 : Int32)) + (((own_a f (s + (1 : Int32)) en) - (128 : Int32)) * (128 : Int32))) + (((own_a f (s + (2 : Int32)) en) - (128 : Int32)) * (16384 : Int32))) + (((own_a f (s + (3 : Int32)) en) - (128 : Int32)) * (2097152 : Int32))) + ((own_a f (s + (4 : Int32)) en) * (268435456 : Int32))), (5 : Int32))) else ((-1 : Int32), (5 : Int32))
theorem own_e0 : (0 : Int32).toInt = 0 := by decide
theorem own_lt {x y : Int32} (h : x.toInt < y.toInt) : x < y := Int32.lt_iff_toInt_lt.mpr h
theorem own_nlt {x y : Int32} (h : y.toInt ≤ x.toInt) : ¬ x < y := fun q => by rw [Int32.lt_iff_toInt_lt] at q; omega
theorem own_nlt' {y : Int32} (h : ¬ (7 : Int32) < y) : y.toInt ≤ 7 := by
  rw [Int32.lt_iff_toInt_lt] at h
  have e : (7 : Int32).toInt = 7 := by decide
  omega
theorem own_inc (j n : Int32) (h : j < n) : (j + (1 : Int32)).toInt = j.toInt + 1 := by
  have a := c_iadd j (1 : Int32)
  have r := rng32 j
  have r2 := rng32 n
  have r3 := rng32 (j + (1 : Int32))
  have e1 : (1 : Int32).toInt = 1 := by decide
  rw [e1] at a
  rw [Int32.lt_iff_toInt_lt] at h
  omega
theorem own_cancel (s e : Int32) : s + (e - s) = e := Int32.toInt_inj.mp (by
  have a := c_iadd s (e - s)
  have b := c_isub e s
  have r1 := rng32 s
  have r2 := rng32 e
  have r3 := rng32 (s + (e - s))
  omega)
theorem own_tA {f : Nat → Int32} {p sj en c : Int32} (hsj : sj.toInt = p.toInt) (hlt : p.toInt < en.toInt) (hc : c = (f (p).toNatClampNeg &&& (255 : Int32))) : own_a f sj en = c := by
  have e : sj = p := Int32.toInt_inj.mp hsj
  rw [own_a, e, if_pos (own_lt hlt), hc]
theorem own_tC {x c : Int32} (hc : c = (x &&& (255 : Int32))) : 0 ≤ c.toInt ∧ c.toInt ≤ 255 := by
  have a := c_mask x (255 : Int32) 8 (by decide) (by decide)
  rw [hc]
  omega
theorem own_256 : ∀ k : Fin 256, ((Int32.ofNat k.1 &&& (128 : Int32)) = (0 : Int32)) ↔ k.1 < 128 := by decide +kernel
theorem own_t128 {c : Int32} (h : 0 ≤ c.toInt ∧ c.toInt ≤ 255) : (c &&& (128 : Int32)) = (0 : Int32) ↔ c.toInt < 128 := by
  have e : c = Int32.ofNat c.toInt.toNat := Int32.toInt_inj.mp (by rw [Int32.toInt_ofNat_of_lt (by omega)]; omega)
  have q := own_256 ⟨c.toInt.toNat, by omega⟩
  rw [← e] at q
  rw [q]
  show c.toInt.toNat < 128 ↔ _
  omega
theorem own_sk0 {s : Int32} (h : 0 ≤ s.toInt) (h' : s.toInt ≤ 1000) : (s).toInt = s.toInt + 0 := by omega
theorem own_sk1 {s : Int32} (h : 0 ≤ s.toInt) (h' : s.toInt ≤ 1000) : (s + (1 : Int32)).toInt = s.toInt + 1 := by
  have a := c_iadd s (1 : Int32)
  have r := rng32 (s + (1 : Int32))
  have e : (1 : Int32).toInt = 1 := by decide
  rw [e] at a
  omega
theorem own_step1 {s p : Int32} (h : 0 ≤ s.toInt) (h' : s.toInt ≤ 1000) (u : p.toInt = s.toInt + 1) : p = s + (1 : Int32) := Int32.toInt_inj.mp (by rw [own_sk1 h h', u])
theorem own_sk2 {s : Int32} (h : 0 ≤ s.toInt) (h' : s.toInt ≤ 1000) : (s + (2 : Int32)).toInt = s.toInt + 2 := by
  have a := c_iadd s (2 : Int32)
  have r := rng32 (s + (2 : Int32))
  have e : (2 : Int32).toInt = 2 := by decide
  rw [e] at a
  omega
theorem own_step2 {s p : Int32} (h : 0 ≤ s.toInt) (h' : s.toInt ≤ 1000) (u : p.toInt = s.toInt + 2) : p = s + (2 : Int32) := Int32.toInt_inj.mp (by rw [own_sk2 h h', u])
theorem own_sk3 {s : Int32} (h : 0 ≤ s.toInt) (h' : s.toInt ≤ 1000) : (s + (3 : Int32)).toInt = s.toInt + 3 := by
  have a := c_iadd s (3 : Int32)
  have r := rng32 (s + (3 : Int32))
  have e : (3 : Int32).toInt = 3 := by decide
  rw [e] at a
  omega
theorem own_step3 {s p : Int32} (h : 0 ≤ s.toInt) (h' : s.toInt ≤ 1000) (u : p.toInt = s.toInt + 3) : p = s + (3 : Int32) := Int32.toInt_inj.mp (by rw [own_sk3 h h', u])
theorem own_sk4 {s : Int32} (h : 0 ≤ s.toInt) (h' : s.toInt ≤ 1000) : (s + (4 : Int32)).toInt = s.toInt + 4 := by
  have a := c_iadd s (4 : Int32)
  have r := rng32 (s + (4 : Int32))
  have e : (4 : Int32).toInt = 4 := by decide
  rw [e] at a
  omega
theorem own_step4 {s p : Int32} (h : 0 ≤ s.toInt) (h' : s.toInt ≤ 1000) (u : p.toInt = s.toInt + 4) : p = s + (4 : Int32) := Int32.toInt_inj.mp (by rw [own_sk4 h h', u])
theorem own_sk5 {s : Int32} (h : 0 ≤ s.toInt) (h' : s.toInt ≤ 1000) : (s + (5 : Int32)).toInt = s.toInt + 5 := by
  have a := c_iadd s (5 : Int32)
  have r := rng32 (s + (5 : Int32))
  have e : (5 : Int32).toInt = 5 := by decide
  rw [e] at a
  omega
theorem own_step5 {s p : Int32} (h : 0 ≤ s.toInt) (h' : s.toInt ≤ 1000) (u : p.toInt = s.toInt + 5) : p = s + (5 : Int32) := Int32.toInt_inj.mp (by rw [own_sk5 h h', u])
theorem own_128 : (128 : Int32).toInt = 128 := by decide
theorem own_lo {x : Int32} (h : 128 ≤ x.toInt) : ¬ x < (0 : Int32) ∧ ¬ x < (128 : Int32) := ⟨own_nlt (by rw [own_e0]; omega), own_nlt (by rw [own_128]; exact h)⟩
theorem own_spA0 {f : Nat → Int32} {s en : Int32}  (hz : ¬ s < en) : own_spec f s en = ((-1 : Int32), en - s) := by
  have z : own_a f s en = (-1 : Int32) := by rw [own_a, if_neg hz]
  unfold own_spec
  rw [z, if_pos (by decide)]
theorem own_spB0 {f : Nat → Int32} {s en : Int32} {c0 : Int32} (ha0 : own_a f s en = c0) (hd : 0 ≤ c0.toInt) (hh : c0.toInt < 128) : own_spec f s en = (c0, (1 : Int32)) := by
  have n1 : ¬ c0 < (0 : Int32) := own_nlt (by rw [own_e0]; omega)
  have n2 : c0 < (128 : Int32) := own_lt (by rw [own_128]; exact hh)
  unfold own_spec
  rw [ha0, if_neg n1, if_pos n2]
theorem own_spA1 {f : Nat → Int32} {s en : Int32} {c0 : Int32} (ha0 : own_a f s en = c0) (hb0 : 128 ≤ c0.toInt) (hz : ¬ (s + (1 : Int32)) < en) : own_spec f s en = ((-1 : Int32), en - s) := by
  have z : own_a f (s + (1 : Int32)) en = (-1 : Int32) := by rw [own_a, if_neg hz]
  unfold own_spec
  rw [ha0]
  rw [z, if_neg (own_lo hb0).1, if_neg (own_lo hb0).2, if_pos (by decide)]
theorem own_spB1 {f : Nat → Int32} {s en : Int32} {c0 c1 : Int32} (ha0 : own_a f s en = c0) (hb0 : 128 ≤ c0.toInt) (ha1 : own_a f (s + (1 : Int32)) en = c1) (hd : 0 ≤ c1.toInt) (hh : c1.toInt < 128) : own_spec f s en = (((c0 - (128 : Int32)) + (c1 * (128 : Int32))), (2 : Int32)) := by
  have n1 : ¬ c1 < (0 : Int32) := own_nlt (by rw [own_e0]; omega)
  have n2 : c1 < (128 : Int32) := own_lt (by rw [own_128]; exact hh)
  unfold own_spec
  rw [ha0, ha1, if_neg (own_lo hb0).1, if_neg (own_lo hb0).2, if_neg n1, if_pos n2]
theorem own_spA2 {f : Nat → Int32} {s en : Int32} {c0 c1 : Int32} (ha0 : own_a f s en = c0) (hb0 : 128 ≤ c0.toInt) (ha1 : own_a f (s + (1 : Int32)) en = c1) (hb1 : 128 ≤ c1.toInt) (hz : ¬ (s + (2 : Int32)) < en) : own_spec f s en = ((-1 : Int32), en - s) := by
  have z : own_a f (s + (2 : Int32)) en = (-1 : Int32) := by rw [own_a, if_neg hz]
  unfold own_spec
  rw [ha0, ha1]
  rw [z, if_neg (own_lo hb0).1, if_neg (own_lo hb0).2, if_neg (own_lo hb1).1, if_neg (own_lo hb1).2, if_pos (by decide)]
theorem own_spB2 {f : Nat → Int32} {s en : Int32} {c0 c1 c2 : Int32} (ha0 : own_a f s en = c0) (hb0 : 128 ≤ c0.toInt) (ha1 : own_a f (s + (1 : Int32)) en = c1) (hb1 : 128 ≤ c1.toInt) (ha2 : own_a f (s + (2 : Int32)) en = c2) (hd : 0 ≤ c2.toInt) (hh : c2.toInt < 128) : own_spec f s en = ((((c0 - (128 : Int32)) + ((c1 - (128 : Int32)) * (128 : Int32))) + (c2 * (16384 : Int32))), (3 : Int32)) := by
  have n1 : ¬ c2 < (0 : Int32) := own_nlt (by rw [own_e0]; omega)
  have n2 : c2 < (128 : Int32) := own_lt (by rw [own_128]; exact hh)
  unfold own_spec
  rw [ha0, ha1, ha2, if_neg (own_lo hb0).1, if_neg (own_lo hb0).2, if_neg (own_lo hb1).1, if_neg (own_lo hb1).2, if_neg n1, if_pos n2]
theorem own_spA3 {f : Nat → Int32} {s en : Int32} {c0 c1 c2 : Int32} (ha0 : own_a f s en = c0) (hb0 : 128 ≤ c0.toInt) (ha1 : own_a f (s + (1 : Int32)) en = c1) (hb1 : 128 ≤ c1.toInt) (ha2 : own_a f (s + (2 : Int32)) en = c2) (hb2 : 128 ≤ c2.toInt) (hz : ¬ (s + (3 : Int32)) < en) : own_spec f s en = ((-1 : Int32), en - s) := by
  have z : own_a f (s + (3 : Int32)) en = (-1 : Int32) := by rw [own_a, if_neg hz]
  unfold own_spec
  rw [ha0, ha1, ha2]
  rw [z, if_neg (own_lo hb0).1, if_neg (own_lo hb0).2, if_neg (own_lo hb1).1, if_neg (own_lo hb1).2, if_neg (own_lo hb2).1, if_neg (own_lo hb2).2, if_pos (by decide)]
theorem own_spB3 {f : Nat → Int32} {s en : Int32} {c0 c1 c2 c3 : Int32} (ha0 : own_a f s en = c0) (hb0 : 128 ≤ c0.toInt) (ha1 : own_a f (s + (1 : Int32)) en = c1) (hb1 : 128 ≤ c1.toInt) (ha2 : own_a f (s + (2 : Int32)) en = c2) (hb2 : 128 ≤ c2.toInt) (ha3 : own_a f (s + (3 : Int32)) en = c3) (hd : 0 ≤ c3.toInt) (hh : c3.toInt < 128) : own_spec f s en = (((((c0 - (128 : Int32)) + ((c1 - (128 : Int32)) * (128 : Int32))) + ((c2 - (128 : Int32)) * (16384 : Int32))) + (c3 * (2097152 : Int32))), (4 : Int32)) := by
  have n1 : ¬ c3 < (0 : Int32) := own_nlt (by rw [own_e0]; omega)
  have n2 : c3 < (128 : Int32) := own_lt (by rw [own_128]; exact hh)
  unfold own_spec
  rw [ha0, ha1, ha2, ha3, if_neg (own_lo hb0).1, if_neg (own_lo hb0).2, if_neg (own_lo hb1).1, if_neg (own_lo hb1).2, if_neg (own_lo hb2).1, if_neg (own_lo hb2).2, if_neg n1, if_pos n2]
theorem own_spA4 {f : Nat → Int32} {s en : Int32} {c0 c1 c2 c3 : Int32} (ha0 : own_a f s en = c0) (hb0 : 128 ≤ c0.toInt) (ha1 : own_a f (s + (1 : Int32)) en = c1) (hb1 : 128 ≤ c1.toInt) (ha2 : own_a f (s + (2 : Int32)) en = c2) (hb2 : 128 ≤ c2.toInt) (ha3 : own_a f (s + (3 : Int32)) en = c3) (hb3 : 128 ≤ c3.toInt) (hz : ¬ (s + (4 : Int32)) < en) : own_spec f s en = ((-1 : Int32), en - s) := by
  have z : own_a f (s + (4 : Int32)) en = (-1 : Int32) := by rw [own_a, if_neg hz]
  unfold own_spec
  rw [ha0, ha1, ha2, ha3]
  rw [z, if_neg (own_lo hb0).1, if_neg (own_lo hb0).2, if_neg (own_lo hb1).1, if_neg (own_lo hb1).2, if_neg (own_lo hb2).1, if_neg (own_lo hb2).2, if_neg (own_lo hb3).1, if_neg (own_lo hb3).2, if_pos (by decide)]
theorem own_spB4 {f : Nat → Int32} {s en : Int32} {c0 c1 c2 c3 c4 : Int32} (ha0 : own_a f s en = c0) (hb0 : 128 ≤ c0.toInt) (ha1 : own_a f (s + (1 : Int32)) en = c1) (hb1 : 128 ≤ c1.toInt) (ha2 : own_a f (s + (2 : Int32)) en = c2) (hb2 : 128 ≤ c2.toInt) (ha3 : own_a f (s + (3 : Int32)) en = c3) (hb3 : 128 ≤ c3.toInt) (ha4 : own_a f (s + (4 : Int32)) en = c4) (hd : 0 ≤ c4.toInt) (hh : c4.toInt < 128) (hc : ¬ (7 : Int32) < c4) : own_spec f s en = ((((((c0 - (128 : Int32)) + ((c1 - (128 : Int32)) * (128 : Int32))) + ((c2 - (128 : Int32)) * (16384 : Int32))) + ((c3 - (128 : Int32)) * (2097152 : Int32))) + (c4 * (268435456 : Int32))), (5 : Int32)) := by
  have n1 : ¬ c4 < (0 : Int32) := own_nlt (by rw [own_e0]; omega)
  have n2 : c4 < (128 : Int32) := own_lt (by rw [own_128]; exact hh)
  unfold own_spec
  rw [ha0, ha1, ha2, ha3, ha4, if_neg (own_lo hb0).1, if_neg (own_lo hb0).2, if_neg (own_lo hb1).1, if_neg (own_lo hb1).2, if_neg (own_lo hb2).1, if_neg (own_lo hb2).2, if_neg (own_lo hb3).1, if_neg (own_lo hb3).2, if_neg n1, if_pos n2, if_neg hc]
theorem own_spO4 {f : Nat → Int32} {s en : Int32} {c0 c1 c2 c3 c4 : Int32} (ha0 : own_a f s en = c0) (hb0 : 128 ≤ c0.toInt) (ha1 : own_a f (s + (1 : Int32)) en = c1) (hb1 : 128 ≤ c1.toInt) (ha2 : own_a f (s + (2 : Int32)) en = c2) (hb2 : 128 ≤ c2.toInt) (ha3 : own_a f (s + (3 : Int32)) en = c3) (hb3 : 128 ≤ c3.toInt) (ha4 : own_a f (s + (4 : Int32)) en = c4) (hb4 : 128 ≤ c4.toInt) : own_spec f s en = ((-1 : Int32), (5 : Int32)) := by
  unfold own_spec
  rw [ha0, ha1, ha2, ha3, ha4, if_neg (own_lo hb0).1, if_neg (own_lo hb0).2, if_neg (own_lo hb1).1, if_neg (own_lo hb1).2, if_neg (own_lo hb2).1, if_neg (own_lo hb2).2, if_neg (own_lo hb3).1, if_neg (own_lo hb3).2, if_neg (own_lo hb4).1, if_neg (own_lo hb4).2]
theorem own_spG4 {f : Nat → Int32} {s en : Int32} {c0 c1 c2 c3 c4 : Int32} (ha0 : own_a f s en = c0) (hb0 : 128 ≤ c0.toInt) (ha1 : own_a f (s + (1 : Int32)) en = c1) (hb1 : 128 ≤ c1.toInt) (ha2 : own_a f (s + (2 : Int32)) en = c2) (hb2 : 128 ≤ c2.toInt) (ha3 : own_a f (s + (3 : Int32)) en = c3) (hb3 : 128 ≤ c3.toInt) (ha4 : own_a f (s + (4 : Int32)) en = c4) (hd : 0 ≤ c4.toInt) (hh : c4.toInt < 128) (hc : (7 : Int32) < c4) : own_spec f s en = ((-1 : Int32), (5 : Int32)) := by
  have n1 : ¬ c4 < (0 : Int32) := own_nlt (by rw [own_e0]; omega)
  have n2 : c4 < (128 : Int32) := own_lt (by rw [own_128]; exact hh)
  unfold own_spec
  rw [ha0, ha1, ha2, ha3, ha4, if_neg (own_lo hb0).1, if_neg (own_lo hb0).2, if_neg (own_lo hb1).1, if_neg (own_lo hb1).2, if_neg (own_lo hb2).1, if_neg (own_lo hb2).2, if_neg (own_lo hb3).1, if_neg (own_lo hb3).2, if_neg n1, if_pos n2, if_pos hc]
theorem own_sub128 {c : Int32} (h : 0 ≤ c.toInt ∧ c.toInt ≤ 255) : (c - (128 : Int32)).toInt = c.toInt - 128 := by
  have a := c_isub c (128 : Int32)
  have r := rng32 (c - (128 : Int32))
  have e : (128 : Int32).toInt = 128 := by decide
  rw [e] at a
  omega
theorem own_addx {x y : Int32} {z : Int} (h : x.toInt + y.toInt = z) (hz : -2147483648 ≤ z ∧ z < 2147483648) : (x + y).toInt = z := by
  have a := c_iadd x y
  have r := rng32 (x + y)
  omega
theorem own_mulW1 {x : Int32} (h : 0 ≤ x.toInt ∧ x.toInt ≤ 255) : (x * (128 : Int32)).toInt = x.toInt * 128 := by
  have a := c_imul x (128 : Int32)
  have r := rng32 (x * (128 : Int32))
  have e : (128 : Int32).toInt = 128 := by decide
  rw [e] at a
  omega
theorem own_mulS1 {x : Int32} (h : 0 ≤ x.toInt ∧ x.toInt ≤ 255) : ((x - (128 : Int32)) * (128 : Int32)).toInt = (x.toInt - 128) * 128 := by
  have s := own_sub128 h
  have a := c_imul (x - (128 : Int32)) (128 : Int32)
  have r := rng32 ((x - (128 : Int32)) * (128 : Int32))
  have e : (128 : Int32).toInt = 128 := by decide
  rw [e, s] at a
  omega
theorem own_mulW2 {x : Int32} (h : 0 ≤ x.toInt ∧ x.toInt ≤ 255) : (x * (16384 : Int32)).toInt = x.toInt * 16384 := by
  have a := c_imul x (16384 : Int32)
  have r := rng32 (x * (16384 : Int32))
  have e : (16384 : Int32).toInt = 16384 := by decide
  rw [e] at a
  omega
theorem own_mulS2 {x : Int32} (h : 0 ≤ x.toInt ∧ x.toInt ≤ 255) : ((x - (128 : Int32)) * (16384 : Int32)).toInt = (x.toInt - 128) * 16384 := by
  have s := own_sub128 h
  have a := c_imul (x - (128 : Int32)) (16384 : Int32)
  have r := rng32 ((x - (128 : Int32)) * (16384 : Int32))
  have e : (16384 : Int32).toInt = 16384 := by decide
  rw [e, s] at a
  omega
theorem own_mulW3 {x : Int32} (h : 0 ≤ x.toInt ∧ x.toInt ≤ 255) : (x * (2097152 : Int32)).toInt = x.toInt * 2097152 := by
  have a := c_imul x (2097152 : Int32)
  have r := rng32 (x * (2097152 : Int32))
  have e : (2097152 : Int32).toInt = 2097152 := by decide
  rw [e] at a
  omega
theorem own_mulS3 {x : Int32} (h : 0 ≤ x.toInt ∧ x.toInt ≤ 255) : ((x - (128 : Int32)) * (2097152 : Int32)).toInt = (x.toInt - 128) * 2097152 := by
  have s := own_sub128 h
  have a := c_imul (x - (128 : Int32)) (2097152 : Int32)
  have r := rng32 ((x - (128 : Int32)) * (2097152 : Int32))
  have e : (2097152 : Int32).toInt = 2097152 := by decide
  rw [e, s] at a
  omega
theorem own_mulW4 {x : Int32} (h : 0 ≤ x.toInt ∧ x.toInt ≤ 7) : (x * (268435456 : Int32)).toInt = x.toInt * 268435456 := by
  have a := c_imul x (268435456 : Int32)
  have r := rng32 (x * (268435456 : Int32))
  have e : (268435456 : Int32).toInt = 268435456 := by decide
  rw [e] at a
  omega
theorem own_tR0 (r c : Int32) (hr : 0 ≤ r.toInt ∧ r.toInt < 1) (hx : c.toInt % 128 * 1 + 1 ≤ 2147483648) : (r ||| ((c &&& (127 : Int32)) <<< ((0 : Int32) &&& 31))).toInt = r.toInt + c.toInt % 128 * 1 := by
  have a := c_mask c (127 : Int32) 7 (by decide) (by decide)
  have b := c_ishl (c &&& (127 : Int32)) (0 : Int32) 0 (by decide)
  have r1 := rng32 ((c &&& (127 : Int32)) <<< ((0 : Int32) &&& 31))
  have r2 := rng32 (r ||| ((c &&& (127 : Int32)) <<< ((0 : Int32) &&& 31)))
  have e : ((c &&& (127 : Int32)) <<< ((0 : Int32) &&& 31)).toInt = c.toInt % 128 * 1 := by omega
  have o := c_or' r ((c &&& (127 : Int32)) <<< ((0 : Int32) &&& 31)) 0 (by decide) 1 (by decide) (by omega) (by omega) (by omega)
  omega
theorem own_val0 {r c0 : Int32} (hd0 : 0 ≤ c0.toInt ∧ c0.toInt ≤ 255) (h : r.toInt = c0.toInt * 1) : r = c0 := Int32.toInt_inj.mp (by
  rw [Int.mul_one] at h
  exact h)
theorem own_tR1 (r c : Int32) (hr : 0 ≤ r.toInt ∧ r.toInt < 128) (hx : c.toInt % 128 * 128 + 128 ≤ 2147483648) : (r ||| ((c &&& (127 : Int32)) <<< ((7 : Int32) &&& 31))).toInt = r.toInt + c.toInt % 128 * 128 := by
  have a := c_mask c (127 : Int32) 7 (by decide) (by decide)
  have b := c_ishl (c &&& (127 : Int32)) (7 : Int32) 7 (by decide)
  have r1 := rng32 ((c &&& (127 : Int32)) <<< ((7 : Int32) &&& 31))
  have r2 := rng32 (r ||| ((c &&& (127 : Int32)) <<< ((7 : Int32) &&& 31)))
  have e : ((c &&& (127 : Int32)) <<< ((7 : Int32) &&& 31)).toInt = c.toInt % 128 * 128 := by omega
  have o := c_or' r ((c &&& (127 : Int32)) <<< ((7 : Int32) &&& 31)) 7 (by decide) 128 (by decide) (by omega) (by omega) (by omega)
  omega
theorem own_val1 {r c0 c1 : Int32} (hd0 : 0 ≤ c0.toInt ∧ c0.toInt ≤ 255) (hd1 : 0 ≤ c1.toInt ∧ c1.toInt ≤ 255) (h : r.toInt = (c0.toInt - 128) * 1 + c1.toInt * 128) : r = ((c0 - (128 : Int32)) + (c1 * (128 : Int32))) := Int32.toInt_inj.mp (by
  rw [Int.mul_one] at h
  have z1 : -2147483648 ≤ (c0.toInt - 128) + c1.toInt * 128 ∧ (c0.toInt - 128) + c1.toInt * 128 < 2147483648 := by omega
  have t0 : (c0 - (128 : Int32)).toInt = (c0.toInt - 128) := own_sub128 hd0
  have m1 : (c1 * (128 : Int32)).toInt = c1.toInt * 128 := own_mulW1 hd1
  have t1 : ((c0 - (128 : Int32)) + (c1 * (128 : Int32))).toInt = (c0.toInt - 128) + c1.toInt * 128 := own_addx (by rw [t0, m1]) z1
  rw [h, t1])
theorem own_tR2 (r c : Int32) (hr : 0 ≤ r.toInt ∧ r.toInt < 16384) (hx : c.toInt % 128 * 16384 + 16384 ≤ 2147483648) : (r ||| ((c &&& (127 : Int32)) <<< ((14 : Int32) &&& 31))).toInt = r.toInt + c.toInt % 128 * 16384 := by
  have a := c_mask c (127 : Int32) 7 (by decide) (by decide)
  have b := c_ishl (c &&& (127 : Int32)) (14 : Int32) 14 (by decide)
  have r1 := rng32 ((c &&& (127 : Int32)) <<< ((14 : Int32) &&& 31))
  have r2 := rng32 (r ||| ((c &&& (127 : Int32)) <<< ((14 : Int32) &&& 31)))
  have e : ((c &&& (127 : Int32)) <<< ((14 : Int32) &&& 31)).toInt = c.toInt % 128 * 16384 := by omega
  have o := c_or' r ((c &&& (127 : Int32)) <<< ((14 : Int32) &&& 31)) 14 (by decide) 16384 (by decide) (by omega) (by omega) (by omega)
  omega
theorem own_val2 {r c0 c1 c2 : Int32} (hd0 : 0 ≤ c0.toInt ∧ c0.toInt ≤ 255) (hd1 : 0 ≤ c1.toInt ∧ c1.toInt ≤ 255) (hd2 : 0 ≤ c2.toInt ∧ c2.toInt ≤ 255) (h : r.toInt = (c0.toInt - 128) * 1 + (c1.toInt - 128) * 128 + c2.toInt * 16384) : r = (((c0 - (128 : Int32)) + ((c1 - (128 : Int32)) * (128 : Int32))) + (c2 * (16384 : Int32))) := Int32.toInt_inj.mp (by
  rw [Int.mul_one] at h
  have z1 : -2147483648 ≤ (c0.toInt - 128) + (c1.toInt - 128) * 128 ∧ (c0.toInt - 128) + (c1.toInt - 128) * 128 < 2147483648 := by omega
  have z2 : -2147483648 ≤ (c0.toInt - 128) + (c1.toInt - 128) * 128 + c2.toInt * 16384 ∧ (c0.toInt - 128) + (c1.toInt - 128) * 128 + c2.toInt * 16384 < 2147483648 := by omega
  have t0 : (c0 - (128 : Int32)).toInt = (c0.toInt - 128) := own_sub128 hd0
  have m1 : ((c1 - (128 : Int32)) * (128 : Int32)).toInt = (c1.toInt - 128) * 128 := own_mulS1 hd1
  have t1 : ((c0 - (128 : Int32)) + ((c1 - (128 : Int32)) * (128 : Int32))).toInt = (c0.toInt - 128) + (c1.toInt - 128) * 128 := own_addx (by rw [t0, m1]) z1
  have m2 : (c2 * (16384 : Int32)).toInt = c2.toInt * 16384 := own_mulW2 hd2
  have t2 : (((c0 - (128 : Int32)) + ((c1 - (128 : Int32)) * (128 : Int32))) + (c2 * (16384 : Int32))).toInt = (c0.toInt - 128) + (c1.toInt - 128) * 128 + c2.toInt * 16384 := own_addx (by rw [t1, m2]) z2
  rw [h, t2])
theorem own_tR3 (r c : Int32) (hr : 0 ≤ r.toInt ∧ r.toInt < 2097152) (hx : c.toInt % 128 * 2097152 + 2097152 ≤ 2147483648) : (r ||| ((c &&& (127 : Int32)) <<< ((21 : Int32) &&& 31))).toInt = r.toInt + c.toInt % 128 * 2097152 := by
  have a := c_mask c (127 : Int32) 7 (by decide) (by decide)
  have b := c_ishl (c &&& (127 : Int32)) (21 : Int32) 21 (by decide)
  have r1 := rng32 ((c &&& (127 : Int32)) <<< ((21 : Int32) &&& 31))
  have r2 := rng32 (r ||| ((c &&& (127 : Int32)) <<< ((21 : Int32) &&& 31)))
  have e : ((c &&& (127 : Int32)) <<< ((21 : Int32) &&& 31)).toInt = c.toInt % 128 * 2097152 := by omega
  have o := c_or' r ((c &&& (127 : Int32)) <<< ((21 : Int32) &&& 31)) 21 (by decide) 2097152 (by decide) (by omega) (by omega) (by omega)
  omega
theorem own_val3 {r c0 c1 c2 c3 : Int32} (hd0 : 0 ≤ c0.toInt ∧ c0.toInt ≤ 255) (hd1 : 0 ≤ c1.toInt ∧ c1.toInt ≤ 255) (hd2 : 0 ≤ c2.toInt ∧ c2.toInt ≤ 255) (hd3 : 0 ≤ c3.toInt ∧ c3.toInt ≤ 255) (h : r.toInt = (c0.toInt - 128) * 1 + (c1.toInt - 128) * 128 + (c2.toInt - 128) * 16384 + c3.toInt * 2097152) : r = ((((c0 - (128 : Int32)) + ((c1 - (128 : Int32)) * (128 : Int32))) + ((c2 - (128 : Int32)) * (16384 : Int32))) + (c3 * (2097152 : Int32))) := Int32.toInt_inj.mp (by
  rw [Int.mul_one] at h
  have z1 : -2147483648 ≤ (c0.toInt - 128) + (c1.toInt - 128) * 128 ∧ (c0.toInt - 128) + (c1.toInt - 128) * 128 < 2147483648 := by omega
  have z2 : -2147483648 ≤ (c0.toInt - 128) + (c1.toInt - 128) * 128 + (c2.toInt - 128) * 16384 ∧ (c0.toInt - 128) + (c1.toInt - 128) * 128 + (c2.toInt - 128) * 16384 < 2147483648 := by omega
  have z3 : -2147483648 ≤ (c0.toInt - 128) + (c1.toInt - 128) * 128 + (c2.toInt - 128) * 16384 + c3.toInt * 2097152 ∧ (c0.toInt - 128) + (c1.toInt - 128) * 128 + (c2.toInt - 128) * 16384 + c3.toInt * 2097152 < 2147483648 := by omega
  have t0 : (c0 - (128 : Int32)).toInt = (c0.toInt - 128) := own_sub128 hd0
  have m1 : ((c1 - (128 : Int32)) * (128 : Int32)).toInt = (c1.toInt - 128) * 128 := own_mulS1 hd1
  have t1 : ((c0 - (128 : Int32)) + ((c1 - (128 : Int32)) * (128 : Int32))).toInt = (c0.toInt - 128) + (c1.toInt - 128) * 128 := own_addx (by rw [t0, m1]) z1
  have m2 : ((c2 - (128 : Int32)) * (16384 : Int32)).toInt = (c2.toInt - 128) * 16384 := own_mulS2 hd2
  have t2 : (((c0 - (128 : Int32)) + ((c1 - (128 : Int32)) * (128 : Int32))) + ((c2 - (128 : Int32)) * (16384 : Int32))).toInt = (c0.toInt - 128) + (c1.toInt - 128) * 128 + (c2.toInt - 128) * 16384 := own_addx (by rw [t1, m2]) z2
  have m3 : (c3 * (2097152 : Int32)).toInt = c3.toInt * 2097152 := own_mulW3 hd3
  have t3 : ((((c0 - (128 : Int32)) + ((c1 - (128 : Int32)) * (128 : Int32))) + ((c2 - (128 : Int32)) * (16384 : Int32))) + (c3 * (2097152 : Int32))).toInt = (c0.toInt - 128) + (c1.toInt - 128) * 128 + (c2.toInt - 128) * 16384 + c3.toInt * 2097152 := own_addx (by rw [t2, m3]) z3
  rw [h, t3])
theorem own_tR4 (r c : Int32) (hr : 0 ≤ r.toInt ∧ r.toInt < 268435456) (hx : c.toInt % 128 * 268435456 + 268435456 ≤ 2147483648) : (r ||| ((c &&& (127 : Int32)) <<< ((28 : Int32) &&& 31))).toInt = r.toInt + c.toInt % 128 * 268435456 := by
  have a := c_mask c (127 : Int32) 7 (by decide) (by decide)
  have b := c_ishl (c &&& (127 : Int32)) (28 : Int32) 28 (by decide)
  have r1 := rng32 ((c &&& (127 : Int32)) <<< ((28 : Int32) &&& 31))
  have r2 := rng32 (r ||| ((c &&& (127 : Int32)) <<< ((28 : Int32) &&& 31)))
  have e : ((c &&& (127 : Int32)) <<< ((28 : Int32) &&& 31)).toInt = c.toInt % 128 * 268435456 := by omega
  have o := c_or' r ((c &&& (127 : Int32)) <<< ((28 : Int32) &&& 31)) 28 (by decide) 268435456 (by decide) (by omega) (by omega) (by omega)
  omega
theorem own_val4 {r c0 c1 c2 c3 c4 : Int32} (hd0 : 0 ≤ c0.toInt ∧ c0.toInt ≤ 255) (hd1 : 0 ≤ c1.toInt ∧ c1.toInt ≤ 255) (hd2 : 0 ≤ c2.toInt ∧ c2.toInt ≤ 255) (hd3 : 0 ≤ c3.toInt ∧ c3.toInt ≤ 255) (hd4 : 0 ≤ c4.toInt ∧ c4.toInt ≤ 7) (h : r.toInt = (c0.toInt - 128) * 1 + (c1.toInt - 128) * 128 + (c2.toInt - 128) * 16384 + (c3.toInt - 128) * 2097152 + c4.toInt * 268435456) : r = (((((c0 - (128 : Int32)) + ((c1 - (128 : Int32)) * (128 : Int32))) + ((c2 - (128 : Int32)) * (16384 : Int32))) + ((c3 - (128 : Int32)) * (2097152 : Int32))) + (c4 * (268435456 : Int32))) := Int32.toInt_inj.mp (by
  rw [Int.mul_one] at h
  have z1 : -2147483648 ≤ (c0.toInt - 128) + (c1.toInt - 128) * 128 ∧ (c0.toInt - 128) + (c1.toInt - 128) * 128 < 2147483648 := by omega
  have z2 : -2147483648 ≤ (c0.toInt - 128) + (c1.toInt - 128) * 128 + (c2.toInt - 128) * 16384 ∧ (c0.toInt - 128) + (c1.toInt - 128) * 128 + (c2.toInt - 128) * 16384 < 2147483648 := by omega
  have z3 : -2147483648 ≤ (c0.toInt - 128) + (c1.toInt - 128) * 128 + (c2.toInt - 128) * 16384 + (c3.toInt - 128) * 2097152 ∧ (c0.toInt - 128) + (c1.toInt - 128) * 128 + (c2.toInt - 128) * 16384 + (c3.toInt - 128) * 2097152 < 2147483648 := by omega
  have z4 : -2147483648 ≤ (c0.toInt - 128) + (c1.toInt - 128) * 128 + (c2.toInt - 128) * 16384 + (c3.toInt - 128) * 2097152 + c4.toInt * 268435456 ∧ (c0.toInt - 128) + (c1.toInt - 128) * 128 + (c2.toInt - 128) * 16384 + (c3.toInt - 128) * 2097152 + c4.toInt * 268435456 < 2147483648 := by omega
  have t0 : (c0 - (128 : Int32)).toInt = (c0.toInt - 128) := own_sub128 hd0
  have m1 : ((c1 - (128 : Int32)) * (128 : Int32)).toInt = (c1.toInt - 128) * 128 := own_mulS1 hd1
  have t1 : ((c0 - (128 : Int32)) + ((c1 - (128 : Int32)) * (128 : Int32))).toInt = (c0.toInt - 128) + (c1.toInt - 128) * 128 := own_addx (by rw [t0, m1]) z1
  have m2 : ((c2 - (128 : Int32)) * (16384 : Int32)).toInt = (c2.toInt - 128) * 16384 := own_mulS2 hd2
  have t2 : (((c0 - (128 : Int32)) + ((c1 - (128 : Int32)) * (128 : Int32))) + ((c2 - (128 : Int32)) * (16384 : Int32))).toInt = (c0.toInt - 128) + (c1.toInt - 128) * 128 + (c2.toInt - 128) * 16384 := own_addx (by rw [t1, m2]) z2
  have m3 : ((c3 - (128 : Int32)) * (2097152 : Int32)).toInt = (c3.toInt - 128) * 2097152 := own_mulS3 hd3
  have t3 : ((((c0 - (128 : Int32)) + ((c1 - (128 : Int32)) * (128 : Int32))) + ((c2 - (128 : Int32)) * (16384 : Int32))) + ((c3 - (128 : Int32)) * (2097152 : Int32))).toInt = (c0.toInt - 128) + (c1.toInt - 128) * 128 + (c2.toInt - 128) * 16384 + (c3.toInt - 128) * 2097152 := own_addx (by rw [t2, m3]) z3
  have m4 : (c4 * (268435456 : Int32)).toInt = c4.toInt * 268435456 := own_mulW4 hd4
  have t4 : (((((c0 - (128 : Int32)) + ((c1 - (128 : Int32)) * (128 : Int32))) + ((c2 - (128 : Int32)) * (16384 : Int32))) + ((c3 - (128 : Int32)) * (2097152 : Int32))) + (c4 * (268435456 : Int32))).toInt = (c0.toInt - 128) + (c1.toInt - 128) * 128 + (c2.toInt - 128) * 16384 + (c3.toInt - 128) * 2097152 + c4.toInt * 268435456 := own_addx (by rw [t3, m4]) z4
  rw [h, t4])
def own_pack (v u : Int32) : Int64 := ((u).toInt64 <<< ((32 : Int32) &&& 0x3f).toInt64) ||| ((v).toInt64 &&& (4294967295 : Int64))
theorem own_getD : ∀ (zs : List Int32) (i : Nat), (zs.map Value.int).getD i (.int (0 : Int32)) = .int (zs.getD i (0 : Int32))
  | [], _ => rfl
  | _ :: _, 0 => rfl
  | _ :: t, i + 1 => own_getD t i
theorem own_e7 : (7 : Int32).toInt = 7 := by decide
theorem own_off (p : Int32) : 0 ≤ (p &&& (1 : Int32)).toInt ∧ (p &&& (1 : Int32)).toInt ≤ 1 := by
  have a := c_mask p (1 : Int32) 1 (by decide) (by decide)
  omega
theorem own_8 {o : Int32} (h : 0 ≤ o.toInt ∧ o.toInt ≤ 1) : ((8 : Int32) - o).toInt = 8 - o.toInt := by
  have a := c_isub (8 : Int32) o
  have r := rng32 ((8 : Int32) - o)
  have e : (8 : Int32).toInt = 8 := by decide
  rw [e] at a
  omega
theorem own_nz {o : Int32} (h : 0 ≤ o.toInt ∧ o.toInt ≤ 1) : ((8 : Int32) - o) ≠ 0 := fun q => by
  have a := own_8 h
  rw [q] at a
  have e0 := own_e0
  omega
theorem own_len (x o : Int32) (h : 0 ≤ o.toInt ∧ o.toInt ≤ 1) : 0 ≤ ((x &&& (7 : Int32)) % ((8 : Int32) - o)).toInt ∧ o.toInt + ((x &&& (7 : Int32)) % ((8 : Int32) - o)).toInt ≤ 7 := by
  have a := c_mask x (7 : Int32) 3 (by decide) (by decide)
  have b := own_8 h
  have c := (c_iremV (x &&& (7 : Int32)) ((8 : Int32) - o)).1 (by omega) (by omega)
  omega
theorem own_sum {o l : Int32} (h : 0 ≤ o.toInt ∧ o.toInt ≤ 1) (h' : 0 ≤ l.toInt ∧ o.toInt + l.toInt ≤ 7) : (o + l).toInt = o.toInt + l.toInt := by
  have a := c_iadd o l
  have r := rng32 (o + l)
  omega
theorem own_packI (v u : Int32) : ((own_pack v u).toInt - (u.toInt * 4294967296 + v.toInt % 4294967296)) % 18446744073709551616 = 0 := by
  have a := c_lshl u.toInt64 (32 : Int32) 32 (by decide)
  have b := c_maskL v.toInt64 (4294967295 : Int64) 32 (by decide) (by decide)
  rw [c_i2l] at a b
  have o := c_orL (u.toInt64 <<< ((32 : Int32) &&& 0x3f).toInt64) (v.toInt64 &&& (4294967295 : Int64)) 32 (by decide) 4294967296 (by decide) (by omega) (by omega) (by omega)
  show (((u.toInt64 <<< ((32 : Int32) &&& 0x3f).toInt64) ||| (v.toInt64 &&& (4294967295 : Int64))).toInt - _) % _ = 0
  omega
theorem own_low (v u : Int32) : (own_pack v u).toInt32 = v := Int32.toInt_inj.mp (by
  have a := own_packI v u
  have b := c_l2i (own_pack v u)
  have r := rng32 v
  have r2 := rng32 (own_pack v u).toInt32
  omega)
theorem own_hi (v u : Int32) : (((own_pack v u)).toUInt64 >>> ((32 : Int32) &&& 0x3f).toInt64.toUInt64).toInt64.toInt32 = u := Int32.toInt_inj.mp (by
  have a := own_packI v u
  have b := c_lushr (own_pack v u) (32 : Int32) 32 (by decide) (by decide)
  have d := c_l2i (((own_pack v u)).toUInt64 >>> ((32 : Int32) &&& 0x3f).toInt64.toUInt64).toInt64
  have r := rng32 u
  have r1 := rng32 v
  have r2 := rng32 ((((own_pack v u)).toUInt64 >>> ((32 : Int32) &&& 0x3f).toInt64.toUInt64).toInt64).toInt32
  omega)
theorem own_apos {f : Nat → Int32} {p en : Int32} (h : ¬ own_a f p en < (0 : Int32)) : p.toInt < en.toInt := by
  by_cases q : p < en
  · exact Int32.lt_iff_toInt_lt.mp q
  · rw [own_a, if_neg q] at h
    exact absurd (by decide) h
theorem own_next {f : Nat → Int32} {s en n : Int32} (h : 0 ≤ s.toInt ∧ s.toInt ≤ en.toInt ∧ en.toInt ≤ n.toInt ∧ n.toInt ≤ 1000) : 0 ≤ (s + (own_spec f s en).2).toInt ∧ (s + (own_spec f s en).2).toInt ≤ en.toInt ∧ en.toInt ≤ n.toInt ∧ n.toInt ≤ 1000 := by
  obtain ⟨h1, h2, h3, h4⟩ := h
  suffices q : 0 ≤ (s + (own_spec f s en).2).toInt ∧ (s + (own_spec f s en).2).toInt ≤ en.toInt from ⟨q.1, q.2, h3, h4⟩
  have ec : (s + (en - s)).toInt = en.toInt := by rw [own_cancel]
  by_cases hn0 : own_a f s en < (0 : Int32)
  · rw [own_spec, if_pos hn0]
    show 0 ≤ (s + (en - s)).toInt ∧ (s + (en - s)).toInt ≤ en.toInt
    omega
  have ha0 := own_apos hn0
  have hk0 := own_sk0 h1 (by omega : s.toInt ≤ 1000)
  have hj0 := own_sk1 h1 (by omega : s.toInt ≤ 1000)
  by_cases hm0 : own_a f s en < (128 : Int32)
  · rw [own_spec, if_neg hn0, if_pos hm0]
    show 0 ≤ (s + (1 : Int32)).toInt ∧ (s + (1 : Int32)).toInt ≤ en.toInt
    omega
  by_cases hn1 : own_a f (s + (1 : Int32)) en < (0 : Int32)
  · rw [own_spec, if_neg hn0, if_neg hm0, if_pos hn1]
    show 0 ≤ (s + (en - s)).toInt ∧ (s + (en - s)).toInt ≤ en.toInt
    omega
  have ha1 := own_apos hn1
  have hk1 := own_sk1 h1 (by omega : s.toInt ≤ 1000)
  have hj1 := own_sk2 h1 (by omega : s.toInt ≤ 1000)
  by_cases hm1 : own_a f (s + (1 : Int32)) en < (128 : Int32)
  · rw [own_spec, if_neg hn0, if_neg hm0, if_neg hn1, if_pos hm1]
    show 0 ≤ (s + (2 : Int32)).toInt ∧ (s + (2 : Int32)).toInt ≤ en.toInt
    omega
  by_cases hn2 : own_a f (s + (2 : Int32)) en < (0 : Int32)
  · rw [own_spec, if_neg hn0, if_neg hm0, if_neg hn1, if_neg hm1, if_pos hn2]
    show 0 ≤ (s + (en - s)).toInt ∧ (s + (en - s)).toInt ≤ en.toInt
    omega
  have ha2 := own_apos hn2
  have hk2 := own_sk2 h1 (by omega : s.toInt ≤ 1000)
  have hj2 := own_sk3 h1 (by omega : s.toInt ≤ 1000)
  by_cases hm2 : own_a f (s + (2 : Int32)) en < (128 : Int32)
  · rw [own_spec, if_neg hn0, if_neg hm0, if_neg hn1, if_neg hm1, if_neg hn2, if_pos hm2]
    show 0 ≤ (s + (3 : Int32)).toInt ∧ (s + (3 : Int32)).toInt ≤ en.toInt
    omega
  by_cases hn3 : own_a f (s + (3 : Int32)) en < (0 : Int32)
  · rw [own_spec, if_neg hn0, if_neg hm0, if_neg hn1, if_neg hm1, if_neg hn2, if_neg hm2, if_pos hn3]
    show 0 ≤ (s + (en - s)).toInt ∧ (s + (en - s)).toInt ≤ en.toInt
    omega
  have ha3 := own_apos hn3
  have hk3 := own_sk3 h1 (by omega : s.toInt ≤ 1000)
  have hj3 := own_sk4 h1 (by omega : s.toInt ≤ 1000)
  by_cases hm3 : own_a f (s + (3 : Int32)) en < (128 : Int32)
  · rw [own_spec, if_neg hn0, if_neg hm0, if_neg hn1, if_neg hm1, if_neg hn2, if_neg hm2, if_neg hn3, if_pos hm3]
    show 0 ≤ (s + (4 : Int32)).toInt ∧ (s + (4 : Int32)).toInt ≤ en.toInt
    omega
  by_cases hn4 : own_a f (s + (4 : Int32)) en < (0 : Int32)
  · rw [own_spec, if_neg hn0, if_neg hm0, if_neg hn1, if_neg hm1, if_neg hn2, if_neg hm2, if_neg hn3, if_neg hm3, if_pos hn4]
    show 0 ≤ (s + (en - s)).toInt ∧ (s + (en - s)).toInt ≤ en.toInt
    omega
  have ha4 := own_apos hn4
  have hk4 := own_sk4 h1 (by omega : s.toInt ≤ 1000)
  have hj4 := own_sk5 h1 (by omega : s.toInt ≤ 1000)
  by_cases hm4 : own_a f (s + (4 : Int32)) en < (128 : Int32)
  · by_cases h7 : (7 : Int32) < own_a f (s + (4 : Int32)) en
    · rw [own_spec, if_neg hn0, if_neg hm0, if_neg hn1, if_neg hm1, if_neg hn2, if_neg hm2, if_neg hn3, if_neg hm3, if_neg hn4, if_pos hm4, if_pos h7]
      show 0 ≤ (s + (5 : Int32)).toInt ∧ (s + (5 : Int32)).toInt ≤ en.toInt
      omega
    · rw [own_spec, if_neg hn0, if_neg hm0, if_neg hn1, if_neg hm1, if_neg hn2, if_neg hm2, if_neg hn3, if_neg hm3, if_neg hn4, if_pos hm4, if_neg h7]
      show 0 ≤ (s + (5 : Int32)).toInt ∧ (s + (5 : Int32)).toInt ≤ en.toInt
      omega
  · rw [own_spec, if_neg hn0, if_neg hm0, if_neg hn1, if_neg hm1, if_neg hn2, if_neg hm2, if_neg hn3, if_neg hm3, if_neg hn4, if_neg hm4]
    show 0 ≤ (s + (5 : Int32)).toInt ∧ (s + (5 : Int32)).toInt ≤ en.toInt
    omega
theorem d1_0 : decode method_4_code 0 = .ok (.aload_n 0, 1) := by decide +kernel
theorem d1_1 : decode method_4_code 1 = .ok (.iload_n 1, 1) := by decide +kernel
theorem d1_2 : decode method_4_code 2 = .ok (.iload_n 2, 1) := by decide +kernel
theorem d1_3 : decode method_4_code 3 = .ok (.invokestatic 9, 3) := by decide +kernel
theorem d1_6 : decode method_4_code 6 = .ok (.istore_n 3, 1) := by decide +kernel
theorem d1_7 : decode method_4_code 7 = .ok (.iload_n 3, 1) := by decide +kernel
theorem d1_8 : decode method_4_code 8 = .ok (.ifCond .ge 11, 3) := by decide +kernel
theorem d1_11 : decode method_4_code 11 = .ok (.iconst (-1), 1) := by decide +kernel
theorem d1_12 : decode method_4_code 12 = .ok (.iload_n 2, 1) := by decide +kernel
theorem d1_13 : decode method_4_code 13 = .ok (.iload_n 1, 1) := by decide +kernel
theorem d1_14 : decode method_4_code 14 = .ok (.isub, 1) := by decide +kernel
theorem d1_15 : decode method_4_code 15 = .ok (.invokestatic 15, 3) := by decide +kernel
theorem d1_18 : decode method_4_code 18 = .ok (.lreturn, 1) := by decide +kernel
theorem d1_19 : decode method_4_code 19 = .ok (.iload_n 3, 1) := by decide +kernel
theorem d1_20 : decode method_4_code 20 = .ok (.sipush 128, 3) := by decide +kernel
theorem d1_23 : decode method_4_code 23 = .ok (.if_icmp .ge 9, 3) := by decide +kernel
theorem d1_26 : decode method_4_code 26 = .ok (.iload_n 3, 1) := by decide +kernel
theorem d1_27 : decode method_4_code 27 = .ok (.iconst 1, 1) := by decide +kernel
theorem d1_28 : decode method_4_code 28 = .ok (.invokestatic 15, 3) := by decide +kernel
theorem d1_31 : decode method_4_code 31 = .ok (.lreturn, 1) := by decide +kernel
theorem d1_32 : decode method_4_code 32 = .ok (.aload_n 0, 1) := by decide +kernel
theorem d1_33 : decode method_4_code 33 = .ok (.iload_n 1, 1) := by decide +kernel
theorem d1_34 : decode method_4_code 34 = .ok (.iconst 1, 1) := by decide +kernel
theorem d1_35 : decode method_4_code 35 = .ok (.iadd, 1) := by decide +kernel
theorem d1_36 : decode method_4_code 36 = .ok (.iload_n 2, 1) := by decide +kernel
theorem d1_37 : decode method_4_code 37 = .ok (.invokestatic 9, 3) := by decide +kernel
theorem d1_40 : decode method_4_code 40 = .ok (.istore 4, 2) := by decide +kernel
theorem d1_42 : decode method_4_code 42 = .ok (.iload 4, 2) := by decide +kernel
theorem d1_44 : decode method_4_code 44 = .ok (.ifCond .ge 11, 3) := by decide +kernel
theorem d1_47 : decode method_4_code 47 = .ok (.iconst (-1), 1) := by decide +kernel
theorem d1_48 : decode method_4_code 48 = .ok (.iload_n 2, 1) := by decide +kernel
theorem d1_49 : decode method_4_code 49 = .ok (.iload_n 1, 1) := by decide +kernel
theorem d1_50 : decode method_4_code 50 = .ok (.isub, 1) := by decide +kernel
theorem d1_51 : decode method_4_code 51 = .ok (.invokestatic 15, 3) := by decide +kernel
theorem d1_54 : decode method_4_code 54 = .ok (.lreturn, 1) := by decide +kernel
theorem d1_55 : decode method_4_code 55 = .ok (.iload 4, 2) := by decide +kernel
theorem d1_57 : decode method_4_code 57 = .ok (.sipush 128, 3) := by decide +kernel
theorem d1_60 : decode method_4_code 60 = .ok (.if_icmp .ge 20, 3) := by decide +kernel
theorem d1_63 : decode method_4_code 63 = .ok (.iload_n 3, 1) := by decide +kernel
theorem d1_64 : decode method_4_code 64 = .ok (.sipush 128, 3) := by decide +kernel
theorem d1_67 : decode method_4_code 67 = .ok (.isub, 1) := by decide +kernel
theorem d1_68 : decode method_4_code 68 = .ok (.iload 4, 2) := by decide +kernel
theorem d1_70 : decode method_4_code 70 = .ok (.sipush 128, 3) := by decide +kernel
theorem d1_73 : decode method_4_code 73 = .ok (.imul, 1) := by decide +kernel
theorem d1_74 : decode method_4_code 74 = .ok (.iadd, 1) := by decide +kernel
theorem d1_75 : decode method_4_code 75 = .ok (.iconst 2, 1) := by decide +kernel
theorem d1_76 : decode method_4_code 76 = .ok (.invokestatic 15, 3) := by decide +kernel
theorem d1_79 : decode method_4_code 79 = .ok (.lreturn, 1) := by decide +kernel
theorem d1_80 : decode method_4_code 80 = .ok (.aload_n 0, 1) := by decide +kernel
theorem d1_81 : decode method_4_code 81 = .ok (.iload_n 1, 1) := by decide +kernel
theorem d1_82 : decode method_4_code 82 = .ok (.iconst 2, 1) := by decide +kernel
theorem d1_83 : decode method_4_code 83 = .ok (.iadd, 1) := by decide +kernel
theorem d1_84 : decode method_4_code 84 = .ok (.iload_n 2, 1) := by decide +kernel
theorem d1_85 : decode method_4_code 85 = .ok (.invokestatic 9, 3) := by decide +kernel
theorem d1_88 : decode method_4_code 88 = .ok (.istore 5, 2) := by decide +kernel
theorem d1_90 : decode method_4_code 90 = .ok (.iload 5, 2) := by decide +kernel
theorem d1_92 : decode method_4_code 92 = .ok (.ifCond .ge 11, 3) := by decide +kernel
theorem d1_95 : decode method_4_code 95 = .ok (.iconst (-1), 1) := by decide +kernel
theorem d1_96 : decode method_4_code 96 = .ok (.iload_n 2, 1) := by decide +kernel
theorem d1_97 : decode method_4_code 97 = .ok (.iload_n 1, 1) := by decide +kernel
theorem d1_98 : decode method_4_code 98 = .ok (.isub, 1) := by decide +kernel
theorem d1_99 : decode method_4_code 99 = .ok (.invokestatic 15, 3) := by decide +kernel
theorem d1_102 : decode method_4_code 102 = .ok (.lreturn, 1) := by decide +kernel
theorem d1_103 : decode method_4_code 103 = .ok (.iload 5, 2) := by decide +kernel
theorem d1_105 : decode method_4_code 105 = .ok (.sipush 128, 3) := by decide +kernel
theorem d1_108 : decode method_4_code 108 = .ok (.if_icmp .ge 31, 3) := by decide +kernel
theorem d1_111 : decode method_4_code 111 = .ok (.iload_n 3, 1) := by decide +kernel
theorem d1_112 : decode method_4_code 112 = .ok (.sipush 128, 3) := by decide +kernel
theorem d1_115 : decode method_4_code 115 = .ok (.isub, 1) := by decide +kernel
theorem d1_116 : decode method_4_code 116 = .ok (.iload 4, 2) := by decide +kernel
theorem d1_118 : decode method_4_code 118 = .ok (.sipush 128, 3) := by decide +kernel
theorem d1_121 : decode method_4_code 121 = .ok (.isub, 1) := by decide +kernel
theorem d1_122 : decode method_4_code 122 = .ok (.sipush 128, 3) := by decide +kernel
theorem d1_125 : decode method_4_code 125 = .ok (.imul, 1) := by decide +kernel
theorem d1_126 : decode method_4_code 126 = .ok (.iadd, 1) := by decide +kernel
theorem d1_127 : decode method_4_code 127 = .ok (.iload 5, 2) := by decide +kernel
theorem d1_129 : decode method_4_code 129 = .ok (.sipush 16384, 3) := by decide +kernel
theorem d1_132 : decode method_4_code 132 = .ok (.imul, 1) := by decide +kernel
theorem d1_133 : decode method_4_code 133 = .ok (.iadd, 1) := by decide +kernel
theorem d1_134 : decode method_4_code 134 = .ok (.iconst 3, 1) := by decide +kernel
theorem d1_135 : decode method_4_code 135 = .ok (.invokestatic 15, 3) := by decide +kernel
theorem d1_138 : decode method_4_code 138 = .ok (.lreturn, 1) := by decide +kernel
theorem d1_139 : decode method_4_code 139 = .ok (.aload_n 0, 1) := by decide +kernel
theorem d1_140 : decode method_4_code 140 = .ok (.iload_n 1, 1) := by decide +kernel
theorem d1_141 : decode method_4_code 141 = .ok (.iconst 3, 1) := by decide +kernel
theorem d1_142 : decode method_4_code 142 = .ok (.iadd, 1) := by decide +kernel
theorem d1_143 : decode method_4_code 143 = .ok (.iload_n 2, 1) := by decide +kernel
theorem d1_144 : decode method_4_code 144 = .ok (.invokestatic 9, 3) := by decide +kernel
theorem d1_147 : decode method_4_code 147 = .ok (.istore 6, 2) := by decide +kernel
theorem d1_149 : decode method_4_code 149 = .ok (.iload 6, 2) := by decide +kernel
theorem d1_151 : decode method_4_code 151 = .ok (.ifCond .ge 11, 3) := by decide +kernel
theorem d1_154 : decode method_4_code 154 = .ok (.iconst (-1), 1) := by decide +kernel
theorem d1_155 : decode method_4_code 155 = .ok (.iload_n 2, 1) := by decide +kernel
theorem d1_156 : decode method_4_code 156 = .ok (.iload_n 1, 1) := by decide +kernel
theorem d1_157 : decode method_4_code 157 = .ok (.isub, 1) := by decide +kernel
theorem d1_158 : decode method_4_code 158 = .ok (.invokestatic 15, 3) := by decide +kernel
theorem d1_161 : decode method_4_code 161 = .ok (.lreturn, 1) := by decide +kernel
theorem d1_162 : decode method_4_code 162 = .ok (.iload 6, 2) := by decide +kernel
theorem d1_164 : decode method_4_code 164 = .ok (.sipush 128, 3) := by decide +kernel
theorem d1_167 : decode method_4_code 167 = .ok (.if_icmp .ge 41, 3) := by decide +kernel
theorem d1_170 : decode method_4_code 170 = .ok (.iload_n 3, 1) := by decide +kernel
theorem d1_171 : decode method_4_code 171 = .ok (.sipush 128, 3) := by decide +kernel
theorem d1_174 : decode method_4_code 174 = .ok (.isub, 1) := by decide +kernel
theorem d1_175 : decode method_4_code 175 = .ok (.iload 4, 2) := by decide +kernel
theorem d1_177 : decode method_4_code 177 = .ok (.sipush 128, 3) := by decide +kernel
theorem d1_180 : decode method_4_code 180 = .ok (.isub, 1) := by decide +kernel
theorem d1_181 : decode method_4_code 181 = .ok (.sipush 128, 3) := by decide +kernel
theorem d1_184 : decode method_4_code 184 = .ok (.imul, 1) := by decide +kernel
theorem d1_185 : decode method_4_code 185 = .ok (.iadd, 1) := by decide +kernel
theorem d1_186 : decode method_4_code 186 = .ok (.iload 5, 2) := by decide +kernel
theorem d1_188 : decode method_4_code 188 = .ok (.sipush 128, 3) := by decide +kernel
theorem d1_191 : decode method_4_code 191 = .ok (.isub, 1) := by decide +kernel
theorem d1_192 : decode method_4_code 192 = .ok (.sipush 16384, 3) := by decide +kernel
theorem d1_195 : decode method_4_code 195 = .ok (.imul, 1) := by decide +kernel
theorem d1_196 : decode method_4_code 196 = .ok (.iadd, 1) := by decide +kernel
theorem d1_197 : decode method_4_code 197 = .ok (.iload 6, 2) := by decide +kernel
theorem d1_199 : decode method_4_code 199 = .ok (.ldc 19, 2) := by decide +kernel
theorem d1_201 : decode method_4_code 201 = .ok (.imul, 1) := by decide +kernel
theorem d1_202 : decode method_4_code 202 = .ok (.iadd, 1) := by decide +kernel
theorem d1_203 : decode method_4_code 203 = .ok (.iconst 4, 1) := by decide +kernel
theorem d1_204 : decode method_4_code 204 = .ok (.invokestatic 15, 3) := by decide +kernel
theorem d1_207 : decode method_4_code 207 = .ok (.lreturn, 1) := by decide +kernel
theorem d1_208 : decode method_4_code 208 = .ok (.aload_n 0, 1) := by decide +kernel
theorem d1_209 : decode method_4_code 209 = .ok (.iload_n 1, 1) := by decide +kernel
theorem d1_210 : decode method_4_code 210 = .ok (.iconst 4, 1) := by decide +kernel
theorem d1_211 : decode method_4_code 211 = .ok (.iadd, 1) := by decide +kernel
theorem d1_212 : decode method_4_code 212 = .ok (.iload_n 2, 1) := by decide +kernel
theorem d1_213 : decode method_4_code 213 = .ok (.invokestatic 9, 3) := by decide +kernel
theorem d1_216 : decode method_4_code 216 = .ok (.istore 7, 2) := by decide +kernel
theorem d1_218 : decode method_4_code 218 = .ok (.iload 7, 2) := by decide +kernel
theorem d1_220 : decode method_4_code 220 = .ok (.ifCond .ge 11, 3) := by decide +kernel
theorem d1_223 : decode method_4_code 223 = .ok (.iconst (-1), 1) := by decide +kernel
theorem d1_224 : decode method_4_code 224 = .ok (.iload_n 2, 1) := by decide +kernel
theorem d1_225 : decode method_4_code 225 = .ok (.iload_n 1, 1) := by decide +kernel
theorem d1_226 : decode method_4_code 226 = .ok (.isub, 1) := by decide +kernel
theorem d1_227 : decode method_4_code 227 = .ok (.invokestatic 15, 3) := by decide +kernel
theorem d1_230 : decode method_4_code 230 = .ok (.lreturn, 1) := by decide +kernel
theorem d1_231 : decode method_4_code 231 = .ok (.iload 7, 2) := by decide +kernel
theorem d1_233 : decode method_4_code 233 = .ok (.sipush 128, 3) := by decide +kernel
theorem d1_236 : decode method_4_code 236 = .ok (.if_icmp .lt 9, 3) := by decide +kernel
theorem d1_239 : decode method_4_code 239 = .ok (.iconst (-1), 1) := by decide +kernel
theorem d1_240 : decode method_4_code 240 = .ok (.iconst 5, 1) := by decide +kernel
theorem d1_241 : decode method_4_code 241 = .ok (.invokestatic 15, 3) := by decide +kernel
theorem d1_244 : decode method_4_code 244 = .ok (.lreturn, 1) := by decide +kernel
theorem d1_245 : decode method_4_code 245 = .ok (.iload 7, 2) := by decide +kernel
theorem d1_247 : decode method_4_code 247 = .ok (.bipush 7, 2) := by decide +kernel
theorem d1_249 : decode method_4_code 249 = .ok (.if_icmp .le 9, 3) := by decide +kernel
theorem d1_252 : decode method_4_code 252 = .ok (.iconst (-1), 1) := by decide +kernel
theorem d1_253 : decode method_4_code 253 = .ok (.iconst 5, 1) := by decide +kernel
theorem d1_254 : decode method_4_code 254 = .ok (.invokestatic 15, 3) := by decide +kernel
theorem d1_257 : decode method_4_code 257 = .ok (.lreturn, 1) := by decide +kernel
theorem d1_258 : decode method_4_code 258 = .ok (.iload_n 3, 1) := by decide +kernel
theorem d1_259 : decode method_4_code 259 = .ok (.sipush 128, 3) := by decide +kernel
theorem d1_262 : decode method_4_code 262 = .ok (.isub, 1) := by decide +kernel
theorem d1_263 : decode method_4_code 263 = .ok (.iload 4, 2) := by decide +kernel
theorem d1_265 : decode method_4_code 265 = .ok (.sipush 128, 3) := by decide +kernel
theorem d1_268 : decode method_4_code 268 = .ok (.isub, 1) := by decide +kernel
theorem d1_269 : decode method_4_code 269 = .ok (.sipush 128, 3) := by decide +kernel
theorem d1_272 : decode method_4_code 272 = .ok (.imul, 1) := by decide +kernel
theorem d1_273 : decode method_4_code 273 = .ok (.iadd, 1) := by decide +kernel
theorem d1_274 : decode method_4_code 274 = .ok (.iload 5, 2) := by decide +kernel
theorem d1_276 : decode method_4_code 276 = .ok (.sipush 128, 3) := by decide +kernel
theorem d1_279 : decode method_4_code 279 = .ok (.isub, 1) := by decide +kernel
theorem d1_280 : decode method_4_code 280 = .ok (.sipush 16384, 3) := by decide +kernel
theorem d1_283 : decode method_4_code 283 = .ok (.imul, 1) := by decide +kernel
theorem d1_284 : decode method_4_code 284 = .ok (.iadd, 1) := by decide +kernel
theorem d1_285 : decode method_4_code 285 = .ok (.iload 6, 2) := by decide +kernel
theorem d1_287 : decode method_4_code 287 = .ok (.sipush 128, 3) := by decide +kernel
theorem d1_290 : decode method_4_code 290 = .ok (.isub, 1) := by decide +kernel
theorem d1_291 : decode method_4_code 291 = .ok (.ldc 19, 2) := by decide +kernel
theorem d1_293 : decode method_4_code 293 = .ok (.imul, 1) := by decide +kernel
theorem d1_294 : decode method_4_code 294 = .ok (.iadd, 1) := by decide +kernel
theorem d1_295 : decode method_4_code 295 = .ok (.iload 7, 2) := by decide +kernel
theorem d1_297 : decode method_4_code 297 = .ok (.ldc 20, 2) := by decide +kernel
theorem d1_299 : decode method_4_code 299 = .ok (.imul, 1) := by decide +kernel
theorem d1_300 : decode method_4_code 300 = .ok (.iadd, 1) := by decide +kernel
theorem d1_301 : decode method_4_code 301 = .ok (.iconst 5, 1) := by decide +kernel
theorem d1_302 : decode method_4_code 302 = .ok (.invokestatic 15, 3) := by decide +kernel
theorem d1_305 : decode method_4_code 305 = .ok (.lreturn, 1) := by decide +kernel
theorem d2_0 : decode method_3_code 0 = .ok (.iload_n 1, 1) := by decide +kernel
theorem d2_1 : decode method_3_code 1 = .ok (.iload_n 2, 1) := by decide +kernel
theorem d2_2 : decode method_3_code 2 = .ok (.if_icmp .ge 13, 3) := by decide +kernel
theorem d2_5 : decode method_3_code 5 = .ok (.aload_n 0, 1) := by decide +kernel
theorem d2_6 : decode method_3_code 6 = .ok (.iload_n 1, 1) := by decide +kernel
theorem d2_7 : decode method_3_code 7 = .ok (.baload, 1) := by decide +kernel
theorem d2_8 : decode method_3_code 8 = .ok (.sipush 255, 3) := by decide +kernel
theorem d2_11 : decode method_3_code 11 = .ok (.iand, 1) := by decide +kernel
theorem d2_12 : decode method_3_code 12 = .ok (.goto 4, 3) := by decide +kernel
theorem d2_15 : decode method_3_code 15 = .ok (.iconst (-1), 1) := by decide +kernel
theorem d2_16 : decode method_3_code 16 = .ok (.ireturn, 1) := by decide +kernel
theorem d3_0 : decode method_2_code 0 = .ok (.iload_n 1, 1) := by decide +kernel
theorem d3_1 : decode method_2_code 1 = .ok (.i2l, 1) := by decide +kernel
theorem d3_2 : decode method_2_code 2 = .ok (.bipush 32, 2) := by decide +kernel
theorem d3_4 : decode method_2_code 4 = .ok (.lshl, 1) := by decide +kernel
theorem d3_5 : decode method_2_code 5 = .ok (.iload_n 0, 1) := by decide +kernel
theorem d3_6 : decode method_2_code 6 = .ok (.i2l, 1) := by decide +kernel
theorem d3_7 : decode method_2_code 7 = .ok (.ldc2_w 7, 3) := by decide +kernel
theorem d3_10 : decode method_2_code 10 = .ok (.land, 1) := by decide +kernel
theorem d3_11 : decode method_2_code 11 = .ok (.lor, 1) := by decide +kernel
theorem d3_12 : decode method_2_code 12 = .ok (.lreturn, 1) := by decide +kernel
theorem d4_0 : decode prog_2_method_1_code 0 = .ok (.aload_n 0, 1) := by decide +kernel
theorem d4_1 : decode prog_2_method_1_code 1 = .ok (.invokespecial 1, 3) := by decide +kernel
theorem d4_4 : decode prog_2_method_1_code 4 = .ok (.aload_n 0, 1) := by decide +kernel
theorem d4_5 : decode prog_2_method_1_code 5 = .ok (.aload_n 1, 1) := by decide +kernel
theorem d4_6 : decode prog_2_method_1_code 6 = .ok (.putfield 7, 3) := by decide +kernel
theorem d4_9 : decode prog_2_method_1_code 9 = .ok (.aload_n 0, 1) := by decide +kernel
theorem d4_10 : decode prog_2_method_1_code 10 = .ok (.iload_n 2, 1) := by decide +kernel
theorem d4_11 : decode prog_2_method_1_code 11 = .ok (.putfield 13, 3) := by decide +kernel
theorem d4_14 : decode prog_2_method_1_code 14 = .ok (.aload_n 0, 1) := by decide +kernel
theorem d4_15 : decode prog_2_method_1_code 15 = .ok (.iload_n 2, 1) := by decide +kernel
theorem d4_16 : decode prog_2_method_1_code 16 = .ok (.iload_n 3, 1) := by decide +kernel
theorem d4_17 : decode prog_2_method_1_code 17 = .ok (.iadd, 1) := by decide +kernel
theorem d4_18 : decode prog_2_method_1_code 18 = .ok (.putfield 17, 3) := by decide +kernel
theorem d4_21 : decode prog_2_method_1_code 21 = .ok (.return_, 1) := by decide +kernel
theorem d6_0 : decode prog_2_method_3_code 0 = .ok (.iconst 0, 1) := by decide +kernel
theorem d6_1 : decode prog_2_method_3_code 1 = .ok (.istore_n 1, 1) := by decide +kernel
theorem d6_2 : decode prog_2_method_3_code 2 = .ok (.iconst 0, 1) := by decide +kernel
theorem d6_3 : decode prog_2_method_3_code 3 = .ok (.istore_n 2, 1) := by decide +kernel
theorem d6_4 : decode prog_2_method_3_code 4 = .ok (.iload_n 2, 1) := by decide +kernel
theorem d6_5 : decode prog_2_method_3_code 5 = .ok (.bipush 32, 2) := by decide +kernel
theorem d6_7 : decode prog_2_method_3_code 7 = .ok (.if_icmp .ge 78, 3) := by decide +kernel
theorem d6_10 : decode prog_2_method_3_code 10 = .ok (.aload_n 0, 1) := by decide +kernel
theorem d6_11 : decode prog_2_method_3_code 11 = .ok (.getfield 13, 3) := by decide +kernel
theorem d6_14 : decode prog_2_method_3_code 14 = .ok (.aload_n 0, 1) := by decide +kernel
theorem d6_15 : decode prog_2_method_3_code 15 = .ok (.getfield 17, 3) := by decide +kernel
theorem d6_18 : decode prog_2_method_3_code 18 = .ok (.if_icmp .ne 5, 3) := by decide +kernel
theorem d6_21 : decode prog_2_method_3_code 21 = .ok (.iconst (-1), 1) := by decide +kernel
theorem d6_22 : decode prog_2_method_3_code 22 = .ok (.ireturn, 1) := by decide +kernel
theorem d6_23 : decode prog_2_method_3_code 23 = .ok (.aload_n 0, 1) := by decide +kernel
theorem d6_24 : decode prog_2_method_3_code 24 = .ok (.getfield 7, 3) := by decide +kernel
theorem d6_27 : decode prog_2_method_3_code 27 = .ok (.aload_n 0, 1) := by decide +kernel
theorem d6_28 : decode prog_2_method_3_code 28 = .ok (.dup, 1) := by decide +kernel
theorem d6_29 : decode prog_2_method_3_code 29 = .ok (.getfield 13, 3) := by decide +kernel
theorem d6_32 : decode prog_2_method_3_code 32 = .ok (.dup_x1, 1) := by decide +kernel
theorem d6_33 : decode prog_2_method_3_code 33 = .ok (.iconst 1, 1) := by decide +kernel
theorem d6_34 : decode prog_2_method_3_code 34 = .ok (.iadd, 1) := by decide +kernel
theorem d6_35 : decode prog_2_method_3_code 35 = .ok (.putfield 13, 3) := by decide +kernel
theorem d6_38 : decode prog_2_method_3_code 38 = .ok (.baload, 1) := by decide +kernel
theorem d6_39 : decode prog_2_method_3_code 39 = .ok (.sipush 255, 3) := by decide +kernel
theorem d6_42 : decode prog_2_method_3_code 42 = .ok (.iand, 1) := by decide +kernel
theorem d6_43 : decode prog_2_method_3_code 43 = .ok (.istore_n 3, 1) := by decide +kernel
theorem d6_44 : decode prog_2_method_3_code 44 = .ok (.iload_n 1, 1) := by decide +kernel
theorem d6_45 : decode prog_2_method_3_code 45 = .ok (.iload_n 3, 1) := by decide +kernel
theorem d6_46 : decode prog_2_method_3_code 46 = .ok (.bipush 127, 2) := by decide +kernel
theorem d6_48 : decode prog_2_method_3_code 48 = .ok (.iand, 1) := by decide +kernel
theorem d6_49 : decode prog_2_method_3_code 49 = .ok (.iload_n 2, 1) := by decide +kernel
theorem d6_50 : decode prog_2_method_3_code 50 = .ok (.ishl, 1) := by decide +kernel
theorem d6_51 : decode prog_2_method_3_code 51 = .ok (.ior, 1) := by decide +kernel
theorem d6_52 : decode prog_2_method_3_code 52 = .ok (.istore_n 1, 1) := by decide +kernel
theorem d6_53 : decode prog_2_method_3_code 53 = .ok (.iload_n 3, 1) := by decide +kernel
theorem d6_54 : decode prog_2_method_3_code 54 = .ok (.sipush 128, 3) := by decide +kernel
theorem d6_57 : decode prog_2_method_3_code 57 = .ok (.iand, 1) := by decide +kernel
theorem d6_58 : decode prog_2_method_3_code 58 = .ok (.ifCond .ne 21, 3) := by decide +kernel
theorem d6_61 : decode prog_2_method_3_code 61 = .ok (.iload_n 2, 1) := by decide +kernel
theorem d6_62 : decode prog_2_method_3_code 62 = .ok (.bipush 28, 2) := by decide +kernel
theorem d6_64 : decode prog_2_method_3_code 64 = .ok (.if_icmp .ne 13, 3) := by decide +kernel
theorem d6_67 : decode prog_2_method_3_code 67 = .ok (.iload_n 3, 1) := by decide +kernel
theorem d6_68 : decode prog_2_method_3_code 68 = .ok (.bipush 7, 2) := by decide +kernel
theorem d6_70 : decode prog_2_method_3_code 70 = .ok (.if_icmp .le 7, 3) := by decide +kernel
theorem d6_73 : decode prog_2_method_3_code 73 = .ok (.iconst (-1), 1) := by decide +kernel
theorem d6_74 : decode prog_2_method_3_code 74 = .ok (.goto 4, 3) := by decide +kernel
theorem d6_77 : decode prog_2_method_3_code 77 = .ok (.iload_n 1, 1) := by decide +kernel
theorem d6_78 : decode prog_2_method_3_code 78 = .ok (.ireturn, 1) := by decide +kernel
theorem d6_79 : decode prog_2_method_3_code 79 = .ok (.iinc 2 7, 3) := by decide +kernel
theorem d6_82 : decode prog_2_method_3_code 82 = .ok (.goto (-78), 3) := by decide +kernel
theorem d6_85 : decode prog_2_method_3_code 85 = .ok (.iconst (-1), 1) := by decide +kernel
theorem d6_86 : decode prog_2_method_3_code 86 = .ok (.ireturn, 1) := by decide +kernel
theorem d7_0 : decode prog_2_method_2_code 0 = .ok (.aload_n 0, 1) := by decide +kernel
theorem d7_1 : decode prog_2_method_2_code 1 = .ok (.getfield 13, 3) := by decide +kernel
theorem d7_4 : decode prog_2_method_2_code 4 = .ok (.aload_n 0, 1) := by decide +kernel
theorem d7_5 : decode prog_2_method_2_code 5 = .ok (.getfield 17, 3) := by decide +kernel
theorem d7_8 : decode prog_2_method_2_code 8 = .ok (.if_icmp .ge 7, 3) := by decide +kernel
theorem d7_11 : decode prog_2_method_2_code 11 = .ok (.iconst 1, 1) := by decide +kernel
theorem d7_12 : decode prog_2_method_2_code 12 = .ok (.goto 4, 3) := by decide +kernel
theorem d7_15 : decode prog_2_method_2_code 15 = .ok (.iconst 0, 1) := by decide +kernel
theorem d7_16 : decode prog_2_method_2_code 16 = .ok (.ireturn, 1) := by decide +kernel
theorem pd0 : parseMethodDescriptor "([BII)I" = some ⟨[(.array .byte), .int, .int], some .int⟩ := by decide +kernel
theorem pd1 : parseMethodDescriptor "(II)J" = some ⟨[.int, .int], some .long⟩ := by decide +kernel
theorem pd2 : parseMethodDescriptor "([BII)J" = some ⟨[(.array .byte), .int, .int], some .long⟩ := by decide +kernel
theorem pd3 : parseMethodDescriptor "([BII)V" = some ⟨[(.array .byte), .int, .int], none⟩ := by decide +kernel
theorem pd4 : parseMethodDescriptor "()I" = some ⟨[], some .int⟩ := by decide +kernel
theorem pd5 : parseMethodDescriptor "()Z" = some ⟨[], some .boolean⟩ := by decide +kernel
set_option maxRecDepth 65536 in
set_option maxHeartbeats 40000000 in
theorem rm1 (l : Launch) (Z : State) (a0 : Array Value) (hw : ∀ d ∈ tables_1, d.before a0 Z = true) (ws : List Jvm.Cond) (a1 a2 : Addr) (p3 p4 : Int32) (h0 : Heap) (n0 : Nat) (Z0 : n0 ≤ h0.size) (E_a1 : Exa Z h0 a1 "com/example/cranfield/cranfield/engine/ByteReader") (F_b : Fld Z h0 a1 "com/example/cranfield/cranfield/engine/ByteReader" "bytes" "[B" .null) (F_p : Fld Z h0 a1 "com/example/cranfield/cranfield/engine/ByteReader" "position" "I" (.int (0 : Int32))) (F_e : Fld Z h0 a1 "com/example/cranfield/cranfield/engine/ByteReader" "end" "I" (.int (0 : Int32))) (g_a1 : n0 ≤ a1) :
    own_Met l (⟨"com/example/cranfield/cranfield/engine/ByteReader", "<init>", "([BII)V"⟩ : MethodName) prog_2_method_1_code 4 none ws ({ frames := 1, cells := 0, slots := 0, locals := 12 } : Room) Z #[(.ref a1), (.ref a2), (.int p3), (.int p4)] h0 (fun v h L => v = none ∧ Fr n0 L ∧ Keep h0 h [a1] ∧ Exa Z h a1 "com/example/cranfield/cranfield/engine/ByteReader" ∧ Fld Z h a1 "com/example/cranfield/cranfield/engine/ByteReader" "bytes" "[B" (.ref a2) ∧ Fld Z h a1 "com/example/cranfield/cranfield/engine/ByteReader" "position" "I" (.int p3) ∧ Fld Z h a1 "com/example/cranfield/cranfield/engine/ByteReader" "end" "I" (.int (p3 + p4))) := by
  refine own_body (plainFor_of_name (by first | (simp [plainName, overriddenIn]; done) | decide +kernel)) ?_
  intro p e s m below meth c s₁ X0 hx hby hml hown hnm hret hlk hZ e0
  have N0 := Fr.nil n0
  refine own_cast (show entryFrame m #[(.ref a1), (.ref a2), (.int p3), (.int p4)] 4 = mkF m 0 #[.val (.ref a1), .val (.ref a2), .val (.int p3), .val (.int p4)] [] from by first | (simp [entryFrame, mkF, argsToLocals, Value.category]; done) | rfl) ?_
  show own_Go _ _ _ _ s₁ (mkF m 0 #[.val (.ref a1), .val (.ref a2), .val (.int p3), .val (.int p4)] [])
  refine own_go (fun _ k => XS.aloadN X0.here hx rfl (hb hby d4_0) rfl rfl k) ?_
  show own_Go _ _ _ _ s₁ (mkF m 1 #[.val (.ref a1), .val (.ref a2), .val (.int p3), .val (.int p4)] [(.ref a1)])
  obtain ⟨T1, X1, e1, st1⟩ := initO X0 hx hZ hown (hw _ (List.mem_of_getElem? (i := 18) rfl)) (hw _ (List.mem_of_getElem? (i := 19) rfl)) (hw _ (List.mem_of_getElem? (i := 20) rfl)) e0 (g := (mkF m 1 #[.val (.ref a1), .val (.ref a2), .val (.int p3), .val (.int p4)] [(.ref a1)])) rfl (by rw [hml]; rfl) rfl (hb hby d4_1) (by decide) (W := 0) (Nat.le_of_eq rfl) (by decide)
  refine own_go (st1) ?_
  show own_Go _ _ _ _ T1 (mkF m 4 #[.val (.ref a1), .val (.ref a2), .val (.int p3), .val (.int p4)] [])
  refine own_go (fun _ k => XS.aloadN X1.here hx rfl (hb hby d4_4) rfl rfl k) ?_
  show own_Go _ _ _ _ T1 (mkF m 5 #[.val (.ref a1), .val (.ref a2), .val (.int p3), .val (.int p4)] [(.ref a1)])
  refine own_go (fun _ k => XS.aloadN X1.here hx rfl (hb hby d4_5) rfl rfl k) ?_
  show own_Go _ _ _ _ T1 (mkF m 6 #[.val (.ref a1), .val (.ref a2), .val (.int p3), .val (.int p4)] [(.ref a2), (.ref a1)])
  obtain ⟨T2, h2, X2, e2, W2, st2⟩ := putF X1 hx hZ hown (host := "") (Or.inl (hw _ (List.mem_of_getElem? (i := 21) rfl))) Via.refl e1 F_b E_a1 (Or.inr ⟨(hw _ (List.mem_of_getElem? (i := 22) rfl)), rfl, hnm⟩) (hw _ (List.mem_of_getElem? (i := 13) rfl)) (ty := (.array .byte)) (by decide) rfl rfl (g := (mkF m 6 #[.val (.ref a1), .val (.ref a2), .val (.int p3), .val (.int p4)] [(.ref a2), (.ref a1)])) rfl rfl (hb hby d4_6)
  refine own_go (st2) ?_
  have Fw2 := F_b.same W2
  have N2 := Fr.snoc X2 N0 g_a1
  show own_Go _ _ _ _ T2 (mkF m 9 #[.val (.ref a1), .val (.ref a2), .val (.int p3), .val (.int p4)] [])
  refine own_go (fun _ k => XS.aloadN X2.here hx rfl (hb hby d4_9) rfl rfl k) ?_
  show own_Go _ _ _ _ T2 (mkF m 10 #[.val (.ref a1), .val (.ref a2), .val (.int p3), .val (.int p4)] [(.ref a1)])
  refine own_go (fun _ k => XS.iloadN X2.here hx rfl (hb hby d4_10) rfl k) ?_
  show own_Go _ _ _ _ T2 (mkF m 11 #[.val (.ref a1), .val (.ref a2), .val (.int p3), .val (.int p4)] [(.int p3), (.ref a1)])
  have f4 := (F_p.other W2 (Or.inr (slot_ne (Or.inl (hw _ (List.mem_of_getElem? (i := 24) rfl))) (Or.inr (hw _ (List.mem_of_getElem? (i := 22) rfl))) (by decide) (t := .int) (t' := (.array .byte)) (by decide) (by decide))))
  have f5 := (E_a1.wr W2)
  obtain ⟨T3, h3, X3, e3, W3, st3⟩ := putF X2 hx hZ hown (host := "") (Or.inl (hw _ (List.mem_of_getElem? (i := 23) rfl))) Via.refl e2 f4 f5 (Or.inl (hw _ (List.mem_of_getElem? (i := 24) rfl))) (hw _ (List.mem_of_getElem? (i := 13) rfl)) (ty := .int) (by decide) rfl rfl (g := (mkF m 11 #[.val (.ref a1), .val (.ref a2), .val (.int p3), .val (.int p4)] [(.int p3), (.ref a1)])) rfl rfl (hb hby d4_11)
  refine own_go (st3) ?_
  have Fw3 := f4.same W3
  have N3 := Fr.snoc X3 N2 g_a1
  show own_Go _ _ _ _ T3 (mkF m 14 #[.val (.ref a1), .val (.ref a2), .val (.int p3), .val (.int p4)] [])
  refine own_go (fun _ k => XS.aloadN X3.here hx rfl (hb hby d4_14) rfl rfl k) ?_
  show own_Go _ _ _ _ T3 (mkF m 15 #[.val (.ref a1), .val (.ref a2), .val (.int p3), .val (.int p4)] [(.ref a1)])
  refine own_go (fun _ k => XS.iloadN X3.here hx rfl (hb hby d4_15) rfl k) ?_
  show own_Go _ _ _ _ T3 (mkF m 16 #[.val (.ref a1), .val (.ref a2), .val (.int p3), .val (.int p4)] [(.int p3), (.ref a1)])
  refine own_go (fun _ k => XS.iloadN X3.here hx rfl (hb hby d4_16) rfl k) ?_
  show own_Go _ _ _ _ T3 (mkF m 17 #[.val (.ref a1), .val (.ref a2), .val (.int p3), .val (.int p4)] [(.int p4), (.int p3), (.ref a1)])
  refine own_go (fun _ k => XS.iadd X3.here hx rfl (hb hby d4_17) rfl k) ?_
  show own_Go _ _ _ _ T3 (mkF m 18 #[.val (.ref a1), .val (.ref a2), .val (.int p3), .val (.int p4)] [(.int (p3 + p4)), (.ref a1)])
  have f7 := ((F_e.other W2 (Or.inr (slot_ne (Or.inr (hw _ (List.mem_of_getElem? (i := 26) rfl))) (Or.inr (hw _ (List.mem_of_getElem? (i := 22) rfl))) (by decide) (t := .int) (t' := (.array .byte)) (by decide) (by decide)))).other W3 (Or.inr (slot_ne (Or.inr (hw _ (List.mem_of_getElem? (i := 26) rfl))) (Or.inl (hw _ (List.mem_of_getElem? (i := 24) rfl))) (by decide) (t := .int) (t' := .int) (by decide) (by decide))))
  have f8 := (f5.wr W3)
  obtain ⟨T6, h6, X6, e6, W6, st6⟩ := putF X3 hx hZ hown (host := "") (Or.inl (hw _ (List.mem_of_getElem? (i := 25) rfl))) Via.refl e3 f7 f8 (Or.inr ⟨(hw _ (List.mem_of_getElem? (i := 26) rfl)), rfl, hnm⟩) (hw _ (List.mem_of_getElem? (i := 13) rfl)) (ty := .int) (by decide) rfl rfl (g := (mkF m 18 #[.val (.ref a1), .val (.ref a2), .val (.int p3), .val (.int p4)] [(.int (p3 + p4)), (.ref a1)])) rfl rfl (hb hby d4_18)
  refine own_go (st6) ?_
  have Fw6 := f7.same W6
  have N6 := Fr.snoc X6 N3 g_a1
  show own_Go _ _ _ _ T6 (mkF m 21 #[.val (.ref a1), .val (.ref a2), .val (.int p3), .val (.int p4)] [])
  have f9 := ((((Keep.refl h0 [a1]).wr W2 (Or.inl (List.mem_of_getElem? (i := 0) rfl))).wr W3 (Or.inl (List.mem_of_getElem? (i := 0) rfl))).wr W6 (Or.inl (List.mem_of_getElem? (i := 0) rfl)))
  have f10 := (f8.wr W6)
  have f11 := ((Fw2.other W3 (Or.inr (slot_ne (Or.inr (hw _ (List.mem_of_getElem? (i := 22) rfl))) (Or.inl (hw _ (List.mem_of_getElem? (i := 24) rfl))) (by decide) (t := (.array .byte)) (t' := .int) (by decide) (by decide)))).other W6 (Or.inr (slot_ne (Or.inr (hw _ (List.mem_of_getElem? (i := 22) rfl))) (Or.inr (hw _ (List.mem_of_getElem? (i := 26) rfl))) (by decide) (t := (.array .byte)) (t' := .int) (by decide) (by decide))))
  have f12 := (Fw3.other W6 (Or.inr (slot_ne (Or.inl (hw _ (List.mem_of_getElem? (i := 24) rfl))) (Or.inr (hw _ (List.mem_of_getElem? (i := 26) rfl))) (by decide) (t := .int) (t' := .int) (by decide) (by decide))))
  exact own_retV X6 hx hret hlk (hb hby d4_21) (by decide) (by decide) (by first | exact ⟨rfl, N6, f9, f10, f11, f12, Fw6⟩ | (rw [e6]; exact ⟨rfl, N6, f9, f10, f11, f12, Fw6⟩))
set_option maxRecDepth 65536 in
set_option maxHeartbeats 40000000 in
theorem rm2 (l : Launch) (Z : State) (a0 : Array Value) (hw : ∀ d ∈ tables_1, d.before a0 Z = true) (ws : List Jvm.Cond) (a1 : Addr) (q e' : Int32) (h0 : Heap) (n0 : Nat) (Z0 : n0 ≤ h0.size) (F_p : Fld Z h0 a1 "com/example/cranfield/cranfield/engine/ByteReader" "position" "I" (.int q)) (F_e : Fld Z h0 a1 "com/example/cranfield/cranfield/engine/ByteReader" "end" "I" (.int e')) :
    own_Met l (⟨"com/example/cranfield/cranfield/engine/ByteReader", "hasRemaining", "()Z"⟩ : MethodName) prog_2_method_2_code 1 (some .boolean) ws ({ frames := 0, cells := 0, slots := 0, locals := 0 } : Room) Z #[(.ref a1)] h0 (fun v h L => v = some (.int (own_hr q e')) ∧ Fr n0 L ∧ h0 = h) := by
  refine own_body (plainFor_of_name (by first | (simp [plainName, overriddenIn]; done) | decide +kernel)) ?_
  intro p e s m below meth c s₁ X0 hx hby hml hown hnm hret hlk hZ e0
  have N0 := Fr.nil n0
  refine own_cast (show entryFrame m #[(.ref a1)] 1 = mkF m 0 #[.val (.ref a1)] [] from by first | (simp [entryFrame, mkF, argsToLocals, Value.category]; done) | rfl) ?_
  show own_Go _ _ _ _ s₁ (mkF m 0 #[.val (.ref a1)] [])
  refine own_go (fun _ k => XS.aloadN X0.here hx rfl (hb hby d7_0) rfl rfl k) ?_
  show own_Go _ _ _ _ s₁ (mkF m 1 #[.val (.ref a1)] [(.ref a1)])
  obtain ⟨T13, X13, e13, st13⟩ := getF X0 hx hZ hown (host := "") (Or.inl (hw _ (List.mem_of_getElem? (i := 23) rfl))) Via.refl e0 F_p (g := (mkF m 1 #[.val (.ref a1)] [(.ref a1)])) rfl rfl (hb hby d7_1)
  refine own_go (st13) ?_
  show own_Go _ _ _ _ T13 (mkF m 4 #[.val (.ref a1)] [(.int q)])
  refine own_go (fun _ k => XS.aloadN X13.here hx rfl (hb hby d7_4) rfl rfl k) ?_
  show own_Go _ _ _ _ T13 (mkF m 5 #[.val (.ref a1)] [(.ref a1), (.int q)])
  obtain ⟨T14, X14, e14, st14⟩ := getF X13 hx hZ hown (host := "") (Or.inl (hw _ (List.mem_of_getElem? (i := 25) rfl))) Via.refl e13 F_e (g := (mkF m 5 #[.val (.ref a1)] [(.ref a1), (.int q)])) rfl rfl (hb hby d7_5)
  refine own_go (st14) ?_
  show own_Go _ _ _ _ T14 (mkF m 8 #[.val (.ref a1)] [(.int e'), (.int q)])
  by_cases hc : q < e'
  · skip
    refine own_go (fun _ k => XS.icmpNo X14.here hx rfl (hb hby d7_8) rfl (tlt hc).2.1 k) ?_
    show own_Go _ _ _ _ T14 (mkF m 11 #[.val (.ref a1)] [])
    refine own_go (fun _ k => XS.iconst X14.here hx rfl (hb hby d7_11) k) ?_
    show own_Go _ _ _ _ T14 (mkF m 12 #[.val (.ref a1)] [(.int (1 : Int32))])
    refine own_go (fun _ k => XS.goto X14.here hx rfl (pc0 := 12) (pc' := 16) rfl (hb hby d7_12) (by decide) (by decide) k) ?_
    show own_Go _ _ _ _ T14 (mkF m 16 #[.val (.ref a1)] [(.int (1 : Int32))])
    exact own_retN X14 hx hret (by simp) hlk (hb hby d7_16) (by decide) (by decide) (by first | exact ⟨by rw [own_hr, if_pos hc]; rfl, N0, rfl⟩ | (rw [e14]; exact ⟨by rw [own_hr, if_pos hc]; rfl, N0, rfl⟩))
  · skip
    refine own_go (fun _ k => XS.icmpYes X14.here hx rfl (pc0 := 8) (pc' := 15) rfl (hb hby d7_8) rfl (flt hc).2.1 (by decide) (by decide) k) ?_
    show own_Go _ _ _ _ T14 (mkF m 15 #[.val (.ref a1)] [])
    refine own_go (fun _ k => XS.iconst X14.here hx rfl (hb hby d7_15) k) ?_
    show own_Go _ _ _ _ T14 (mkF m 16 #[.val (.ref a1)] [(.int (0 : Int32))])
    exact own_retN X14 hx hret (by simp) hlk (hb hby d7_16) (by decide) (by decide) (by first | exact ⟨by rw [own_hr, if_neg hc]; rfl, N0, rfl⟩ | (rw [e14]; exact ⟨by rw [own_hr, if_neg hc]; rfl, N0, rfl⟩))
set_option maxRecDepth 65536 in
set_option maxHeartbeats 40000000 in
theorem rm3 (l : Launch) (Z : State) (a0 : Array Value) (hw : ∀ d ∈ tables_1, d.before a0 Z = true) (ws : List Jvm.Cond) (a1 a2 : Addr) (s0 en : Int32) (kk : ClassId) (nn : Int32) (vs : List Value) (dv : Value) (f : Nat → Int32) (h0 : Heap) (n0 : Nat) (Z0 : n0 ≤ h0.size) (E_a1 : Exa Z h0 a1 "com/example/cranfield/cranfield/engine/ByteReader") (F_b : Fld Z h0 a1 "com/example/cranfield/cranfield/engine/ByteReader" "bytes" "[B" (.ref a2)) (F_p : Fld Z h0 a1 "com/example/cranfield/cranfield/engine/ByteReader" "position" "I" (.int s0)) (F_e : Fld Z h0 a1 "com/example/cranfield/cranfield/engine/ByteReader" "end" "I" (.int en)) (g_a1 : n0 ≤ a1) (ne_1_2 : a2 ≠ a1) (V_a2 : Arv Z h0 a2 kk .byte nn vs dv) (hf : ∀ i : Nat, vs.getD i dv = .int (f i)) (hs : 0 ≤ s0.toInt ∧ s0.toInt ≤ en.toInt ∧ en.toInt ≤ nn.toInt ∧ nn.toInt ≤ 1000) :
    own_Met l (⟨"com/example/cranfield/cranfield/engine/ByteReader", "readVarInt", "()I"⟩ : MethodName) prog_2_method_3_code 4 (some .int) ws ({ frames := 0, cells := 0, slots := 0, locals := 0 } : Room) Z #[(.ref a1)] h0 (fun v h L => v = some (.int (own_spec f s0 en).1) ∧ Fr n0 L ∧ Keep h0 h [a1] ∧ Exa Z h a1 "com/example/cranfield/cranfield/engine/ByteReader" ∧ Fld Z h a1 "com/example/cranfield/cranfield/engine/ByteReader" "bytes" "[B" (.ref a2) ∧ Fld Z h a1 "com/example/cranfield/cranfield/engine/ByteReader" "position" "I" (.int (s0 + (own_spec f s0 en).2)) ∧ Fld Z h a1 "com/example/cranfield/cranfield/engine/ByteReader" "end" "I" (.int en)) := by
  refine own_body (plainFor_of_name (by first | (simp [plainName, overriddenIn]; done) | decide +kernel)) ?_
  intro p e s m below meth c s₁ X0 hx hby hml hown hnm hret hlk hZ e0
  have N0 := Fr.nil n0
  refine own_cast (show entryFrame m #[(.ref a1)] 4 = mkF m 0 #[.val (.ref a1), .unset, .unset, .unset] [] from by first | (simp [entryFrame, mkF, argsToLocals, Value.category]; done) | rfl) ?_
  obtain ⟨hs1, hs2, hs3, hs4⟩ := hs
  have u0 : (s0).toInt = s0.toInt + 0 := by omega
  have v0 : (0 : Int32).toInt = 0 := by decide
  show own_Go _ _ _ _ s₁ (mkF m 0 #[.val (.ref a1), .unset, .unset, .unset] [])
  refine own_go (fun _ k => XS.iconst X0.here hx rfl (hb hby d6_0) k) ?_
  show own_Go _ _ _ _ s₁ (mkF m 1 #[.val (.ref a1), .unset, .unset, .unset] [(.int (0 : Int32))])
  refine own_go (fun _ k => XS.istoreN X0.here hx rfl (hb hby d6_1) rfl (l' := #[.val (.ref a1), .val (.int (0 : Int32)), .unset, .unset]) rfl k) ?_
  show own_Go _ _ _ _ s₁ (mkF m 2 #[.val (.ref a1), .val (.int (0 : Int32)), .unset, .unset] [])
  refine own_go (fun _ k => XS.iconst X0.here hx rfl (hb hby d6_2) k) ?_
  show own_Go _ _ _ _ s₁ (mkF m 3 #[.val (.ref a1), .val (.int (0 : Int32)), .unset, .unset] [(.int (0 : Int32))])
  refine own_go (fun _ k => XS.istoreN X0.here hx rfl (hb hby d6_3) rfl (l' := #[.val (.ref a1), .val (.int (0 : Int32)), .val (.int (0 : Int32)), .unset]) rfl k) ?_
  show own_Go _ _ _ _ s₁ (mkF m 4 #[.val (.ref a1), .val (.int (0 : Int32)), .val (.int (0 : Int32)), .unset] [])
  refine own_go (fun _ k => XS.iloadN X0.here hx rfl (hb hby d6_4) rfl k) ?_
  show own_Go _ _ _ _ s₁ (mkF m 5 #[.val (.ref a1), .val (.int (0 : Int32)), .val (.int (0 : Int32)), .unset] [(.int (0 : Int32))])
  refine own_go (fun _ k => XS.bipush X0.here hx rfl (hb hby d6_5) k) ?_
  show own_Go _ _ _ _ s₁ (mkF m 7 #[.val (.ref a1), .val (.int (0 : Int32)), .val (.int (0 : Int32)), .unset] [(.int (32 : Int32)), (.int (0 : Int32))])
  refine own_go (fun _ k => XS.icmpNo X0.here hx rfl (hb hby d6_7) rfl (tlt (by decide)).2.1 k) ?_
  show own_Go _ _ _ _ s₁ (mkF m 10 #[.val (.ref a1), .val (.int (0 : Int32)), .val (.int (0 : Int32)), .unset] [])
  refine own_go (fun _ k => XS.aloadN X0.here hx rfl (hb hby d6_10) rfl rfl k) ?_
  show own_Go _ _ _ _ s₁ (mkF m 11 #[.val (.ref a1), .val (.int (0 : Int32)), .val (.int (0 : Int32)), .unset] [(.ref a1)])
  obtain ⟨T15, X15, e15, st15⟩ := getF X0 hx hZ hown (host := "") (Or.inl (hw _ (List.mem_of_getElem? (i := 23) rfl))) Via.refl e0 F_p (g := (mkF m 11 #[.val (.ref a1), .val (.int (0 : Int32)), .val (.int (0 : Int32)), .unset] [(.ref a1)])) rfl rfl (hb hby d6_11)
  refine own_go (st15) ?_
  show own_Go _ _ _ _ T15 (mkF m 14 #[.val (.ref a1), .val (.int (0 : Int32)), .val (.int (0 : Int32)), .unset] [(.int s0)])
  refine own_go (fun _ k => XS.aloadN X15.here hx rfl (hb hby d6_14) rfl rfl k) ?_
  show own_Go _ _ _ _ T15 (mkF m 15 #[.val (.ref a1), .val (.int (0 : Int32)), .val (.int (0 : Int32)), .unset] [(.ref a1), (.int s0)])
  obtain ⟨T16, X16, e16, st16⟩ := getF X15 hx hZ hown (host := "") (Or.inl (hw _ (List.mem_of_getElem? (i := 25) rfl))) Via.refl e15 F_e (g := (mkF m 15 #[.val (.ref a1), .val (.int (0 : Int32)), .val (.int (0 : Int32)), .unset] [(.ref a1), (.int s0)])) rfl rfl (hb hby d6_15)
  refine own_go (st16) ?_
  show own_Go _ _ _ _ T16 (mkF m 18 #[.val (.ref a1), .val (.int (0 : Int32)), .val (.int (0 : Int32)), .unset] [(.int en), (.int s0)])
  by_cases he0 : s0 = en
  · skip
    refine own_go (fun _ k => XS.icmpNo X16.here hx rfl (hb hby d6_18) rfl (teq he0).2 k) ?_
    have heT := congrArg Int32.toInt he0
    have hz : ¬ s0 < en := own_nlt (by rw [own_sk0 hs1 (by omega)] <;> omega)
    show own_Go _ _ _ _ T16 (mkF m 21 #[.val (.ref a1), .val (.int (0 : Int32)), .val (.int (0 : Int32)), .unset] [])
    refine own_go (fun _ k => XS.iconst X16.here hx rfl (hb hby d6_21) k) ?_
    show own_Go _ _ _ _ T16 (mkF m 22 #[.val (.ref a1), .val (.int (0 : Int32)), .val (.int (0 : Int32)), .unset] [(.int (-1 : Int32))])
    have hsp := own_spA0 (f := f)  hz
    have hv : (-1 : Int32) = (own_spec f s0 en).1 := Eq.trans (rfl) (congrArg Prod.fst hsp).symm
    have hp : s0 = s0 + (own_spec f s0 en).2 := Eq.trans ((he0.trans (own_cancel s0 en).symm)) (congrArg (fun z : Int32 × Int32 => s0 + z.2) hsp).symm
    rw [hp] at F_p
    exact own_retI X16 hx hret hlk (hb hby d6_22) (by decide) (by decide) (by first | exact ⟨by rw [hv], N0, (Keep.refl h0 [a1]), E_a1, F_b, F_p, F_e⟩ | (rw [e16]; exact ⟨by rw [hv], N0, (Keep.refl h0 [a1]), E_a1, F_b, F_p, F_e⟩))
  · skip
    refine own_go (fun _ k => XS.icmpYes X16.here hx rfl (pc0 := 18) (pc' := 23) rfl (hb hby d6_18) rfl (feq he0).2 (by decide) (by decide) k) ?_
    have hq0 : ¬ s0.toInt = en.toInt := fun q => he0 (Int32.toInt_inj.mp q)
    have hlt0 : s0.toInt < en.toInt := by omega
    have hn0 : ¬ s0 < 0 := own_nlt (by show (0 : Int32).toInt ≤ _; rw [own_e0]; omega)
    show own_Go _ _ _ _ T16 (mkF m 23 #[.val (.ref a1), .val (.int (0 : Int32)), .val (.int (0 : Int32)), .unset] [])
    refine own_go (fun _ k => XS.aloadN X16.here hx rfl (hb hby d6_23) rfl rfl k) ?_
    show own_Go _ _ _ _ T16 (mkF m 24 #[.val (.ref a1), .val (.int (0 : Int32)), .val (.int (0 : Int32)), .unset] [(.ref a1)])
    obtain ⟨T17, X17, e17, st17⟩ := getF X16 hx hZ hown (host := "") (Or.inl (hw _ (List.mem_of_getElem? (i := 21) rfl))) Via.refl e16 F_b (g := (mkF m 24 #[.val (.ref a1), .val (.int (0 : Int32)), .val (.int (0 : Int32)), .unset] [(.ref a1)])) rfl rfl (hb hby d6_24)
    refine own_go (st17) ?_
    show own_Go _ _ _ _ T17 (mkF m 27 #[.val (.ref a1), .val (.int (0 : Int32)), .val (.int (0 : Int32)), .unset] [(.ref a2)])
    refine own_go (fun _ k => XS.aloadN X17.here hx rfl (hb hby d6_27) rfl rfl k) ?_
    show own_Go _ _ _ _ T17 (mkF m 28 #[.val (.ref a1), .val (.int (0 : Int32)), .val (.int (0 : Int32)), .unset] [(.ref a1), (.ref a2)])
    refine own_go (fun _ k => XS.dup X17.here hx rfl (hb hby d6_28) rfl rfl k) ?_
    show own_Go _ _ _ _ T17 (mkF m 29 #[.val (.ref a1), .val (.int (0 : Int32)), .val (.int (0 : Int32)), .unset] [(.ref a1), (.ref a1), (.ref a2)])
    obtain ⟨T18, X18, e18, st18⟩ := getF X17 hx hZ hown (host := "") (Or.inl (hw _ (List.mem_of_getElem? (i := 23) rfl))) Via.refl e17 F_p (g := (mkF m 29 #[.val (.ref a1), .val (.int (0 : Int32)), .val (.int (0 : Int32)), .unset] [(.ref a1), (.ref a1), (.ref a2)])) rfl rfl (hb hby d6_29)
    refine own_go (st18) ?_
    show own_Go _ _ _ _ T18 (mkF m 32 #[.val (.ref a1), .val (.int (0 : Int32)), .val (.int (0 : Int32)), .unset] [(.int s0), (.ref a1), (.ref a2)])
    refine own_go (fun _ k => XS.dupX1 X18.here hx rfl (hb hby d6_32) rfl rfl rfl k) ?_
    show own_Go _ _ _ _ T18 (mkF m 33 #[.val (.ref a1), .val (.int (0 : Int32)), .val (.int (0 : Int32)), .unset] [(.int s0), (.ref a1), (.int s0), (.ref a2)])
    refine own_go (fun _ k => XS.iconst X18.here hx rfl (hb hby d6_33) k) ?_
    show own_Go _ _ _ _ T18 (mkF m 34 #[.val (.ref a1), .val (.int (0 : Int32)), .val (.int (0 : Int32)), .unset] [(.int (1 : Int32)), (.int s0), (.ref a1), (.int s0), (.ref a2)])
    refine own_go (fun _ k => XS.iadd X18.here hx rfl (hb hby d6_34) rfl k) ?_
    show own_Go _ _ _ _ T18 (mkF m 35 #[.val (.ref a1), .val (.int (0 : Int32)), .val (.int (0 : Int32)), .unset] [(.int (s0 + (1 : Int32))), (.ref a1), (.int s0), (.ref a2)])
    obtain ⟨p1, hp1⟩ : ∃ z : Int32, z = (s0 + (1 : Int32)) := ⟨_, rfl⟩
    rw [← hp1]
    show own_Go _ _ _ _ T18 (mkF m 35 #[.val (.ref a1), .val (.int (0 : Int32)), .val (.int (0 : Int32)), .unset] [(.int p1), (.ref a1), (.int s0), (.ref a2)])
    obtain ⟨T19, h19, X19, e19, W19, st19⟩ := putF X18 hx hZ hown (host := "") (Or.inl (hw _ (List.mem_of_getElem? (i := 23) rfl))) Via.refl e18 F_p E_a1 (Or.inl (hw _ (List.mem_of_getElem? (i := 24) rfl))) (hw _ (List.mem_of_getElem? (i := 13) rfl)) (ty := .int) (by decide) rfl rfl (g := (mkF m 35 #[.val (.ref a1), .val (.int (0 : Int32)), .val (.int (0 : Int32)), .unset] [(.int p1), (.ref a1), (.int s0), (.ref a2)])) rfl rfl (hb hby d6_35)
    refine own_go (st19) ?_
    have Fw19 := F_p.same W19
    have N19 := Fr.snoc X19 N0 g_a1
    show own_Go _ _ _ _ T19 (mkF m 38 #[.val (.ref a1), .val (.int (0 : Int32)), .val (.int (0 : Int32)), .unset] [(.int s0), (.ref a2)])
    have f21 := (V_a2.other W19 ne_1_2)
    obtain ⟨cl20, Ar20, q20, S20, M20, H20, G20⟩ := f21
    have V20 : Arv Z h19 a2 kk .byte nn _ _ := ⟨cl20, Ar20, q20, S20, M20, H20, G20⟩
    have hin20 : ¬ (s0 < 0 ∨ cl20.slots.size ≤ (s0).toNatClampNeg) := inb_of S20 ⟨hn0, own_lt (by omega)⟩
    have hat20 : cl20.slots[(s0).toNatClampNeg]? = some (.int (f (s0).toNatClampNeg)) := H20.at hin20 (hf _)
    refine own_go (X19.baloadBytes hx (j := s0) (v := (.int (f (s0).toNatClampNeg))) (by rw [e19]; exact Ar20.1) (State.isArrayOf_alike hZ.alike Ar20.2.1) Ar20.2.2 hin20 hat20 (g := (mkF m 38 #[.val (.ref a1), .val (.int (0 : Int32)), .val (.int (0 : Int32)), .unset] [(.int s0), (.ref a2)])) rfl rfl (hb hby d6_38)) ?_
    show own_Go _ _ _ _ T19 (mkF m 39 #[.val (.ref a1), .val (.int (0 : Int32)), .val (.int (0 : Int32)), .unset] [(.int (f (s0).toNatClampNeg))])
    refine own_go (fun _ k => XS.sipush X19.here hx rfl (hb hby d6_39) k) ?_
    show own_Go _ _ _ _ T19 (mkF m 42 #[.val (.ref a1), .val (.int (0 : Int32)), .val (.int (0 : Int32)), .unset] [(.int (255 : Int32)), (.int (f (s0).toNatClampNeg))])
    refine own_go (fun _ k => XS.iand X19.here hx rfl (hb hby d6_42) rfl k) ?_
    show own_Go _ _ _ _ T19 (mkF m 43 #[.val (.ref a1), .val (.int (0 : Int32)), .val (.int (0 : Int32)), .unset] [(.int ((f (s0).toNatClampNeg) &&& (255 : Int32)))])
    obtain ⟨c0, hc0⟩ : ∃ z : Int32, z = ((f (s0).toNatClampNeg) &&& (255 : Int32)) := ⟨_, rfl⟩
    rw [← hc0]
    have ha0 : own_a f s0 en = c0 := own_tA (by rw [own_sk0 hs1 (by omega)] <;> omega) hlt0 hc0
    have hd0 := own_tC hc0
    have u1 : p1.toInt = s0.toInt + 1 := by rw [hp1, own_inc _ _ (own_lt hlt0)] <;> omega
    show own_Go _ _ _ _ T19 (mkF m 43 #[.val (.ref a1), .val (.int (0 : Int32)), .val (.int (0 : Int32)), .unset] [(.int c0)])
    refine own_go (fun _ k => XS.istoreN X19.here hx rfl (hb hby d6_43) rfl (l' := #[.val (.ref a1), .val (.int (0 : Int32)), .val (.int (0 : Int32)), .val (.int c0)]) rfl k) ?_
    show own_Go _ _ _ _ T19 (mkF m 44 #[.val (.ref a1), .val (.int (0 : Int32)), .val (.int (0 : Int32)), .val (.int c0)] [])
    refine own_go (fun _ k => XS.iloadN X19.here hx rfl (hb hby d6_44) rfl k) ?_
    show own_Go _ _ _ _ T19 (mkF m 45 #[.val (.ref a1), .val (.int (0 : Int32)), .val (.int (0 : Int32)), .val (.int c0)] [(.int (0 : Int32))])
    refine own_go (fun _ k => XS.iloadN X19.here hx rfl (hb hby d6_45) rfl k) ?_
    show own_Go _ _ _ _ T19 (mkF m 46 #[.val (.ref a1), .val (.int (0 : Int32)), .val (.int (0 : Int32)), .val (.int c0)] [(.int c0), (.int (0 : Int32))])
    refine own_go (fun _ k => XS.bipush X19.here hx rfl (hb hby d6_46) k) ?_
    show own_Go _ _ _ _ T19 (mkF m 48 #[.val (.ref a1), .val (.int (0 : Int32)), .val (.int (0 : Int32)), .val (.int c0)] [(.int (127 : Int32)), (.int c0), (.int (0 : Int32))])
    refine own_go (fun _ k => XS.iand X19.here hx rfl (hb hby d6_48) rfl k) ?_
    show own_Go _ _ _ _ T19 (mkF m 49 #[.val (.ref a1), .val (.int (0 : Int32)), .val (.int (0 : Int32)), .val (.int c0)] [(.int (c0 &&& (127 : Int32))), (.int (0 : Int32))])
    refine own_go (fun _ k => XS.iloadN X19.here hx rfl (hb hby d6_49) rfl k) ?_
    show own_Go _ _ _ _ T19 (mkF m 50 #[.val (.ref a1), .val (.int (0 : Int32)), .val (.int (0 : Int32)), .val (.int c0)] [(.int (0 : Int32)), (.int (c0 &&& (127 : Int32))), (.int (0 : Int32))])
    refine own_go (fun _ k => XS.ishl X19.here hx rfl (hb hby d6_50) rfl k) ?_
    show own_Go _ _ _ _ T19 (mkF m 51 #[.val (.ref a1), .val (.int (0 : Int32)), .val (.int (0 : Int32)), .val (.int c0)] [(.int ((c0 &&& (127 : Int32)) <<< ((0 : Int32) &&& 31))), (.int (0 : Int32))])
    refine own_go (fun _ k => XS.ior X19.here hx rfl (hb hby d6_51) rfl k) ?_
    show own_Go _ _ _ _ T19 (mkF m 52 #[.val (.ref a1), .val (.int (0 : Int32)), .val (.int (0 : Int32)), .val (.int c0)] [(.int ((0 : Int32) ||| ((c0 &&& (127 : Int32)) <<< ((0 : Int32) &&& 31))))])
    obtain ⟨r1, hr1⟩ : ∃ z : Int32, z = ((0 : Int32) ||| ((c0 &&& (127 : Int32)) <<< ((0 : Int32) &&& 31))) := ⟨_, rfl⟩
    rw [← hr1]
    show own_Go _ _ _ _ T19 (mkF m 52 #[.val (.ref a1), .val (.int (0 : Int32)), .val (.int (0 : Int32)), .val (.int c0)] [(.int r1)])
    refine own_go (fun _ k => XS.istoreN X19.here hx rfl (hb hby d6_52) rfl (l' := #[.val (.ref a1), .val (.int r1), .val (.int (0 : Int32)), .val (.int c0)]) rfl k) ?_
    show own_Go _ _ _ _ T19 (mkF m 53 #[.val (.ref a1), .val (.int r1), .val (.int (0 : Int32)), .val (.int c0)] [])
    refine own_go (fun _ k => XS.iloadN X19.here hx rfl (hb hby d6_53) rfl k) ?_
    show own_Go _ _ _ _ T19 (mkF m 54 #[.val (.ref a1), .val (.int r1), .val (.int (0 : Int32)), .val (.int c0)] [(.int c0)])
    refine own_go (fun _ k => XS.sipush X19.here hx rfl (hb hby d6_54) k) ?_
    show own_Go _ _ _ _ T19 (mkF m 57 #[.val (.ref a1), .val (.int r1), .val (.int (0 : Int32)), .val (.int c0)] [(.int (128 : Int32)), (.int c0)])
    refine own_go (fun _ k => XS.iand X19.here hx rfl (hb hby d6_57) rfl k) ?_
    show own_Go _ _ _ _ T19 (mkF m 58 #[.val (.ref a1), .val (.int r1), .val (.int (0 : Int32)), .val (.int c0)] [(.int (c0 &&& (128 : Int32)))])
    by_cases hg0 : (c0 &&& (128 : Int32)) = (0 : Int32)
    · skip
      refine own_go (fun _ k => XS.ifNo X19.here hx rfl (hb hby d6_58) rfl ((if0 _ _).trans (teq hg0).2) k) ?_
      have hh := (own_t128 hd0).mp hg0
      show own_Go _ _ _ _ T19 (mkF m 61 #[.val (.ref a1), .val (.int r1), .val (.int (0 : Int32)), .val (.int c0)] [])
      refine own_go (fun _ k => XS.iloadN X19.here hx rfl (hb hby d6_61) rfl k) ?_
      show own_Go _ _ _ _ T19 (mkF m 62 #[.val (.ref a1), .val (.int r1), .val (.int (0 : Int32)), .val (.int c0)] [(.int (0 : Int32))])
      refine own_go (fun _ k => XS.bipush X19.here hx rfl (hb hby d6_62) k) ?_
      show own_Go _ _ _ _ T19 (mkF m 64 #[.val (.ref a1), .val (.int r1), .val (.int (0 : Int32)), .val (.int c0)] [(.int (28 : Int32)), (.int (0 : Int32))])
      refine own_go (fun _ k => XS.icmpYes X19.here hx rfl (pc0 := 64) (pc' := 77) rfl (hb hby d6_64) rfl (feq (by decide)).2 (by decide) (by decide) k) ?_
      have v1 : r1.toInt = (0 : Int32).toInt + c0.toInt % 128 * 1 := by rw [hr1]; exact own_tR0 _ _ (by omega) (by omega)
      show own_Go _ _ _ _ T19 (mkF m 77 #[.val (.ref a1), .val (.int r1), .val (.int (0 : Int32)), .val (.int c0)] [])
      refine own_go (fun _ k => XS.iloadN X19.here hx rfl (hb hby d6_77) rfl k) ?_
      show own_Go _ _ _ _ T19 (mkF m 78 #[.val (.ref a1), .val (.int r1), .val (.int (0 : Int32)), .val (.int c0)] [(.int r1)])
      have f22 := ((Keep.refl h0 [a1]).wr W19 (Or.inl (List.mem_of_getElem? (i := 0) rfl)))
      have f23 := (E_a1.wr W19)
      have f24 := (F_b.other W19 (Or.inr (slot_ne (Or.inr (hw _ (List.mem_of_getElem? (i := 22) rfl))) (Or.inl (hw _ (List.mem_of_getElem? (i := 24) rfl))) (by decide) (t := (.array .byte)) (t' := .int) (by decide) (by decide))))
      have f25 := (F_e.other W19 (Or.inr (slot_ne (Or.inr (hw _ (List.mem_of_getElem? (i := 26) rfl))) (Or.inl (hw _ (List.mem_of_getElem? (i := 24) rfl))) (by decide) (t := .int) (t' := .int) (by decide) (by decide))))
      have hsp := own_spB0  ha0 hd0.1 hh
      have hv : r1 = (own_spec f s0 en).1 := Eq.trans (own_val0 hd0 (by omega)) (congrArg Prod.fst hsp).symm
      have hp : p1 = s0 + (own_spec f s0 en).2 := Eq.trans (own_step1 hs1 (by omega) (by omega)) (congrArg (fun z : Int32 × Int32 => s0 + z.2) hsp).symm
      rw [hp] at Fw19
      exact own_retI X19 hx hret hlk (hb hby d6_78) (by decide) (by decide) (by first | exact ⟨by rw [hv], N19, f22, f23, f24, Fw19, f25⟩ | (rw [e19]; exact ⟨by rw [hv], N19, f22, f23, f24, Fw19, f25⟩))
    · skip
      refine own_go (fun _ k => XS.ifYes X19.here hx rfl (pc0 := 58) (pc' := 79) rfl (hb hby d6_58) rfl ((if0 _ _).trans (feq hg0).2) (by decide) (by decide) k) ?_
      have hb0 : 128 ≤ c0.toInt := by
        have hx' : ¬ c0.toInt < 128 := fun q => hg0 ((own_t128 hd0).mpr q)
        omega
      have v1 : r1.toInt = (0 : Int32).toInt + c0.toInt % 128 * 1 := by rw [hr1]; exact own_tR0 _ _ (by omega) (by omega)
      show own_Go _ _ _ _ T19 (mkF m 79 #[.val (.ref a1), .val (.int r1), .val (.int (0 : Int32)), .val (.int c0)] [])
      refine own_go (fun _ k => XS.iinc X19.here hx rfl (hb hby d6_79) rfl (l' := #[.val (.ref a1), .val (.int r1), .val (.int ((0 : Int32) + (7 : Int32))), .val (.int c0)]) rfl k) ?_
      show own_Go _ _ _ _ T19 (mkF m 82 #[.val (.ref a1), .val (.int r1), .val (.int ((0 : Int32) + (7 : Int32))), .val (.int c0)] [])
      rw [show ((0 : Int32) + (7 : Int32)) = (7 : Int32) from by decide]
      show own_Go _ _ _ _ T19 (mkF m 82 #[.val (.ref a1), .val (.int r1), .val (.int (7 : Int32)), .val (.int c0)] [])
      refine own_go (fun _ k => XS.goto X19.here hx rfl (pc0 := 82) (pc' := 4) rfl (hb hby d6_82) (by decide) (by decide) k) ?_
      show own_Go _ _ _ _ T19 (mkF m 4 #[.val (.ref a1), .val (.int r1), .val (.int (7 : Int32)), .val (.int c0)] [])
      refine own_go (fun _ k => XS.iloadN X19.here hx rfl (hb hby d6_4) rfl k) ?_
      show own_Go _ _ _ _ T19 (mkF m 5 #[.val (.ref a1), .val (.int r1), .val (.int (7 : Int32)), .val (.int c0)] [(.int (7 : Int32))])
      refine own_go (fun _ k => XS.bipush X19.here hx rfl (hb hby d6_5) k) ?_
      show own_Go _ _ _ _ T19 (mkF m 7 #[.val (.ref a1), .val (.int r1), .val (.int (7 : Int32)), .val (.int c0)] [(.int (32 : Int32)), (.int (7 : Int32))])
      refine own_go (fun _ k => XS.icmpNo X19.here hx rfl (hb hby d6_7) rfl (tlt (by decide)).2.1 k) ?_
      show own_Go _ _ _ _ T19 (mkF m 10 #[.val (.ref a1), .val (.int r1), .val (.int (7 : Int32)), .val (.int c0)] [])
      refine own_go (fun _ k => XS.aloadN X19.here hx rfl (hb hby d6_10) rfl rfl k) ?_
      show own_Go _ _ _ _ T19 (mkF m 11 #[.val (.ref a1), .val (.int r1), .val (.int (7 : Int32)), .val (.int c0)] [(.ref a1)])
      obtain ⟨T26, X26, e26, st26⟩ := getF X19 hx hZ hown (host := "") (Or.inl (hw _ (List.mem_of_getElem? (i := 23) rfl))) Via.refl e19 Fw19 (g := (mkF m 11 #[.val (.ref a1), .val (.int r1), .val (.int (7 : Int32)), .val (.int c0)] [(.ref a1)])) rfl rfl (hb hby d6_11)
      refine own_go (st26) ?_
      show own_Go _ _ _ _ T26 (mkF m 14 #[.val (.ref a1), .val (.int r1), .val (.int (7 : Int32)), .val (.int c0)] [(.int p1)])
      refine own_go (fun _ k => XS.aloadN X26.here hx rfl (hb hby d6_14) rfl rfl k) ?_
      show own_Go _ _ _ _ T26 (mkF m 15 #[.val (.ref a1), .val (.int r1), .val (.int (7 : Int32)), .val (.int c0)] [(.ref a1), (.int p1)])
      have f27 := (F_e.other W19 (Or.inr (slot_ne (Or.inr (hw _ (List.mem_of_getElem? (i := 26) rfl))) (Or.inl (hw _ (List.mem_of_getElem? (i := 24) rfl))) (by decide) (t := .int) (t' := .int) (by decide) (by decide))))
      obtain ⟨T28, X28, e28, st28⟩ := getF X26 hx hZ hown (host := "") (Or.inl (hw _ (List.mem_of_getElem? (i := 25) rfl))) Via.refl e26 f27 (g := (mkF m 15 #[.val (.ref a1), .val (.int r1), .val (.int (7 : Int32)), .val (.int c0)] [(.ref a1), (.int p1)])) rfl rfl (hb hby d6_15)
      refine own_go (st28) ?_
      show own_Go _ _ _ _ T28 (mkF m 18 #[.val (.ref a1), .val (.int r1), .val (.int (7 : Int32)), .val (.int c0)] [(.int en), (.int p1)])
      by_cases he1 : p1 = en
      · skip
        refine own_go (fun _ k => XS.icmpNo X28.here hx rfl (hb hby d6_18) rfl (teq he1).2 k) ?_
        have heT := congrArg Int32.toInt he1
        have hz : ¬ (s0 + (1 : Int32)) < en := own_nlt (by rw [own_sk1 hs1 (by omega)] <;> omega)
        show own_Go _ _ _ _ T28 (mkF m 21 #[.val (.ref a1), .val (.int r1), .val (.int (7 : Int32)), .val (.int c0)] [])
        refine own_go (fun _ k => XS.iconst X28.here hx rfl (hb hby d6_21) k) ?_
        show own_Go _ _ _ _ T28 (mkF m 22 #[.val (.ref a1), .val (.int r1), .val (.int (7 : Int32)), .val (.int c0)] [(.int (-1 : Int32))])
        have f29 := ((Keep.refl h0 [a1]).wr W19 (Or.inl (List.mem_of_getElem? (i := 0) rfl)))
        have f30 := (E_a1.wr W19)
        have f31 := (F_b.other W19 (Or.inr (slot_ne (Or.inr (hw _ (List.mem_of_getElem? (i := 22) rfl))) (Or.inl (hw _ (List.mem_of_getElem? (i := 24) rfl))) (by decide) (t := (.array .byte)) (t' := .int) (by decide) (by decide))))
        have hsp := own_spA1 (f := f) ha0 hb0 hz
        have hv : (-1 : Int32) = (own_spec f s0 en).1 := Eq.trans (rfl) (congrArg Prod.fst hsp).symm
        have hp : p1 = s0 + (own_spec f s0 en).2 := Eq.trans ((he1.trans (own_cancel s0 en).symm)) (congrArg (fun z : Int32 × Int32 => s0 + z.2) hsp).symm
        rw [hp] at Fw19
        exact own_retI X28 hx hret hlk (hb hby d6_22) (by decide) (by decide) (by first | exact ⟨by rw [hv], N19, f29, f30, f31, Fw19, f27⟩ | (rw [e28]; exact ⟨by rw [hv], N19, f29, f30, f31, Fw19, f27⟩))
      · skip
        refine own_go (fun _ k => XS.icmpYes X28.here hx rfl (pc0 := 18) (pc' := 23) rfl (hb hby d6_18) rfl (feq he1).2 (by decide) (by decide) k) ?_
        have hq1 : ¬ p1.toInt = en.toInt := fun q => he1 (Int32.toInt_inj.mp q)
        have hlt1 : p1.toInt < en.toInt := by omega
        have hn1 : ¬ p1 < 0 := own_nlt (by show (0 : Int32).toInt ≤ _; rw [own_e0]; omega)
        show own_Go _ _ _ _ T28 (mkF m 23 #[.val (.ref a1), .val (.int r1), .val (.int (7 : Int32)), .val (.int c0)] [])
        refine own_go (fun _ k => XS.aloadN X28.here hx rfl (hb hby d6_23) rfl rfl k) ?_
        show own_Go _ _ _ _ T28 (mkF m 24 #[.val (.ref a1), .val (.int r1), .val (.int (7 : Int32)), .val (.int c0)] [(.ref a1)])
        have f32 := (F_b.other W19 (Or.inr (slot_ne (Or.inr (hw _ (List.mem_of_getElem? (i := 22) rfl))) (Or.inl (hw _ (List.mem_of_getElem? (i := 24) rfl))) (by decide) (t := (.array .byte)) (t' := .int) (by decide) (by decide))))
        obtain ⟨T33, X33, e33, st33⟩ := getF X28 hx hZ hown (host := "") (Or.inl (hw _ (List.mem_of_getElem? (i := 21) rfl))) Via.refl e28 f32 (g := (mkF m 24 #[.val (.ref a1), .val (.int r1), .val (.int (7 : Int32)), .val (.int c0)] [(.ref a1)])) rfl rfl (hb hby d6_24)
        refine own_go (st33) ?_
        show own_Go _ _ _ _ T33 (mkF m 27 #[.val (.ref a1), .val (.int r1), .val (.int (7 : Int32)), .val (.int c0)] [(.ref a2)])
        refine own_go (fun _ k => XS.aloadN X33.here hx rfl (hb hby d6_27) rfl rfl k) ?_
        show own_Go _ _ _ _ T33 (mkF m 28 #[.val (.ref a1), .val (.int r1), .val (.int (7 : Int32)), .val (.int c0)] [(.ref a1), (.ref a2)])
        refine own_go (fun _ k => XS.dup X33.here hx rfl (hb hby d6_28) rfl rfl k) ?_
        show own_Go _ _ _ _ T33 (mkF m 29 #[.val (.ref a1), .val (.int r1), .val (.int (7 : Int32)), .val (.int c0)] [(.ref a1), (.ref a1), (.ref a2)])
        obtain ⟨T34, X34, e34, st34⟩ := getF X33 hx hZ hown (host := "") (Or.inl (hw _ (List.mem_of_getElem? (i := 23) rfl))) Via.refl e33 Fw19 (g := (mkF m 29 #[.val (.ref a1), .val (.int r1), .val (.int (7 : Int32)), .val (.int c0)] [(.ref a1), (.ref a1), (.ref a2)])) rfl rfl (hb hby d6_29)
        refine own_go (st34) ?_
        show own_Go _ _ _ _ T34 (mkF m 32 #[.val (.ref a1), .val (.int r1), .val (.int (7 : Int32)), .val (.int c0)] [(.int p1), (.ref a1), (.ref a2)])
        refine own_go (fun _ k => XS.dupX1 X34.here hx rfl (hb hby d6_32) rfl rfl rfl k) ?_
        show own_Go _ _ _ _ T34 (mkF m 33 #[.val (.ref a1), .val (.int r1), .val (.int (7 : Int32)), .val (.int c0)] [(.int p1), (.ref a1), (.int p1), (.ref a2)])
        refine own_go (fun _ k => XS.iconst X34.here hx rfl (hb hby d6_33) k) ?_
        show own_Go _ _ _ _ T34 (mkF m 34 #[.val (.ref a1), .val (.int r1), .val (.int (7 : Int32)), .val (.int c0)] [(.int (1 : Int32)), (.int p1), (.ref a1), (.int p1), (.ref a2)])
        refine own_go (fun _ k => XS.iadd X34.here hx rfl (hb hby d6_34) rfl k) ?_
        show own_Go _ _ _ _ T34 (mkF m 35 #[.val (.ref a1), .val (.int r1), .val (.int (7 : Int32)), .val (.int c0)] [(.int (p1 + (1 : Int32))), (.ref a1), (.int p1), (.ref a2)])
        obtain ⟨p2, hp2⟩ : ∃ z : Int32, z = (p1 + (1 : Int32)) := ⟨_, rfl⟩
        rw [← hp2]
        show own_Go _ _ _ _ T34 (mkF m 35 #[.val (.ref a1), .val (.int r1), .val (.int (7 : Int32)), .val (.int c0)] [(.int p2), (.ref a1), (.int p1), (.ref a2)])
        have f36 := (E_a1.wr W19)
        obtain ⟨T35, h35, X35, e35, W35, st35⟩ := putF X34 hx hZ hown (host := "") (Or.inl (hw _ (List.mem_of_getElem? (i := 23) rfl))) Via.refl e34 Fw19 f36 (Or.inl (hw _ (List.mem_of_getElem? (i := 24) rfl))) (hw _ (List.mem_of_getElem? (i := 13) rfl)) (ty := .int) (by decide) rfl rfl (g := (mkF m 35 #[.val (.ref a1), .val (.int r1), .val (.int (7 : Int32)), .val (.int c0)] [(.int p2), (.ref a1), (.int p1), (.ref a2)])) rfl rfl (hb hby d6_35)
        refine own_go (st35) ?_
        have Fw35 := Fw19.same W35
        have N35 := Fr.snoc X35 N19 g_a1
        show own_Go _ _ _ _ T35 (mkF m 38 #[.val (.ref a1), .val (.int r1), .val (.int (7 : Int32)), .val (.int c0)] [(.int p1), (.ref a2)])
        have f38 := (V20.other W35 ne_1_2)
        obtain ⟨cl37, Ar37, q37, S37, M37, H37, G37⟩ := f38
        have V37 : Arv Z h35 a2 kk .byte nn _ _ := ⟨cl37, Ar37, q37, S37, M37, H37, G37⟩
        have hin37 : ¬ (p1 < 0 ∨ cl37.slots.size ≤ (p1).toNatClampNeg) := inb_of S37 ⟨hn1, own_lt (by omega)⟩
        have hat37 : cl37.slots[(p1).toNatClampNeg]? = some (.int (f (p1).toNatClampNeg)) := H37.at hin37 (hf _)
        refine own_go (X35.baloadBytes hx (j := p1) (v := (.int (f (p1).toNatClampNeg))) (by rw [e35]; exact Ar37.1) (State.isArrayOf_alike hZ.alike Ar37.2.1) Ar37.2.2 hin37 hat37 (g := (mkF m 38 #[.val (.ref a1), .val (.int r1), .val (.int (7 : Int32)), .val (.int c0)] [(.int p1), (.ref a2)])) rfl rfl (hb hby d6_38)) ?_
        show own_Go _ _ _ _ T35 (mkF m 39 #[.val (.ref a1), .val (.int r1), .val (.int (7 : Int32)), .val (.int c0)] [(.int (f (p1).toNatClampNeg))])
        refine own_go (fun _ k => XS.sipush X35.here hx rfl (hb hby d6_39) k) ?_
        show own_Go _ _ _ _ T35 (mkF m 42 #[.val (.ref a1), .val (.int r1), .val (.int (7 : Int32)), .val (.int c0)] [(.int (255 : Int32)), (.int (f (p1).toNatClampNeg))])
        refine own_go (fun _ k => XS.iand X35.here hx rfl (hb hby d6_42) rfl k) ?_
        show own_Go _ _ _ _ T35 (mkF m 43 #[.val (.ref a1), .val (.int r1), .val (.int (7 : Int32)), .val (.int c0)] [(.int ((f (p1).toNatClampNeg) &&& (255 : Int32)))])
        obtain ⟨c1, hc1⟩ : ∃ z : Int32, z = ((f (p1).toNatClampNeg) &&& (255 : Int32)) := ⟨_, rfl⟩
        rw [← hc1]
        have ha1 : own_a f (s0 + (1 : Int32)) en = c1 := own_tA (by rw [own_sk1 hs1 (by omega)] <;> omega) hlt1 hc1
        have hd1 := own_tC hc1
        have u2 : p2.toInt = s0.toInt + 2 := by rw [hp2, own_inc _ _ (own_lt hlt1)] <;> omega
        show own_Go _ _ _ _ T35 (mkF m 43 #[.val (.ref a1), .val (.int r1), .val (.int (7 : Int32)), .val (.int c0)] [(.int c1)])
        refine own_go (fun _ k => XS.istoreN X35.here hx rfl (hb hby d6_43) rfl (l' := #[.val (.ref a1), .val (.int r1), .val (.int (7 : Int32)), .val (.int c1)]) rfl k) ?_
        show own_Go _ _ _ _ T35 (mkF m 44 #[.val (.ref a1), .val (.int r1), .val (.int (7 : Int32)), .val (.int c1)] [])
        refine own_go (fun _ k => XS.iloadN X35.here hx rfl (hb hby d6_44) rfl k) ?_
        show own_Go _ _ _ _ T35 (mkF m 45 #[.val (.ref a1), .val (.int r1), .val (.int (7 : Int32)), .val (.int c1)] [(.int r1)])
        refine own_go (fun _ k => XS.iloadN X35.here hx rfl (hb hby d6_45) rfl k) ?_
        show own_Go _ _ _ _ T35 (mkF m 46 #[.val (.ref a1), .val (.int r1), .val (.int (7 : Int32)), .val (.int c1)] [(.int c1), (.int r1)])
        refine own_go (fun _ k => XS.bipush X35.here hx rfl (hb hby d6_46) k) ?_
        show own_Go _ _ _ _ T35 (mkF m 48 #[.val (.ref a1), .val (.int r1), .val (.int (7 : Int32)), .val (.int c1)] [(.int (127 : Int32)), (.int c1), (.int r1)])
        refine own_go (fun _ k => XS.iand X35.here hx rfl (hb hby d6_48) rfl k) ?_
        show own_Go _ _ _ _ T35 (mkF m 49 #[.val (.ref a1), .val (.int r1), .val (.int (7 : Int32)), .val (.int c1)] [(.int (c1 &&& (127 : Int32))), (.int r1)])
        refine own_go (fun _ k => XS.iloadN X35.here hx rfl (hb hby d6_49) rfl k) ?_
        show own_Go _ _ _ _ T35 (mkF m 50 #[.val (.ref a1), .val (.int r1), .val (.int (7 : Int32)), .val (.int c1)] [(.int (7 : Int32)), (.int (c1 &&& (127 : Int32))), (.int r1)])
        refine own_go (fun _ k => XS.ishl X35.here hx rfl (hb hby d6_50) rfl k) ?_
        show own_Go _ _ _ _ T35 (mkF m 51 #[.val (.ref a1), .val (.int r1), .val (.int (7 : Int32)), .val (.int c1)] [(.int ((c1 &&& (127 : Int32)) <<< ((7 : Int32) &&& 31))), (.int r1)])
        refine own_go (fun _ k => XS.ior X35.here hx rfl (hb hby d6_51) rfl k) ?_
        show own_Go _ _ _ _ T35 (mkF m 52 #[.val (.ref a1), .val (.int r1), .val (.int (7 : Int32)), .val (.int c1)] [(.int (r1 ||| ((c1 &&& (127 : Int32)) <<< ((7 : Int32) &&& 31))))])
        obtain ⟨r2, hr2⟩ : ∃ z : Int32, z = (r1 ||| ((c1 &&& (127 : Int32)) <<< ((7 : Int32) &&& 31))) := ⟨_, rfl⟩
        rw [← hr2]
        show own_Go _ _ _ _ T35 (mkF m 52 #[.val (.ref a1), .val (.int r1), .val (.int (7 : Int32)), .val (.int c1)] [(.int r2)])
        refine own_go (fun _ k => XS.istoreN X35.here hx rfl (hb hby d6_52) rfl (l' := #[.val (.ref a1), .val (.int r2), .val (.int (7 : Int32)), .val (.int c1)]) rfl k) ?_
        show own_Go _ _ _ _ T35 (mkF m 53 #[.val (.ref a1), .val (.int r2), .val (.int (7 : Int32)), .val (.int c1)] [])
        refine own_go (fun _ k => XS.iloadN X35.here hx rfl (hb hby d6_53) rfl k) ?_
        show own_Go _ _ _ _ T35 (mkF m 54 #[.val (.ref a1), .val (.int r2), .val (.int (7 : Int32)), .val (.int c1)] [(.int c1)])
        refine own_go (fun _ k => XS.sipush X35.here hx rfl (hb hby d6_54) k) ?_
        show own_Go _ _ _ _ T35 (mkF m 57 #[.val (.ref a1), .val (.int r2), .val (.int (7 : Int32)), .val (.int c1)] [(.int (128 : Int32)), (.int c1)])
        refine own_go (fun _ k => XS.iand X35.here hx rfl (hb hby d6_57) rfl k) ?_
        show own_Go _ _ _ _ T35 (mkF m 58 #[.val (.ref a1), .val (.int r2), .val (.int (7 : Int32)), .val (.int c1)] [(.int (c1 &&& (128 : Int32)))])
        by_cases hg1 : (c1 &&& (128 : Int32)) = (0 : Int32)
        · skip
          refine own_go (fun _ k => XS.ifNo X35.here hx rfl (hb hby d6_58) rfl ((if0 _ _).trans (teq hg1).2) k) ?_
          have hh := (own_t128 hd1).mp hg1
          show own_Go _ _ _ _ T35 (mkF m 61 #[.val (.ref a1), .val (.int r2), .val (.int (7 : Int32)), .val (.int c1)] [])
          refine own_go (fun _ k => XS.iloadN X35.here hx rfl (hb hby d6_61) rfl k) ?_
          show own_Go _ _ _ _ T35 (mkF m 62 #[.val (.ref a1), .val (.int r2), .val (.int (7 : Int32)), .val (.int c1)] [(.int (7 : Int32))])
          refine own_go (fun _ k => XS.bipush X35.here hx rfl (hb hby d6_62) k) ?_
          show own_Go _ _ _ _ T35 (mkF m 64 #[.val (.ref a1), .val (.int r2), .val (.int (7 : Int32)), .val (.int c1)] [(.int (28 : Int32)), (.int (7 : Int32))])
          refine own_go (fun _ k => XS.icmpYes X35.here hx rfl (pc0 := 64) (pc' := 77) rfl (hb hby d6_64) rfl (feq (by decide)).2 (by decide) (by decide) k) ?_
          have v2 : r2.toInt = r1.toInt + c1.toInt % 128 * 128 := by rw [hr2]; exact own_tR1 _ _ (by omega) (by omega)
          show own_Go _ _ _ _ T35 (mkF m 77 #[.val (.ref a1), .val (.int r2), .val (.int (7 : Int32)), .val (.int c1)] [])
          refine own_go (fun _ k => XS.iloadN X35.here hx rfl (hb hby d6_77) rfl k) ?_
          show own_Go _ _ _ _ T35 (mkF m 78 #[.val (.ref a1), .val (.int r2), .val (.int (7 : Int32)), .val (.int c1)] [(.int r2)])
          have f39 := (((Keep.refl h0 [a1]).wr W19 (Or.inl (List.mem_of_getElem? (i := 0) rfl))).wr W35 (Or.inl (List.mem_of_getElem? (i := 0) rfl)))
          have f40 := (f36.wr W35)
          have f41 := (f32.other W35 (Or.inr (slot_ne (Or.inr (hw _ (List.mem_of_getElem? (i := 22) rfl))) (Or.inl (hw _ (List.mem_of_getElem? (i := 24) rfl))) (by decide) (t := (.array .byte)) (t' := .int) (by decide) (by decide))))
          have f42 := (f27.other W35 (Or.inr (slot_ne (Or.inr (hw _ (List.mem_of_getElem? (i := 26) rfl))) (Or.inl (hw _ (List.mem_of_getElem? (i := 24) rfl))) (by decide) (t := .int) (t' := .int) (by decide) (by decide))))
          have hsp := own_spB1 ha0 hb0 ha1 hd1.1 hh
          have hv : r2 = (own_spec f s0 en).1 := Eq.trans (own_val1 hd0 hd1 (by omega)) (congrArg Prod.fst hsp).symm
          have hp : p2 = s0 + (own_spec f s0 en).2 := Eq.trans (own_step2 hs1 (by omega) (by omega)) (congrArg (fun z : Int32 × Int32 => s0 + z.2) hsp).symm
          rw [hp] at Fw35
          exact own_retI X35 hx hret hlk (hb hby d6_78) (by decide) (by decide) (by first | exact ⟨by rw [hv], N35, f39, f40, f41, Fw35, f42⟩ | (rw [e35]; exact ⟨by rw [hv], N35, f39, f40, f41, Fw35, f42⟩))
        · skip
          refine own_go (fun _ k => XS.ifYes X35.here hx rfl (pc0 := 58) (pc' := 79) rfl (hb hby d6_58) rfl ((if0 _ _).trans (feq hg1).2) (by decide) (by decide) k) ?_
          have hb1 : 128 ≤ c1.toInt := by
            have hx' : ¬ c1.toInt < 128 := fun q => hg1 ((own_t128 hd1).mpr q)
            omega
          have v2 : r2.toInt = r1.toInt + c1.toInt % 128 * 128 := by rw [hr2]; exact own_tR1 _ _ (by omega) (by omega)
          show own_Go _ _ _ _ T35 (mkF m 79 #[.val (.ref a1), .val (.int r2), .val (.int (7 : Int32)), .val (.int c1)] [])
          refine own_go (fun _ k => XS.iinc X35.here hx rfl (hb hby d6_79) rfl (l' := #[.val (.ref a1), .val (.int r2), .val (.int ((7 : Int32) + (7 : Int32))), .val (.int c1)]) rfl k) ?_
          show own_Go _ _ _ _ T35 (mkF m 82 #[.val (.ref a1), .val (.int r2), .val (.int ((7 : Int32) + (7 : Int32))), .val (.int c1)] [])
          rw [show ((7 : Int32) + (7 : Int32)) = (14 : Int32) from by decide]
          show own_Go _ _ _ _ T35 (mkF m 82 #[.val (.ref a1), .val (.int r2), .val (.int (14 : Int32)), .val (.int c1)] [])
          refine own_go (fun _ k => XS.goto X35.here hx rfl (pc0 := 82) (pc' := 4) rfl (hb hby d6_82) (by decide) (by decide) k) ?_
          show own_Go _ _ _ _ T35 (mkF m 4 #[.val (.ref a1), .val (.int r2), .val (.int (14 : Int32)), .val (.int c1)] [])
          refine own_go (fun _ k => XS.iloadN X35.here hx rfl (hb hby d6_4) rfl k) ?_
          show own_Go _ _ _ _ T35 (mkF m 5 #[.val (.ref a1), .val (.int r2), .val (.int (14 : Int32)), .val (.int c1)] [(.int (14 : Int32))])
          refine own_go (fun _ k => XS.bipush X35.here hx rfl (hb hby d6_5) k) ?_
          show own_Go _ _ _ _ T35 (mkF m 7 #[.val (.ref a1), .val (.int r2), .val (.int (14 : Int32)), .val (.int c1)] [(.int (32 : Int32)), (.int (14 : Int32))])
          refine own_go (fun _ k => XS.icmpNo X35.here hx rfl (hb hby d6_7) rfl (tlt (by decide)).2.1 k) ?_
          show own_Go _ _ _ _ T35 (mkF m 10 #[.val (.ref a1), .val (.int r2), .val (.int (14 : Int32)), .val (.int c1)] [])
          refine own_go (fun _ k => XS.aloadN X35.here hx rfl (hb hby d6_10) rfl rfl k) ?_
          show own_Go _ _ _ _ T35 (mkF m 11 #[.val (.ref a1), .val (.int r2), .val (.int (14 : Int32)), .val (.int c1)] [(.ref a1)])
          obtain ⟨T43, X43, e43, st43⟩ := getF X35 hx hZ hown (host := "") (Or.inl (hw _ (List.mem_of_getElem? (i := 23) rfl))) Via.refl e35 Fw35 (g := (mkF m 11 #[.val (.ref a1), .val (.int r2), .val (.int (14 : Int32)), .val (.int c1)] [(.ref a1)])) rfl rfl (hb hby d6_11)
          refine own_go (st43) ?_
          show own_Go _ _ _ _ T43 (mkF m 14 #[.val (.ref a1), .val (.int r2), .val (.int (14 : Int32)), .val (.int c1)] [(.int p2)])
          refine own_go (fun _ k => XS.aloadN X43.here hx rfl (hb hby d6_14) rfl rfl k) ?_
          show own_Go _ _ _ _ T43 (mkF m 15 #[.val (.ref a1), .val (.int r2), .val (.int (14 : Int32)), .val (.int c1)] [(.ref a1), (.int p2)])
          have f44 := (f27.other W35 (Or.inr (slot_ne (Or.inr (hw _ (List.mem_of_getElem? (i := 26) rfl))) (Or.inl (hw _ (List.mem_of_getElem? (i := 24) rfl))) (by decide) (t := .int) (t' := .int) (by decide) (by decide))))
          obtain ⟨T45, X45, e45, st45⟩ := getF X43 hx hZ hown (host := "") (Or.inl (hw _ (List.mem_of_getElem? (i := 25) rfl))) Via.refl e43 f44 (g := (mkF m 15 #[.val (.ref a1), .val (.int r2), .val (.int (14 : Int32)), .val (.int c1)] [(.ref a1), (.int p2)])) rfl rfl (hb hby d6_15)
          refine own_go (st45) ?_
          show own_Go _ _ _ _ T45 (mkF m 18 #[.val (.ref a1), .val (.int r2), .val (.int (14 : Int32)), .val (.int c1)] [(.int en), (.int p2)])
          by_cases he2 : p2 = en
          · skip
            refine own_go (fun _ k => XS.icmpNo X45.here hx rfl (hb hby d6_18) rfl (teq he2).2 k) ?_
            have heT := congrArg Int32.toInt he2
            have hz : ¬ (s0 + (2 : Int32)) < en := own_nlt (by rw [own_sk2 hs1 (by omega)] <;> omega)
            show own_Go _ _ _ _ T45 (mkF m 21 #[.val (.ref a1), .val (.int r2), .val (.int (14 : Int32)), .val (.int c1)] [])
            refine own_go (fun _ k => XS.iconst X45.here hx rfl (hb hby d6_21) k) ?_
            show own_Go _ _ _ _ T45 (mkF m 22 #[.val (.ref a1), .val (.int r2), .val (.int (14 : Int32)), .val (.int c1)] [(.int (-1 : Int32))])
            have f46 := (((Keep.refl h0 [a1]).wr W19 (Or.inl (List.mem_of_getElem? (i := 0) rfl))).wr W35 (Or.inl (List.mem_of_getElem? (i := 0) rfl)))
            have f47 := (f36.wr W35)
            have f48 := (f32.other W35 (Or.inr (slot_ne (Or.inr (hw _ (List.mem_of_getElem? (i := 22) rfl))) (Or.inl (hw _ (List.mem_of_getElem? (i := 24) rfl))) (by decide) (t := (.array .byte)) (t' := .int) (by decide) (by decide))))
            have hsp := own_spA2 (f := f) ha0 hb0 ha1 hb1 hz
            have hv : (-1 : Int32) = (own_spec f s0 en).1 := Eq.trans (rfl) (congrArg Prod.fst hsp).symm
            have hp : p2 = s0 + (own_spec f s0 en).2 := Eq.trans ((he2.trans (own_cancel s0 en).symm)) (congrArg (fun z : Int32 × Int32 => s0 + z.2) hsp).symm
            rw [hp] at Fw35
            exact own_retI X45 hx hret hlk (hb hby d6_22) (by decide) (by decide) (by first | exact ⟨by rw [hv], N35, f46, f47, f48, Fw35, f44⟩ | (rw [e45]; exact ⟨by rw [hv], N35, f46, f47, f48, Fw35, f44⟩))
          · skip
            refine own_go (fun _ k => XS.icmpYes X45.here hx rfl (pc0 := 18) (pc' := 23) rfl (hb hby d6_18) rfl (feq he2).2 (by decide) (by decide) k) ?_
            have hq2 : ¬ p2.toInt = en.toInt := fun q => he2 (Int32.toInt_inj.mp q)
            have hlt2 : p2.toInt < en.toInt := by omega
            have hn2 : ¬ p2 < 0 := own_nlt (by show (0 : Int32).toInt ≤ _; rw [own_e0]; omega)
            show own_Go _ _ _ _ T45 (mkF m 23 #[.val (.ref a1), .val (.int r2), .val (.int (14 : Int32)), .val (.int c1)] [])
            refine own_go (fun _ k => XS.aloadN X45.here hx rfl (hb hby d6_23) rfl rfl k) ?_
            show own_Go _ _ _ _ T45 (mkF m 24 #[.val (.ref a1), .val (.int r2), .val (.int (14 : Int32)), .val (.int c1)] [(.ref a1)])
            have f49 := (f32.other W35 (Or.inr (slot_ne (Or.inr (hw _ (List.mem_of_getElem? (i := 22) rfl))) (Or.inl (hw _ (List.mem_of_getElem? (i := 24) rfl))) (by decide) (t := (.array .byte)) (t' := .int) (by decide) (by decide))))
            obtain ⟨T50, X50, e50, st50⟩ := getF X45 hx hZ hown (host := "") (Or.inl (hw _ (List.mem_of_getElem? (i := 21) rfl))) Via.refl e45 f49 (g := (mkF m 24 #[.val (.ref a1), .val (.int r2), .val (.int (14 : Int32)), .val (.int c1)] [(.ref a1)])) rfl rfl (hb hby d6_24)
            refine own_go (st50) ?_
            show own_Go _ _ _ _ T50 (mkF m 27 #[.val (.ref a1), .val (.int r2), .val (.int (14 : Int32)), .val (.int c1)] [(.ref a2)])
            refine own_go (fun _ k => XS.aloadN X50.here hx rfl (hb hby d6_27) rfl rfl k) ?_
            show own_Go _ _ _ _ T50 (mkF m 28 #[.val (.ref a1), .val (.int r2), .val (.int (14 : Int32)), .val (.int c1)] [(.ref a1), (.ref a2)])
            refine own_go (fun _ k => XS.dup X50.here hx rfl (hb hby d6_28) rfl rfl k) ?_
            show own_Go _ _ _ _ T50 (mkF m 29 #[.val (.ref a1), .val (.int r2), .val (.int (14 : Int32)), .val (.int c1)] [(.ref a1), (.ref a1), (.ref a2)])
            obtain ⟨T51, X51, e51, st51⟩ := getF X50 hx hZ hown (host := "") (Or.inl (hw _ (List.mem_of_getElem? (i := 23) rfl))) Via.refl e50 Fw35 (g := (mkF m 29 #[.val (.ref a1), .val (.int r2), .val (.int (14 : Int32)), .val (.int c1)] [(.ref a1), (.ref a1), (.ref a2)])) rfl rfl (hb hby d6_29)
            refine own_go (st51) ?_
            show own_Go _ _ _ _ T51 (mkF m 32 #[.val (.ref a1), .val (.int r2), .val (.int (14 : Int32)), .val (.int c1)] [(.int p2), (.ref a1), (.ref a2)])
            refine own_go (fun _ k => XS.dupX1 X51.here hx rfl (hb hby d6_32) rfl rfl rfl k) ?_
            show own_Go _ _ _ _ T51 (mkF m 33 #[.val (.ref a1), .val (.int r2), .val (.int (14 : Int32)), .val (.int c1)] [(.int p2), (.ref a1), (.int p2), (.ref a2)])
            refine own_go (fun _ k => XS.iconst X51.here hx rfl (hb hby d6_33) k) ?_
            show own_Go _ _ _ _ T51 (mkF m 34 #[.val (.ref a1), .val (.int r2), .val (.int (14 : Int32)), .val (.int c1)] [(.int (1 : Int32)), (.int p2), (.ref a1), (.int p2), (.ref a2)])
            refine own_go (fun _ k => XS.iadd X51.here hx rfl (hb hby d6_34) rfl k) ?_
            show own_Go _ _ _ _ T51 (mkF m 35 #[.val (.ref a1), .val (.int r2), .val (.int (14 : Int32)), .val (.int c1)] [(.int (p2 + (1 : Int32))), (.ref a1), (.int p2), (.ref a2)])
            obtain ⟨p3, hp3⟩ : ∃ z : Int32, z = (p2 + (1 : Int32)) := ⟨_, rfl⟩
            rw [← hp3]
            show own_Go _ _ _ _ T51 (mkF m 35 #[.val (.ref a1), .val (.int r2), .val (.int (14 : Int32)), .val (.int c1)] [(.int p3), (.ref a1), (.int p2), (.ref a2)])
            have f53 := (f36.wr W35)
            obtain ⟨T52, h52, X52, e52, W52, st52⟩ := putF X51 hx hZ hown (host := "") (Or.inl (hw _ (List.mem_of_getElem? (i := 23) rfl))) Via.refl e51 Fw35 f53 (Or.inl (hw _ (List.mem_of_getElem? (i := 24) rfl))) (hw _ (List.mem_of_getElem? (i := 13) rfl)) (ty := .int) (by decide) rfl rfl (g := (mkF m 35 #[.val (.ref a1), .val (.int r2), .val (.int (14 : Int32)), .val (.int c1)] [(.int p3), (.ref a1), (.int p2), (.ref a2)])) rfl rfl (hb hby d6_35)
            refine own_go (st52) ?_
            have Fw52 := Fw35.same W52
            have N52 := Fr.snoc X52 N35 g_a1
            show own_Go _ _ _ _ T52 (mkF m 38 #[.val (.ref a1), .val (.int r2), .val (.int (14 : Int32)), .val (.int c1)] [(.int p2), (.ref a2)])
            have f55 := (V37.other W52 ne_1_2)
            obtain ⟨cl54, Ar54, q54, S54, M54, H54, G54⟩ := f55
            have V54 : Arv Z h52 a2 kk .byte nn _ _ := ⟨cl54, Ar54, q54, S54, M54, H54, G54⟩
            have hin54 : ¬ (p2 < 0 ∨ cl54.slots.size ≤ (p2).toNatClampNeg) := inb_of S54 ⟨hn2, own_lt (by omega)⟩
            have hat54 : cl54.slots[(p2).toNatClampNeg]? = some (.int (f (p2).toNatClampNeg)) := H54.at hin54 (hf _)
            refine own_go (X52.baloadBytes hx (j := p2) (v := (.int (f (p2).toNatClampNeg))) (by rw [e52]; exact Ar54.1) (State.isArrayOf_alike hZ.alike Ar54.2.1) Ar54.2.2 hin54 hat54 (g := (mkF m 38 #[.val (.ref a1), .val (.int r2), .val (.int (14 : Int32)), .val (.int c1)] [(.int p2), (.ref a2)])) rfl rfl (hb hby d6_38)) ?_
            show own_Go _ _ _ _ T52 (mkF m 39 #[.val (.ref a1), .val (.int r2), .val (.int (14 : Int32)), .val (.int c1)] [(.int (f (p2).toNatClampNeg))])
            refine own_go (fun _ k => XS.sipush X52.here hx rfl (hb hby d6_39) k) ?_
            show own_Go _ _ _ _ T52 (mkF m 42 #[.val (.ref a1), .val (.int r2), .val (.int (14 : Int32)), .val (.int c1)] [(.int (255 : Int32)), (.int (f (p2).toNatClampNeg))])
            refine own_go (fun _ k => XS.iand X52.here hx rfl (hb hby d6_42) rfl k) ?_
            show own_Go _ _ _ _ T52 (mkF m 43 #[.val (.ref a1), .val (.int r2), .val (.int (14 : Int32)), .val (.int c1)] [(.int ((f (p2).toNatClampNeg) &&& (255 : Int32)))])
            obtain ⟨c2, hc2⟩ : ∃ z : Int32, z = ((f (p2).toNatClampNeg) &&& (255 : Int32)) := ⟨_, rfl⟩
            rw [← hc2]
            have ha2 : own_a f (s0 + (2 : Int32)) en = c2 := own_tA (by rw [own_sk2 hs1 (by omega)] <;> omega) hlt2 hc2
            have hd2 := own_tC hc2
            have u3 : p3.toInt = s0.toInt + 3 := by rw [hp3, own_inc _ _ (own_lt hlt2)] <;> omega
            show own_Go _ _ _ _ T52 (mkF m 43 #[.val (.ref a1), .val (.int r2), .val (.int (14 : Int32)), .val (.int c1)] [(.int c2)])
            refine own_go (fun _ k => XS.istoreN X52.here hx rfl (hb hby d6_43) rfl (l' := #[.val (.ref a1), .val (.int r2), .val (.int (14 : Int32)), .val (.int c2)]) rfl k) ?_
            show own_Go _ _ _ _ T52 (mkF m 44 #[.val (.ref a1), .val (.int r2), .val (.int (14 : Int32)), .val (.int c2)] [])
            refine own_go (fun _ k => XS.iloadN X52.here hx rfl (hb hby d6_44) rfl k) ?_
            show own_Go _ _ _ _ T52 (mkF m 45 #[.val (.ref a1), .val (.int r2), .val (.int (14 : Int32)), .val (.int c2)] [(.int r2)])
            refine own_go (fun _ k => XS.iloadN X52.here hx rfl (hb hby d6_45) rfl k) ?_
            show own_Go _ _ _ _ T52 (mkF m 46 #[.val (.ref a1), .val (.int r2), .val (.int (14 : Int32)), .val (.int c2)] [(.int c2), (.int r2)])
            refine own_go (fun _ k => XS.bipush X52.here hx rfl (hb hby d6_46) k) ?_
            show own_Go _ _ _ _ T52 (mkF m 48 #[.val (.ref a1), .val (.int r2), .val (.int (14 : Int32)), .val (.int c2)] [(.int (127 : Int32)), (.int c2), (.int r2)])
            refine own_go (fun _ k => XS.iand X52.here hx rfl (hb hby d6_48) rfl k) ?_
            show own_Go _ _ _ _ T52 (mkF m 49 #[.val (.ref a1), .val (.int r2), .val (.int (14 : Int32)), .val (.int c2)] [(.int (c2 &&& (127 : Int32))), (.int r2)])
            refine own_go (fun _ k => XS.iloadN X52.here hx rfl (hb hby d6_49) rfl k) ?_
            show own_Go _ _ _ _ T52 (mkF m 50 #[.val (.ref a1), .val (.int r2), .val (.int (14 : Int32)), .val (.int c2)] [(.int (14 : Int32)), (.int (c2 &&& (127 : Int32))), (.int r2)])
            refine own_go (fun _ k => XS.ishl X52.here hx rfl (hb hby d6_50) rfl k) ?_
            show own_Go _ _ _ _ T52 (mkF m 51 #[.val (.ref a1), .val (.int r2), .val (.int (14 : Int32)), .val (.int c2)] [(.int ((c2 &&& (127 : Int32)) <<< ((14 : Int32) &&& 31))), (.int r2)])
            refine own_go (fun _ k => XS.ior X52.here hx rfl (hb hby d6_51) rfl k) ?_
            show own_Go _ _ _ _ T52 (mkF m 52 #[.val (.ref a1), .val (.int r2), .val (.int (14 : Int32)), .val (.int c2)] [(.int (r2 ||| ((c2 &&& (127 : Int32)) <<< ((14 : Int32) &&& 31))))])
            obtain ⟨r3, hr3⟩ : ∃ z : Int32, z = (r2 ||| ((c2 &&& (127 : Int32)) <<< ((14 : Int32) &&& 31))) := ⟨_, rfl⟩
            rw [← hr3]
            show own_Go _ _ _ _ T52 (mkF m 52 #[.val (.ref a1), .val (.int r2), .val (.int (14 : Int32)), .val (.int c2)] [(.int r3)])
            refine own_go (fun _ k => XS.istoreN X52.here hx rfl (hb hby d6_52) rfl (l' := #[.val (.ref a1), .val (.int r3), .val (.int (14 : Int32)), .val (.int c2)]) rfl k) ?_
            show own_Go _ _ _ _ T52 (mkF m 53 #[.val (.ref a1), .val (.int r3), .val (.int (14 : Int32)), .val (.int c2)] [])
            refine own_go (fun _ k => XS.iloadN X52.here hx rfl (hb hby d6_53) rfl k) ?_
            show own_Go _ _ _ _ T52 (mkF m 54 #[.val (.ref a1), .val (.int r3), .val (.int (14 : Int32)), .val (.int c2)] [(.int c2)])
            refine own_go (fun _ k => XS.sipush X52.here hx rfl (hb hby d6_54) k) ?_
            show own_Go _ _ _ _ T52 (mkF m 57 #[.val (.ref a1), .val (.int r3), .val (.int (14 : Int32)), .val (.int c2)] [(.int (128 : Int32)), (.int c2)])
            refine own_go (fun _ k => XS.iand X52.here hx rfl (hb hby d6_57) rfl k) ?_
            show own_Go _ _ _ _ T52 (mkF m 58 #[.val (.ref a1), .val (.int r3), .val (.int (14 : Int32)), .val (.int c2)] [(.int (c2 &&& (128 : Int32)))])
            by_cases hg2 : (c2 &&& (128 : Int32)) = (0 : Int32)
            · skip
              refine own_go (fun _ k => XS.ifNo X52.here hx rfl (hb hby d6_58) rfl ((if0 _ _).trans (teq hg2).2) k) ?_
              have hh := (own_t128 hd2).mp hg2
              show own_Go _ _ _ _ T52 (mkF m 61 #[.val (.ref a1), .val (.int r3), .val (.int (14 : Int32)), .val (.int c2)] [])
              refine own_go (fun _ k => XS.iloadN X52.here hx rfl (hb hby d6_61) rfl k) ?_
              show own_Go _ _ _ _ T52 (mkF m 62 #[.val (.ref a1), .val (.int r3), .val (.int (14 : Int32)), .val (.int c2)] [(.int (14 : Int32))])
              refine own_go (fun _ k => XS.bipush X52.here hx rfl (hb hby d6_62) k) ?_
              show own_Go _ _ _ _ T52 (mkF m 64 #[.val (.ref a1), .val (.int r3), .val (.int (14 : Int32)), .val (.int c2)] [(.int (28 : Int32)), (.int (14 : Int32))])
              refine own_go (fun _ k => XS.icmpYes X52.here hx rfl (pc0 := 64) (pc' := 77) rfl (hb hby d6_64) rfl (feq (by decide)).2 (by decide) (by decide) k) ?_
              have v3 : r3.toInt = r2.toInt + c2.toInt % 128 * 16384 := by rw [hr3]; exact own_tR2 _ _ (by omega) (by omega)
              show own_Go _ _ _ _ T52 (mkF m 77 #[.val (.ref a1), .val (.int r3), .val (.int (14 : Int32)), .val (.int c2)] [])
              refine own_go (fun _ k => XS.iloadN X52.here hx rfl (hb hby d6_77) rfl k) ?_
              show own_Go _ _ _ _ T52 (mkF m 78 #[.val (.ref a1), .val (.int r3), .val (.int (14 : Int32)), .val (.int c2)] [(.int r3)])
              have f56 := ((((Keep.refl h0 [a1]).wr W19 (Or.inl (List.mem_of_getElem? (i := 0) rfl))).wr W35 (Or.inl (List.mem_of_getElem? (i := 0) rfl))).wr W52 (Or.inl (List.mem_of_getElem? (i := 0) rfl)))
              have f57 := (f53.wr W52)
              have f58 := (f49.other W52 (Or.inr (slot_ne (Or.inr (hw _ (List.mem_of_getElem? (i := 22) rfl))) (Or.inl (hw _ (List.mem_of_getElem? (i := 24) rfl))) (by decide) (t := (.array .byte)) (t' := .int) (by decide) (by decide))))
              have f59 := (f44.other W52 (Or.inr (slot_ne (Or.inr (hw _ (List.mem_of_getElem? (i := 26) rfl))) (Or.inl (hw _ (List.mem_of_getElem? (i := 24) rfl))) (by decide) (t := .int) (t' := .int) (by decide) (by decide))))
              have hsp := own_spB2 ha0 hb0 ha1 hb1 ha2 hd2.1 hh
              have hv : r3 = (own_spec f s0 en).1 := Eq.trans (own_val2 hd0 hd1 hd2 (by omega)) (congrArg Prod.fst hsp).symm
              have hp : p3 = s0 + (own_spec f s0 en).2 := Eq.trans (own_step3 hs1 (by omega) (by omega)) (congrArg (fun z : Int32 × Int32 => s0 + z.2) hsp).symm
              rw [hp] at Fw52
              exact own_retI X52 hx hret hlk (hb hby d6_78) (by decide) (by decide) (by first | exact ⟨by rw [hv], N52, f56, f57, f58, Fw52, f59⟩ | (rw [e52]; exact ⟨by rw [hv], N52, f56, f57, f58, Fw52, f59⟩))
            · skip
              refine own_go (fun _ k => XS.ifYes X52.here hx rfl (pc0 := 58) (pc' := 79) rfl (hb hby d6_58) rfl ((if0 _ _).trans (feq hg2).2) (by decide) (by decide) k) ?_
              have hb2 : 128 ≤ c2.toInt := by
                have hx' : ¬ c2.toInt < 128 := fun q => hg2 ((own_t128 hd2).mpr q)
                omega
              have v3 : r3.toInt = r2.toInt + c2.toInt % 128 * 16384 := by rw [hr3]; exact own_tR2 _ _ (by omega) (by omega)
              show own_Go _ _ _ _ T52 (mkF m 79 #[.val (.ref a1), .val (.int r3), .val (.int (14 : Int32)), .val (.int c2)] [])
              refine own_go (fun _ k => XS.iinc X52.here hx rfl (hb hby d6_79) rfl (l' := #[.val (.ref a1), .val (.int r3), .val (.int ((14 : Int32) + (7 : Int32))), .val (.int c2)]) rfl k) ?_
              show own_Go _ _ _ _ T52 (mkF m 82 #[.val (.ref a1), .val (.int r3), .val (.int ((14 : Int32) + (7 : Int32))), .val (.int c2)] [])
              rw [show ((14 : Int32) + (7 : Int32)) = (21 : Int32) from by decide]
              show own_Go _ _ _ _ T52 (mkF m 82 #[.val (.ref a1), .val (.int r3), .val (.int (21 : Int32)), .val (.int c2)] [])
              refine own_go (fun _ k => XS.goto X52.here hx rfl (pc0 := 82) (pc' := 4) rfl (hb hby d6_82) (by decide) (by decide) k) ?_
              show own_Go _ _ _ _ T52 (mkF m 4 #[.val (.ref a1), .val (.int r3), .val (.int (21 : Int32)), .val (.int c2)] [])
              refine own_go (fun _ k => XS.iloadN X52.here hx rfl (hb hby d6_4) rfl k) ?_
              show own_Go _ _ _ _ T52 (mkF m 5 #[.val (.ref a1), .val (.int r3), .val (.int (21 : Int32)), .val (.int c2)] [(.int (21 : Int32))])
              refine own_go (fun _ k => XS.bipush X52.here hx rfl (hb hby d6_5) k) ?_
              show own_Go _ _ _ _ T52 (mkF m 7 #[.val (.ref a1), .val (.int r3), .val (.int (21 : Int32)), .val (.int c2)] [(.int (32 : Int32)), (.int (21 : Int32))])
              refine own_go (fun _ k => XS.icmpNo X52.here hx rfl (hb hby d6_7) rfl (tlt (by decide)).2.1 k) ?_
              show own_Go _ _ _ _ T52 (mkF m 10 #[.val (.ref a1), .val (.int r3), .val (.int (21 : Int32)), .val (.int c2)] [])
              refine own_go (fun _ k => XS.aloadN X52.here hx rfl (hb hby d6_10) rfl rfl k) ?_
              show own_Go _ _ _ _ T52 (mkF m 11 #[.val (.ref a1), .val (.int r3), .val (.int (21 : Int32)), .val (.int c2)] [(.ref a1)])
              obtain ⟨T60, X60, e60, st60⟩ := getF X52 hx hZ hown (host := "") (Or.inl (hw _ (List.mem_of_getElem? (i := 23) rfl))) Via.refl e52 Fw52 (g := (mkF m 11 #[.val (.ref a1), .val (.int r3), .val (.int (21 : Int32)), .val (.int c2)] [(.ref a1)])) rfl rfl (hb hby d6_11)
              refine own_go (st60) ?_
              show own_Go _ _ _ _ T60 (mkF m 14 #[.val (.ref a1), .val (.int r3), .val (.int (21 : Int32)), .val (.int c2)] [(.int p3)])
              refine own_go (fun _ k => XS.aloadN X60.here hx rfl (hb hby d6_14) rfl rfl k) ?_
              show own_Go _ _ _ _ T60 (mkF m 15 #[.val (.ref a1), .val (.int r3), .val (.int (21 : Int32)), .val (.int c2)] [(.ref a1), (.int p3)])
              have f61 := (f44.other W52 (Or.inr (slot_ne (Or.inr (hw _ (List.mem_of_getElem? (i := 26) rfl))) (Or.inl (hw _ (List.mem_of_getElem? (i := 24) rfl))) (by decide) (t := .int) (t' := .int) (by decide) (by decide))))
              obtain ⟨T62, X62, e62, st62⟩ := getF X60 hx hZ hown (host := "") (Or.inl (hw _ (List.mem_of_getElem? (i := 25) rfl))) Via.refl e60 f61 (g := (mkF m 15 #[.val (.ref a1), .val (.int r3), .val (.int (21 : Int32)), .val (.int c2)] [(.ref a1), (.int p3)])) rfl rfl (hb hby d6_15)
              refine own_go (st62) ?_
              show own_Go _ _ _ _ T62 (mkF m 18 #[.val (.ref a1), .val (.int r3), .val (.int (21 : Int32)), .val (.int c2)] [(.int en), (.int p3)])
              by_cases he3 : p3 = en
              · skip
                refine own_go (fun _ k => XS.icmpNo X62.here hx rfl (hb hby d6_18) rfl (teq he3).2 k) ?_
                have heT := congrArg Int32.toInt he3
                have hz : ¬ (s0 + (3 : Int32)) < en := own_nlt (by rw [own_sk3 hs1 (by omega)] <;> omega)
                show own_Go _ _ _ _ T62 (mkF m 21 #[.val (.ref a1), .val (.int r3), .val (.int (21 : Int32)), .val (.int c2)] [])
                refine own_go (fun _ k => XS.iconst X62.here hx rfl (hb hby d6_21) k) ?_
                show own_Go _ _ _ _ T62 (mkF m 22 #[.val (.ref a1), .val (.int r3), .val (.int (21 : Int32)), .val (.int c2)] [(.int (-1 : Int32))])
                have f63 := ((((Keep.refl h0 [a1]).wr W19 (Or.inl (List.mem_of_getElem? (i := 0) rfl))).wr W35 (Or.inl (List.mem_of_getElem? (i := 0) rfl))).wr W52 (Or.inl (List.mem_of_getElem? (i := 0) rfl)))
                have f64 := (f53.wr W52)
                have f65 := (f49.other W52 (Or.inr (slot_ne (Or.inr (hw _ (List.mem_of_getElem? (i := 22) rfl))) (Or.inl (hw _ (List.mem_of_getElem? (i := 24) rfl))) (by decide) (t := (.array .byte)) (t' := .int) (by decide) (by decide))))
                have hsp := own_spA3 (f := f) ha0 hb0 ha1 hb1 ha2 hb2 hz
                have hv : (-1 : Int32) = (own_spec f s0 en).1 := Eq.trans (rfl) (congrArg Prod.fst hsp).symm
                have hp : p3 = s0 + (own_spec f s0 en).2 := Eq.trans ((he3.trans (own_cancel s0 en).symm)) (congrArg (fun z : Int32 × Int32 => s0 + z.2) hsp).symm
                rw [hp] at Fw52
                exact own_retI X62 hx hret hlk (hb hby d6_22) (by decide) (by decide) (by first | exact ⟨by rw [hv], N52, f63, f64, f65, Fw52, f61⟩ | (rw [e62]; exact ⟨by rw [hv], N52, f63, f64, f65, Fw52, f61⟩))
              · skip
                refine own_go (fun _ k => XS.icmpYes X62.here hx rfl (pc0 := 18) (pc' := 23) rfl (hb hby d6_18) rfl (feq he3).2 (by decide) (by decide) k) ?_
                have hq3 : ¬ p3.toInt = en.toInt := fun q => he3 (Int32.toInt_inj.mp q)
                have hlt3 : p3.toInt < en.toInt := by omega
                have hn3 : ¬ p3 < 0 := own_nlt (by show (0 : Int32).toInt ≤ _; rw [own_e0]; omega)
                show own_Go _ _ _ _ T62 (mkF m 23 #[.val (.ref a1), .val (.int r3), .val (.int (21 : Int32)), .val (.int c2)] [])
                refine own_go (fun _ k => XS.aloadN X62.here hx rfl (hb hby d6_23) rfl rfl k) ?_
                show own_Go _ _ _ _ T62 (mkF m 24 #[.val (.ref a1), .val (.int r3), .val (.int (21 : Int32)), .val (.int c2)] [(.ref a1)])
                have f66 := (f49.other W52 (Or.inr (slot_ne (Or.inr (hw _ (List.mem_of_getElem? (i := 22) rfl))) (Or.inl (hw _ (List.mem_of_getElem? (i := 24) rfl))) (by decide) (t := (.array .byte)) (t' := .int) (by decide) (by decide))))
                obtain ⟨T67, X67, e67, st67⟩ := getF X62 hx hZ hown (host := "") (Or.inl (hw _ (List.mem_of_getElem? (i := 21) rfl))) Via.refl e62 f66 (g := (mkF m 24 #[.val (.ref a1), .val (.int r3), .val (.int (21 : Int32)), .val (.int c2)] [(.ref a1)])) rfl rfl (hb hby d6_24)
                refine own_go (st67) ?_
                show own_Go _ _ _ _ T67 (mkF m 27 #[.val (.ref a1), .val (.int r3), .val (.int (21 : Int32)), .val (.int c2)] [(.ref a2)])
                refine own_go (fun _ k => XS.aloadN X67.here hx rfl (hb hby d6_27) rfl rfl k) ?_
                show own_Go _ _ _ _ T67 (mkF m 28 #[.val (.ref a1), .val (.int r3), .val (.int (21 : Int32)), .val (.int c2)] [(.ref a1), (.ref a2)])
                refine own_go (fun _ k => XS.dup X67.here hx rfl (hb hby d6_28) rfl rfl k) ?_
                show own_Go _ _ _ _ T67 (mkF m 29 #[.val (.ref a1), .val (.int r3), .val (.int (21 : Int32)), .val (.int c2)] [(.ref a1), (.ref a1), (.ref a2)])
                obtain ⟨T68, X68, e68, st68⟩ := getF X67 hx hZ hown (host := "") (Or.inl (hw _ (List.mem_of_getElem? (i := 23) rfl))) Via.refl e67 Fw52 (g := (mkF m 29 #[.val (.ref a1), .val (.int r3), .val (.int (21 : Int32)), .val (.int c2)] [(.ref a1), (.ref a1), (.ref a2)])) rfl rfl (hb hby d6_29)
                refine own_go (st68) ?_
                show own_Go _ _ _ _ T68 (mkF m 32 #[.val (.ref a1), .val (.int r3), .val (.int (21 : Int32)), .val (.int c2)] [(.int p3), (.ref a1), (.ref a2)])
                refine own_go (fun _ k => XS.dupX1 X68.here hx rfl (hb hby d6_32) rfl rfl rfl k) ?_
                show own_Go _ _ _ _ T68 (mkF m 33 #[.val (.ref a1), .val (.int r3), .val (.int (21 : Int32)), .val (.int c2)] [(.int p3), (.ref a1), (.int p3), (.ref a2)])
                refine own_go (fun _ k => XS.iconst X68.here hx rfl (hb hby d6_33) k) ?_
                show own_Go _ _ _ _ T68 (mkF m 34 #[.val (.ref a1), .val (.int r3), .val (.int (21 : Int32)), .val (.int c2)] [(.int (1 : Int32)), (.int p3), (.ref a1), (.int p3), (.ref a2)])
                refine own_go (fun _ k => XS.iadd X68.here hx rfl (hb hby d6_34) rfl k) ?_
                show own_Go _ _ _ _ T68 (mkF m 35 #[.val (.ref a1), .val (.int r3), .val (.int (21 : Int32)), .val (.int c2)] [(.int (p3 + (1 : Int32))), (.ref a1), (.int p3), (.ref a2)])
                obtain ⟨p4, hp4⟩ : ∃ z : Int32, z = (p3 + (1 : Int32)) := ⟨_, rfl⟩
                rw [← hp4]
                show own_Go _ _ _ _ T68 (mkF m 35 #[.val (.ref a1), .val (.int r3), .val (.int (21 : Int32)), .val (.int c2)] [(.int p4), (.ref a1), (.int p3), (.ref a2)])
                have f70 := (f53.wr W52)
                obtain ⟨T69, h69, X69, e69, W69, st69⟩ := putF X68 hx hZ hown (host := "") (Or.inl (hw _ (List.mem_of_getElem? (i := 23) rfl))) Via.refl e68 Fw52 f70 (Or.inl (hw _ (List.mem_of_getElem? (i := 24) rfl))) (hw _ (List.mem_of_getElem? (i := 13) rfl)) (ty := .int) (by decide) rfl rfl (g := (mkF m 35 #[.val (.ref a1), .val (.int r3), .val (.int (21 : Int32)), .val (.int c2)] [(.int p4), (.ref a1), (.int p3), (.ref a2)])) rfl rfl (hb hby d6_35)
                refine own_go (st69) ?_
                have Fw69 := Fw52.same W69
                have N69 := Fr.snoc X69 N52 g_a1
                show own_Go _ _ _ _ T69 (mkF m 38 #[.val (.ref a1), .val (.int r3), .val (.int (21 : Int32)), .val (.int c2)] [(.int p3), (.ref a2)])
                have f72 := (V54.other W69 ne_1_2)
                obtain ⟨cl71, Ar71, q71, S71, M71, H71, G71⟩ := f72
                have V71 : Arv Z h69 a2 kk .byte nn _ _ := ⟨cl71, Ar71, q71, S71, M71, H71, G71⟩
                have hin71 : ¬ (p3 < 0 ∨ cl71.slots.size ≤ (p3).toNatClampNeg) := inb_of S71 ⟨hn3, own_lt (by omega)⟩
                have hat71 : cl71.slots[(p3).toNatClampNeg]? = some (.int (f (p3).toNatClampNeg)) := H71.at hin71 (hf _)
                refine own_go (X69.baloadBytes hx (j := p3) (v := (.int (f (p3).toNatClampNeg))) (by rw [e69]; exact Ar71.1) (State.isArrayOf_alike hZ.alike Ar71.2.1) Ar71.2.2 hin71 hat71 (g := (mkF m 38 #[.val (.ref a1), .val (.int r3), .val (.int (21 : Int32)), .val (.int c2)] [(.int p3), (.ref a2)])) rfl rfl (hb hby d6_38)) ?_
                show own_Go _ _ _ _ T69 (mkF m 39 #[.val (.ref a1), .val (.int r3), .val (.int (21 : Int32)), .val (.int c2)] [(.int (f (p3).toNatClampNeg))])
                refine own_go (fun _ k => XS.sipush X69.here hx rfl (hb hby d6_39) k) ?_
                show own_Go _ _ _ _ T69 (mkF m 42 #[.val (.ref a1), .val (.int r3), .val (.int (21 : Int32)), .val (.int c2)] [(.int (255 : Int32)), (.int (f (p3).toNatClampNeg))])
                refine own_go (fun _ k => XS.iand X69.here hx rfl (hb hby d6_42) rfl k) ?_
                show own_Go _ _ _ _ T69 (mkF m 43 #[.val (.ref a1), .val (.int r3), .val (.int (21 : Int32)), .val (.int c2)] [(.int ((f (p3).toNatClampNeg) &&& (255 : Int32)))])
                obtain ⟨c3, hc3⟩ : ∃ z : Int32, z = ((f (p3).toNatClampNeg) &&& (255 : Int32)) := ⟨_, rfl⟩
                rw [← hc3]
                have ha3 : own_a f (s0 + (3 : Int32)) en = c3 := own_tA (by rw [own_sk3 hs1 (by omega)] <;> omega) hlt3 hc3
                have hd3 := own_tC hc3
                have u4 : p4.toInt = s0.toInt + 4 := by rw [hp4, own_inc _ _ (own_lt hlt3)] <;> omega
                show own_Go _ _ _ _ T69 (mkF m 43 #[.val (.ref a1), .val (.int r3), .val (.int (21 : Int32)), .val (.int c2)] [(.int c3)])
                refine own_go (fun _ k => XS.istoreN X69.here hx rfl (hb hby d6_43) rfl (l' := #[.val (.ref a1), .val (.int r3), .val (.int (21 : Int32)), .val (.int c3)]) rfl k) ?_
                show own_Go _ _ _ _ T69 (mkF m 44 #[.val (.ref a1), .val (.int r3), .val (.int (21 : Int32)), .val (.int c3)] [])
                refine own_go (fun _ k => XS.iloadN X69.here hx rfl (hb hby d6_44) rfl k) ?_
                show own_Go _ _ _ _ T69 (mkF m 45 #[.val (.ref a1), .val (.int r3), .val (.int (21 : Int32)), .val (.int c3)] [(.int r3)])
                refine own_go (fun _ k => XS.iloadN X69.here hx rfl (hb hby d6_45) rfl k) ?_
                show own_Go _ _ _ _ T69 (mkF m 46 #[.val (.ref a1), .val (.int r3), .val (.int (21 : Int32)), .val (.int c3)] [(.int c3), (.int r3)])
                refine own_go (fun _ k => XS.bipush X69.here hx rfl (hb hby d6_46) k) ?_
                show own_Go _ _ _ _ T69 (mkF m 48 #[.val (.ref a1), .val (.int r3), .val (.int (21 : Int32)), .val (.int c3)] [(.int (127 : Int32)), (.int c3), (.int r3)])
                refine own_go (fun _ k => XS.iand X69.here hx rfl (hb hby d6_48) rfl k) ?_
                show own_Go _ _ _ _ T69 (mkF m 49 #[.val (.ref a1), .val (.int r3), .val (.int (21 : Int32)), .val (.int c3)] [(.int (c3 &&& (127 : Int32))), (.int r3)])
                refine own_go (fun _ k => XS.iloadN X69.here hx rfl (hb hby d6_49) rfl k) ?_
                show own_Go _ _ _ _ T69 (mkF m 50 #[.val (.ref a1), .val (.int r3), .val (.int (21 : Int32)), .val (.int c3)] [(.int (21 : Int32)), (.int (c3 &&& (127 : Int32))), (.int r3)])
                refine own_go (fun _ k => XS.ishl X69.here hx rfl (hb hby d6_50) rfl k) ?_
                show own_Go _ _ _ _ T69 (mkF m 51 #[.val (.ref a1), .val (.int r3), .val (.int (21 : Int32)), .val (.int c3)] [(.int ((c3 &&& (127 : Int32)) <<< ((21 : Int32) &&& 31))), (.int r3)])
                refine own_go (fun _ k => XS.ior X69.here hx rfl (hb hby d6_51) rfl k) ?_
                show own_Go _ _ _ _ T69 (mkF m 52 #[.val (.ref a1), .val (.int r3), .val (.int (21 : Int32)), .val (.int c3)] [(.int (r3 ||| ((c3 &&& (127 : Int32)) <<< ((21 : Int32) &&& 31))))])
                obtain ⟨r4, hr4⟩ : ∃ z : Int32, z = (r3 ||| ((c3 &&& (127 : Int32)) <<< ((21 : Int32) &&& 31))) := ⟨_, rfl⟩
                rw [← hr4]
                show own_Go _ _ _ _ T69 (mkF m 52 #[.val (.ref a1), .val (.int r3), .val (.int (21 : Int32)), .val (.int c3)] [(.int r4)])
                refine own_go (fun _ k => XS.istoreN X69.here hx rfl (hb hby d6_52) rfl (l' := #[.val (.ref a1), .val (.int r4), .val (.int (21 : Int32)), .val (.int c3)]) rfl k) ?_
                show own_Go _ _ _ _ T69 (mkF m 53 #[.val (.ref a1), .val (.int r4), .val (.int (21 : Int32)), .val (.int c3)] [])
                refine own_go (fun _ k => XS.iloadN X69.here hx rfl (hb hby d6_53) rfl k) ?_
                show own_Go _ _ _ _ T69 (mkF m 54 #[.val (.ref a1), .val (.int r4), .val (.int (21 : Int32)), .val (.int c3)] [(.int c3)])
                refine own_go (fun _ k => XS.sipush X69.here hx rfl (hb hby d6_54) k) ?_
                show own_Go _ _ _ _ T69 (mkF m 57 #[.val (.ref a1), .val (.int r4), .val (.int (21 : Int32)), .val (.int c3)] [(.int (128 : Int32)), (.int c3)])
                refine own_go (fun _ k => XS.iand X69.here hx rfl (hb hby d6_57) rfl k) ?_
                show own_Go _ _ _ _ T69 (mkF m 58 #[.val (.ref a1), .val (.int r4), .val (.int (21 : Int32)), .val (.int c3)] [(.int (c3 &&& (128 : Int32)))])
                by_cases hg3 : (c3 &&& (128 : Int32)) = (0 : Int32)
                · skip
                  refine own_go (fun _ k => XS.ifNo X69.here hx rfl (hb hby d6_58) rfl ((if0 _ _).trans (teq hg3).2) k) ?_
                  have hh := (own_t128 hd3).mp hg3
                  show own_Go _ _ _ _ T69 (mkF m 61 #[.val (.ref a1), .val (.int r4), .val (.int (21 : Int32)), .val (.int c3)] [])
                  refine own_go (fun _ k => XS.iloadN X69.here hx rfl (hb hby d6_61) rfl k) ?_
                  show own_Go _ _ _ _ T69 (mkF m 62 #[.val (.ref a1), .val (.int r4), .val (.int (21 : Int32)), .val (.int c3)] [(.int (21 : Int32))])
                  refine own_go (fun _ k => XS.bipush X69.here hx rfl (hb hby d6_62) k) ?_
                  show own_Go _ _ _ _ T69 (mkF m 64 #[.val (.ref a1), .val (.int r4), .val (.int (21 : Int32)), .val (.int c3)] [(.int (28 : Int32)), (.int (21 : Int32))])
                  refine own_go (fun _ k => XS.icmpYes X69.here hx rfl (pc0 := 64) (pc' := 77) rfl (hb hby d6_64) rfl (feq (by decide)).2 (by decide) (by decide) k) ?_
                  have v4 : r4.toInt = r3.toInt + c3.toInt % 128 * 2097152 := by rw [hr4]; exact own_tR3 _ _ (by omega) (by omega)
                  show own_Go _ _ _ _ T69 (mkF m 77 #[.val (.ref a1), .val (.int r4), .val (.int (21 : Int32)), .val (.int c3)] [])
                  refine own_go (fun _ k => XS.iloadN X69.here hx rfl (hb hby d6_77) rfl k) ?_
                  show own_Go _ _ _ _ T69 (mkF m 78 #[.val (.ref a1), .val (.int r4), .val (.int (21 : Int32)), .val (.int c3)] [(.int r4)])
                  have f73 := (((((Keep.refl h0 [a1]).wr W19 (Or.inl (List.mem_of_getElem? (i := 0) rfl))).wr W35 (Or.inl (List.mem_of_getElem? (i := 0) rfl))).wr W52 (Or.inl (List.mem_of_getElem? (i := 0) rfl))).wr W69 (Or.inl (List.mem_of_getElem? (i := 0) rfl)))
                  have f74 := (f70.wr W69)
                  have f75 := (f66.other W69 (Or.inr (slot_ne (Or.inr (hw _ (List.mem_of_getElem? (i := 22) rfl))) (Or.inl (hw _ (List.mem_of_getElem? (i := 24) rfl))) (by decide) (t := (.array .byte)) (t' := .int) (by decide) (by decide))))
                  have f76 := (f61.other W69 (Or.inr (slot_ne (Or.inr (hw _ (List.mem_of_getElem? (i := 26) rfl))) (Or.inl (hw _ (List.mem_of_getElem? (i := 24) rfl))) (by decide) (t := .int) (t' := .int) (by decide) (by decide))))
                  have hsp := own_spB3 ha0 hb0 ha1 hb1 ha2 hb2 ha3 hd3.1 hh
                  have hv : r4 = (own_spec f s0 en).1 := Eq.trans (own_val3 hd0 hd1 hd2 hd3 (by omega)) (congrArg Prod.fst hsp).symm
                  have hp : p4 = s0 + (own_spec f s0 en).2 := Eq.trans (own_step4 hs1 (by omega) (by omega)) (congrArg (fun z : Int32 × Int32 => s0 + z.2) hsp).symm
                  rw [hp] at Fw69
                  exact own_retI X69 hx hret hlk (hb hby d6_78) (by decide) (by decide) (by first | exact ⟨by rw [hv], N69, f73, f74, f75, Fw69, f76⟩ | (rw [e69]; exact ⟨by rw [hv], N69, f73, f74, f75, Fw69, f76⟩))
                · skip
                  refine own_go (fun _ k => XS.ifYes X69.here hx rfl (pc0 := 58) (pc' := 79) rfl (hb hby d6_58) rfl ((if0 _ _).trans (feq hg3).2) (by decide) (by decide) k) ?_
                  have hb3 : 128 ≤ c3.toInt := by
                    have hx' : ¬ c3.toInt < 128 := fun q => hg3 ((own_t128 hd3).mpr q)
                    omega
                  have v4 : r4.toInt = r3.toInt + c3.toInt % 128 * 2097152 := by rw [hr4]; exact own_tR3 _ _ (by omega) (by omega)
                  show own_Go _ _ _ _ T69 (mkF m 79 #[.val (.ref a1), .val (.int r4), .val (.int (21 : Int32)), .val (.int c3)] [])
                  refine own_go (fun _ k => XS.iinc X69.here hx rfl (hb hby d6_79) rfl (l' := #[.val (.ref a1), .val (.int r4), .val (.int ((21 : Int32) + (7 : Int32))), .val (.int c3)]) rfl k) ?_
                  show own_Go _ _ _ _ T69 (mkF m 82 #[.val (.ref a1), .val (.int r4), .val (.int ((21 : Int32) + (7 : Int32))), .val (.int c3)] [])
                  rw [show ((21 : Int32) + (7 : Int32)) = (28 : Int32) from by decide]
                  show own_Go _ _ _ _ T69 (mkF m 82 #[.val (.ref a1), .val (.int r4), .val (.int (28 : Int32)), .val (.int c3)] [])
                  refine own_go (fun _ k => XS.goto X69.here hx rfl (pc0 := 82) (pc' := 4) rfl (hb hby d6_82) (by decide) (by decide) k) ?_
                  show own_Go _ _ _ _ T69 (mkF m 4 #[.val (.ref a1), .val (.int r4), .val (.int (28 : Int32)), .val (.int c3)] [])
                  refine own_go (fun _ k => XS.iloadN X69.here hx rfl (hb hby d6_4) rfl k) ?_
                  show own_Go _ _ _ _ T69 (mkF m 5 #[.val (.ref a1), .val (.int r4), .val (.int (28 : Int32)), .val (.int c3)] [(.int (28 : Int32))])
                  refine own_go (fun _ k => XS.bipush X69.here hx rfl (hb hby d6_5) k) ?_
                  show own_Go _ _ _ _ T69 (mkF m 7 #[.val (.ref a1), .val (.int r4), .val (.int (28 : Int32)), .val (.int c3)] [(.int (32 : Int32)), (.int (28 : Int32))])
                  refine own_go (fun _ k => XS.icmpNo X69.here hx rfl (hb hby d6_7) rfl (tlt (by decide)).2.1 k) ?_
                  show own_Go _ _ _ _ T69 (mkF m 10 #[.val (.ref a1), .val (.int r4), .val (.int (28 : Int32)), .val (.int c3)] [])
                  refine own_go (fun _ k => XS.aloadN X69.here hx rfl (hb hby d6_10) rfl rfl k) ?_
                  show own_Go _ _ _ _ T69 (mkF m 11 #[.val (.ref a1), .val (.int r4), .val (.int (28 : Int32)), .val (.int c3)] [(.ref a1)])
                  obtain ⟨T77, X77, e77, st77⟩ := getF X69 hx hZ hown (host := "") (Or.inl (hw _ (List.mem_of_getElem? (i := 23) rfl))) Via.refl e69 Fw69 (g := (mkF m 11 #[.val (.ref a1), .val (.int r4), .val (.int (28 : Int32)), .val (.int c3)] [(.ref a1)])) rfl rfl (hb hby d6_11)
                  refine own_go (st77) ?_
                  show own_Go _ _ _ _ T77 (mkF m 14 #[.val (.ref a1), .val (.int r4), .val (.int (28 : Int32)), .val (.int c3)] [(.int p4)])
                  refine own_go (fun _ k => XS.aloadN X77.here hx rfl (hb hby d6_14) rfl rfl k) ?_
                  show own_Go _ _ _ _ T77 (mkF m 15 #[.val (.ref a1), .val (.int r4), .val (.int (28 : Int32)), .val (.int c3)] [(.ref a1), (.int p4)])
                  have f78 := (f61.other W69 (Or.inr (slot_ne (Or.inr (hw _ (List.mem_of_getElem? (i := 26) rfl))) (Or.inl (hw _ (List.mem_of_getElem? (i := 24) rfl))) (by decide) (t := .int) (t' := .int) (by decide) (by decide))))
                  obtain ⟨T79, X79, e79, st79⟩ := getF X77 hx hZ hown (host := "") (Or.inl (hw _ (List.mem_of_getElem? (i := 25) rfl))) Via.refl e77 f78 (g := (mkF m 15 #[.val (.ref a1), .val (.int r4), .val (.int (28 : Int32)), .val (.int c3)] [(.ref a1), (.int p4)])) rfl rfl (hb hby d6_15)
                  refine own_go (st79) ?_
                  show own_Go _ _ _ _ T79 (mkF m 18 #[.val (.ref a1), .val (.int r4), .val (.int (28 : Int32)), .val (.int c3)] [(.int en), (.int p4)])
                  by_cases he4 : p4 = en
                  · skip
                    refine own_go (fun _ k => XS.icmpNo X79.here hx rfl (hb hby d6_18) rfl (teq he4).2 k) ?_
                    have heT := congrArg Int32.toInt he4
                    have hz : ¬ (s0 + (4 : Int32)) < en := own_nlt (by rw [own_sk4 hs1 (by omega)] <;> omega)
                    show own_Go _ _ _ _ T79 (mkF m 21 #[.val (.ref a1), .val (.int r4), .val (.int (28 : Int32)), .val (.int c3)] [])
                    refine own_go (fun _ k => XS.iconst X79.here hx rfl (hb hby d6_21) k) ?_
                    show own_Go _ _ _ _ T79 (mkF m 22 #[.val (.ref a1), .val (.int r4), .val (.int (28 : Int32)), .val (.int c3)] [(.int (-1 : Int32))])
                    have f80 := (((((Keep.refl h0 [a1]).wr W19 (Or.inl (List.mem_of_getElem? (i := 0) rfl))).wr W35 (Or.inl (List.mem_of_getElem? (i := 0) rfl))).wr W52 (Or.inl (List.mem_of_getElem? (i := 0) rfl))).wr W69 (Or.inl (List.mem_of_getElem? (i := 0) rfl)))
                    have f81 := (f70.wr W69)
                    have f82 := (f66.other W69 (Or.inr (slot_ne (Or.inr (hw _ (List.mem_of_getElem? (i := 22) rfl))) (Or.inl (hw _ (List.mem_of_getElem? (i := 24) rfl))) (by decide) (t := (.array .byte)) (t' := .int) (by decide) (by decide))))
                    have hsp := own_spA4 (f := f) ha0 hb0 ha1 hb1 ha2 hb2 ha3 hb3 hz
                    have hv : (-1 : Int32) = (own_spec f s0 en).1 := Eq.trans (rfl) (congrArg Prod.fst hsp).symm
                    have hp : p4 = s0 + (own_spec f s0 en).2 := Eq.trans ((he4.trans (own_cancel s0 en).symm)) (congrArg (fun z : Int32 × Int32 => s0 + z.2) hsp).symm
                    rw [hp] at Fw69
                    exact own_retI X79 hx hret hlk (hb hby d6_22) (by decide) (by decide) (by first | exact ⟨by rw [hv], N69, f80, f81, f82, Fw69, f78⟩ | (rw [e79]; exact ⟨by rw [hv], N69, f80, f81, f82, Fw69, f78⟩))
                  · skip
                    refine own_go (fun _ k => XS.icmpYes X79.here hx rfl (pc0 := 18) (pc' := 23) rfl (hb hby d6_18) rfl (feq he4).2 (by decide) (by decide) k) ?_
                    have hq4 : ¬ p4.toInt = en.toInt := fun q => he4 (Int32.toInt_inj.mp q)
                    have hlt4 : p4.toInt < en.toInt := by omega
                    have hn4 : ¬ p4 < 0 := own_nlt (by show (0 : Int32).toInt ≤ _; rw [own_e0]; omega)
                    show own_Go _ _ _ _ T79 (mkF m 23 #[.val (.ref a1), .val (.int r4), .val (.int (28 : Int32)), .val (.int c3)] [])
                    refine own_go (fun _ k => XS.aloadN X79.here hx rfl (hb hby d6_23) rfl rfl k) ?_
                    show own_Go _ _ _ _ T79 (mkF m 24 #[.val (.ref a1), .val (.int r4), .val (.int (28 : Int32)), .val (.int c3)] [(.ref a1)])
                    have f83 := (f66.other W69 (Or.inr (slot_ne (Or.inr (hw _ (List.mem_of_getElem? (i := 22) rfl))) (Or.inl (hw _ (List.mem_of_getElem? (i := 24) rfl))) (by decide) (t := (.array .byte)) (t' := .int) (by decide) (by decide))))
                    obtain ⟨T84, X84, e84, st84⟩ := getF X79 hx hZ hown (host := "") (Or.inl (hw _ (List.mem_of_getElem? (i := 21) rfl))) Via.refl e79 f83 (g := (mkF m 24 #[.val (.ref a1), .val (.int r4), .val (.int (28 : Int32)), .val (.int c3)] [(.ref a1)])) rfl rfl (hb hby d6_24)
                    refine own_go (st84) ?_
                    show own_Go _ _ _ _ T84 (mkF m 27 #[.val (.ref a1), .val (.int r4), .val (.int (28 : Int32)), .val (.int c3)] [(.ref a2)])
                    refine own_go (fun _ k => XS.aloadN X84.here hx rfl (hb hby d6_27) rfl rfl k) ?_
                    show own_Go _ _ _ _ T84 (mkF m 28 #[.val (.ref a1), .val (.int r4), .val (.int (28 : Int32)), .val (.int c3)] [(.ref a1), (.ref a2)])
                    refine own_go (fun _ k => XS.dup X84.here hx rfl (hb hby d6_28) rfl rfl k) ?_
                    show own_Go _ _ _ _ T84 (mkF m 29 #[.val (.ref a1), .val (.int r4), .val (.int (28 : Int32)), .val (.int c3)] [(.ref a1), (.ref a1), (.ref a2)])
                    obtain ⟨T85, X85, e85, st85⟩ := getF X84 hx hZ hown (host := "") (Or.inl (hw _ (List.mem_of_getElem? (i := 23) rfl))) Via.refl e84 Fw69 (g := (mkF m 29 #[.val (.ref a1), .val (.int r4), .val (.int (28 : Int32)), .val (.int c3)] [(.ref a1), (.ref a1), (.ref a2)])) rfl rfl (hb hby d6_29)
                    refine own_go (st85) ?_
                    show own_Go _ _ _ _ T85 (mkF m 32 #[.val (.ref a1), .val (.int r4), .val (.int (28 : Int32)), .val (.int c3)] [(.int p4), (.ref a1), (.ref a2)])
                    refine own_go (fun _ k => XS.dupX1 X85.here hx rfl (hb hby d6_32) rfl rfl rfl k) ?_
                    show own_Go _ _ _ _ T85 (mkF m 33 #[.val (.ref a1), .val (.int r4), .val (.int (28 : Int32)), .val (.int c3)] [(.int p4), (.ref a1), (.int p4), (.ref a2)])
                    refine own_go (fun _ k => XS.iconst X85.here hx rfl (hb hby d6_33) k) ?_
                    show own_Go _ _ _ _ T85 (mkF m 34 #[.val (.ref a1), .val (.int r4), .val (.int (28 : Int32)), .val (.int c3)] [(.int (1 : Int32)), (.int p4), (.ref a1), (.int p4), (.ref a2)])
                    refine own_go (fun _ k => XS.iadd X85.here hx rfl (hb hby d6_34) rfl k) ?_
                    show own_Go _ _ _ _ T85 (mkF m 35 #[.val (.ref a1), .val (.int r4), .val (.int (28 : Int32)), .val (.int c3)] [(.int (p4 + (1 : Int32))), (.ref a1), (.int p4), (.ref a2)])
                    obtain ⟨p5, hp5⟩ : ∃ z : Int32, z = (p4 + (1 : Int32)) := ⟨_, rfl⟩
                    rw [← hp5]
                    show own_Go _ _ _ _ T85 (mkF m 35 #[.val (.ref a1), .val (.int r4), .val (.int (28 : Int32)), .val (.int c3)] [(.int p5), (.ref a1), (.int p4), (.ref a2)])
                    have f87 := (f70.wr W69)
                    obtain ⟨T86, h86, X86, e86, W86, st86⟩ := putF X85 hx hZ hown (host := "") (Or.inl (hw _ (List.mem_of_getElem? (i := 23) rfl))) Via.refl e85 Fw69 f87 (Or.inl (hw _ (List.mem_of_getElem? (i := 24) rfl))) (hw _ (List.mem_of_getElem? (i := 13) rfl)) (ty := .int) (by decide) rfl rfl (g := (mkF m 35 #[.val (.ref a1), .val (.int r4), .val (.int (28 : Int32)), .val (.int c3)] [(.int p5), (.ref a1), (.int p4), (.ref a2)])) rfl rfl (hb hby d6_35)
                    refine own_go (st86) ?_
                    have Fw86 := Fw69.same W86
                    have N86 := Fr.snoc X86 N69 g_a1
                    show own_Go _ _ _ _ T86 (mkF m 38 #[.val (.ref a1), .val (.int r4), .val (.int (28 : Int32)), .val (.int c3)] [(.int p4), (.ref a2)])
                    have f89 := (V71.other W86 ne_1_2)
                    obtain ⟨cl88, Ar88, q88, S88, M88, H88, G88⟩ := f89
                    have V88 : Arv Z h86 a2 kk .byte nn _ _ := ⟨cl88, Ar88, q88, S88, M88, H88, G88⟩
                    have hin88 : ¬ (p4 < 0 ∨ cl88.slots.size ≤ (p4).toNatClampNeg) := inb_of S88 ⟨hn4, own_lt (by omega)⟩
                    have hat88 : cl88.slots[(p4).toNatClampNeg]? = some (.int (f (p4).toNatClampNeg)) := H88.at hin88 (hf _)
                    refine own_go (X86.baloadBytes hx (j := p4) (v := (.int (f (p4).toNatClampNeg))) (by rw [e86]; exact Ar88.1) (State.isArrayOf_alike hZ.alike Ar88.2.1) Ar88.2.2 hin88 hat88 (g := (mkF m 38 #[.val (.ref a1), .val (.int r4), .val (.int (28 : Int32)), .val (.int c3)] [(.int p4), (.ref a2)])) rfl rfl (hb hby d6_38)) ?_
                    show own_Go _ _ _ _ T86 (mkF m 39 #[.val (.ref a1), .val (.int r4), .val (.int (28 : Int32)), .val (.int c3)] [(.int (f (p4).toNatClampNeg))])
                    refine own_go (fun _ k => XS.sipush X86.here hx rfl (hb hby d6_39) k) ?_
                    show own_Go _ _ _ _ T86 (mkF m 42 #[.val (.ref a1), .val (.int r4), .val (.int (28 : Int32)), .val (.int c3)] [(.int (255 : Int32)), (.int (f (p4).toNatClampNeg))])
                    refine own_go (fun _ k => XS.iand X86.here hx rfl (hb hby d6_42) rfl k) ?_
                    show own_Go _ _ _ _ T86 (mkF m 43 #[.val (.ref a1), .val (.int r4), .val (.int (28 : Int32)), .val (.int c3)] [(.int ((f (p4).toNatClampNeg) &&& (255 : Int32)))])
                    obtain ⟨c4, hc4⟩ : ∃ z : Int32, z = ((f (p4).toNatClampNeg) &&& (255 : Int32)) := ⟨_, rfl⟩
                    rw [← hc4]
                    have ha4 : own_a f (s0 + (4 : Int32)) en = c4 := own_tA (by rw [own_sk4 hs1 (by omega)] <;> omega) hlt4 hc4
                    have hd4 := own_tC hc4
                    have u5 : p5.toInt = s0.toInt + 5 := by rw [hp5, own_inc _ _ (own_lt hlt4)] <;> omega
                    show own_Go _ _ _ _ T86 (mkF m 43 #[.val (.ref a1), .val (.int r4), .val (.int (28 : Int32)), .val (.int c3)] [(.int c4)])
                    refine own_go (fun _ k => XS.istoreN X86.here hx rfl (hb hby d6_43) rfl (l' := #[.val (.ref a1), .val (.int r4), .val (.int (28 : Int32)), .val (.int c4)]) rfl k) ?_
                    show own_Go _ _ _ _ T86 (mkF m 44 #[.val (.ref a1), .val (.int r4), .val (.int (28 : Int32)), .val (.int c4)] [])
                    refine own_go (fun _ k => XS.iloadN X86.here hx rfl (hb hby d6_44) rfl k) ?_
                    show own_Go _ _ _ _ T86 (mkF m 45 #[.val (.ref a1), .val (.int r4), .val (.int (28 : Int32)), .val (.int c4)] [(.int r4)])
                    refine own_go (fun _ k => XS.iloadN X86.here hx rfl (hb hby d6_45) rfl k) ?_
                    show own_Go _ _ _ _ T86 (mkF m 46 #[.val (.ref a1), .val (.int r4), .val (.int (28 : Int32)), .val (.int c4)] [(.int c4), (.int r4)])
                    refine own_go (fun _ k => XS.bipush X86.here hx rfl (hb hby d6_46) k) ?_
                    show own_Go _ _ _ _ T86 (mkF m 48 #[.val (.ref a1), .val (.int r4), .val (.int (28 : Int32)), .val (.int c4)] [(.int (127 : Int32)), (.int c4), (.int r4)])
                    refine own_go (fun _ k => XS.iand X86.here hx rfl (hb hby d6_48) rfl k) ?_
                    show own_Go _ _ _ _ T86 (mkF m 49 #[.val (.ref a1), .val (.int r4), .val (.int (28 : Int32)), .val (.int c4)] [(.int (c4 &&& (127 : Int32))), (.int r4)])
                    refine own_go (fun _ k => XS.iloadN X86.here hx rfl (hb hby d6_49) rfl k) ?_
                    show own_Go _ _ _ _ T86 (mkF m 50 #[.val (.ref a1), .val (.int r4), .val (.int (28 : Int32)), .val (.int c4)] [(.int (28 : Int32)), (.int (c4 &&& (127 : Int32))), (.int r4)])
                    refine own_go (fun _ k => XS.ishl X86.here hx rfl (hb hby d6_50) rfl k) ?_
                    show own_Go _ _ _ _ T86 (mkF m 51 #[.val (.ref a1), .val (.int r4), .val (.int (28 : Int32)), .val (.int c4)] [(.int ((c4 &&& (127 : Int32)) <<< ((28 : Int32) &&& 31))), (.int r4)])
                    refine own_go (fun _ k => XS.ior X86.here hx rfl (hb hby d6_51) rfl k) ?_
                    show own_Go _ _ _ _ T86 (mkF m 52 #[.val (.ref a1), .val (.int r4), .val (.int (28 : Int32)), .val (.int c4)] [(.int (r4 ||| ((c4 &&& (127 : Int32)) <<< ((28 : Int32) &&& 31))))])
                    obtain ⟨r5, hr5⟩ : ∃ z : Int32, z = (r4 ||| ((c4 &&& (127 : Int32)) <<< ((28 : Int32) &&& 31))) := ⟨_, rfl⟩
                    rw [← hr5]
                    show own_Go _ _ _ _ T86 (mkF m 52 #[.val (.ref a1), .val (.int r4), .val (.int (28 : Int32)), .val (.int c4)] [(.int r5)])
                    refine own_go (fun _ k => XS.istoreN X86.here hx rfl (hb hby d6_52) rfl (l' := #[.val (.ref a1), .val (.int r5), .val (.int (28 : Int32)), .val (.int c4)]) rfl k) ?_
                    show own_Go _ _ _ _ T86 (mkF m 53 #[.val (.ref a1), .val (.int r5), .val (.int (28 : Int32)), .val (.int c4)] [])
                    refine own_go (fun _ k => XS.iloadN X86.here hx rfl (hb hby d6_53) rfl k) ?_
                    show own_Go _ _ _ _ T86 (mkF m 54 #[.val (.ref a1), .val (.int r5), .val (.int (28 : Int32)), .val (.int c4)] [(.int c4)])
                    refine own_go (fun _ k => XS.sipush X86.here hx rfl (hb hby d6_54) k) ?_
                    show own_Go _ _ _ _ T86 (mkF m 57 #[.val (.ref a1), .val (.int r5), .val (.int (28 : Int32)), .val (.int c4)] [(.int (128 : Int32)), (.int c4)])
                    refine own_go (fun _ k => XS.iand X86.here hx rfl (hb hby d6_57) rfl k) ?_
                    show own_Go _ _ _ _ T86 (mkF m 58 #[.val (.ref a1), .val (.int r5), .val (.int (28 : Int32)), .val (.int c4)] [(.int (c4 &&& (128 : Int32)))])
                    by_cases hg4 : (c4 &&& (128 : Int32)) = (0 : Int32)
                    · skip
                      refine own_go (fun _ k => XS.ifNo X86.here hx rfl (hb hby d6_58) rfl ((if0 _ _).trans (teq hg4).2) k) ?_
                      have hh := (own_t128 hd4).mp hg4
                      show own_Go _ _ _ _ T86 (mkF m 61 #[.val (.ref a1), .val (.int r5), .val (.int (28 : Int32)), .val (.int c4)] [])
                      refine own_go (fun _ k => XS.iloadN X86.here hx rfl (hb hby d6_61) rfl k) ?_
                      show own_Go _ _ _ _ T86 (mkF m 62 #[.val (.ref a1), .val (.int r5), .val (.int (28 : Int32)), .val (.int c4)] [(.int (28 : Int32))])
                      refine own_go (fun _ k => XS.bipush X86.here hx rfl (hb hby d6_62) k) ?_
                      show own_Go _ _ _ _ T86 (mkF m 64 #[.val (.ref a1), .val (.int r5), .val (.int (28 : Int32)), .val (.int c4)] [(.int (28 : Int32)), (.int (28 : Int32))])
                      refine own_go (fun _ k => XS.icmpNo X86.here hx rfl (hb hby d6_64) rfl (teq rfl).2 k) ?_
                      show own_Go _ _ _ _ T86 (mkF m 67 #[.val (.ref a1), .val (.int r5), .val (.int (28 : Int32)), .val (.int c4)] [])
                      refine own_go (fun _ k => XS.iloadN X86.here hx rfl (hb hby d6_67) rfl k) ?_
                      show own_Go _ _ _ _ T86 (mkF m 68 #[.val (.ref a1), .val (.int r5), .val (.int (28 : Int32)), .val (.int c4)] [(.int c4)])
                      refine own_go (fun _ k => XS.bipush X86.here hx rfl (hb hby d6_68) k) ?_
                      show own_Go _ _ _ _ T86 (mkF m 70 #[.val (.ref a1), .val (.int r5), .val (.int (28 : Int32)), .val (.int c4)] [(.int (7 : Int32)), (.int c4)])
                      by_cases h7 : (7 : Int32) < c4
                      · skip
                        refine own_go (fun _ k => XS.icmpNo X86.here hx rfl (hb hby d6_70) rfl (tlt h7).2.2.2 k) ?_
                        show own_Go _ _ _ _ T86 (mkF m 73 #[.val (.ref a1), .val (.int r5), .val (.int (28 : Int32)), .val (.int c4)] [])
                        refine own_go (fun _ k => XS.iconst X86.here hx rfl (hb hby d6_73) k) ?_
                        show own_Go _ _ _ _ T86 (mkF m 74 #[.val (.ref a1), .val (.int r5), .val (.int (28 : Int32)), .val (.int c4)] [(.int (-1 : Int32))])
                        refine own_go (fun _ k => XS.goto X86.here hx rfl (pc0 := 74) (pc' := 78) rfl (hb hby d6_74) (by decide) (by decide) k) ?_
                        show own_Go _ _ _ _ T86 (mkF m 78 #[.val (.ref a1), .val (.int r5), .val (.int (28 : Int32)), .val (.int c4)] [(.int (-1 : Int32))])
                        have f90 := ((((((Keep.refl h0 [a1]).wr W19 (Or.inl (List.mem_of_getElem? (i := 0) rfl))).wr W35 (Or.inl (List.mem_of_getElem? (i := 0) rfl))).wr W52 (Or.inl (List.mem_of_getElem? (i := 0) rfl))).wr W69 (Or.inl (List.mem_of_getElem? (i := 0) rfl))).wr W86 (Or.inl (List.mem_of_getElem? (i := 0) rfl)))
                        have f91 := (f87.wr W86)
                        have f92 := (f83.other W86 (Or.inr (slot_ne (Or.inr (hw _ (List.mem_of_getElem? (i := 22) rfl))) (Or.inl (hw _ (List.mem_of_getElem? (i := 24) rfl))) (by decide) (t := (.array .byte)) (t' := .int) (by decide) (by decide))))
                        have f93 := (f78.other W86 (Or.inr (slot_ne (Or.inr (hw _ (List.mem_of_getElem? (i := 26) rfl))) (Or.inl (hw _ (List.mem_of_getElem? (i := 24) rfl))) (by decide) (t := .int) (t' := .int) (by decide) (by decide))))
                        have hsp := own_spG4 ha0 hb0 ha1 hb1 ha2 hb2 ha3 hb3 ha4 hd4.1 hh h7
                        have hv : (-1 : Int32) = (own_spec f s0 en).1 := Eq.trans (rfl) (congrArg Prod.fst hsp).symm
                        have hp : p5 = s0 + (own_spec f s0 en).2 := Eq.trans (own_step5 hs1 (by omega) (by omega)) (congrArg (fun z : Int32 × Int32 => s0 + z.2) hsp).symm
                        rw [hp] at Fw86
                        exact own_retI X86 hx hret hlk (hb hby d6_78) (by decide) (by decide) (by first | exact ⟨by rw [hv], N86, f90, f91, f92, Fw86, f93⟩ | (rw [e86]; exact ⟨by rw [hv], N86, f90, f91, f92, Fw86, f93⟩))
                      · skip
                        refine own_go (fun _ k => XS.icmpYes X86.here hx rfl (pc0 := 70) (pc' := 77) rfl (hb hby d6_70) rfl (flt h7).2.2.2 (by decide) (by decide) k) ?_
                        have h7' := own_nlt' h7
                        have v5 : r5.toInt = r4.toInt + c4.toInt % 128 * 268435456 := by rw [hr5]; exact own_tR4 _ _ (by omega) (by omega)
                        show own_Go _ _ _ _ T86 (mkF m 77 #[.val (.ref a1), .val (.int r5), .val (.int (28 : Int32)), .val (.int c4)] [])
                        refine own_go (fun _ k => XS.iloadN X86.here hx rfl (hb hby d6_77) rfl k) ?_
                        show own_Go _ _ _ _ T86 (mkF m 78 #[.val (.ref a1), .val (.int r5), .val (.int (28 : Int32)), .val (.int c4)] [(.int r5)])
                        have f94 := ((((((Keep.refl h0 [a1]).wr W19 (Or.inl (List.mem_of_getElem? (i := 0) rfl))).wr W35 (Or.inl (List.mem_of_getElem? (i := 0) rfl))).wr W52 (Or.inl (List.mem_of_getElem? (i := 0) rfl))).wr W69 (Or.inl (List.mem_of_getElem? (i := 0) rfl))).wr W86 (Or.inl (List.mem_of_getElem? (i := 0) rfl)))
                        have f95 := (f87.wr W86)
                        have f96 := (f83.other W86 (Or.inr (slot_ne (Or.inr (hw _ (List.mem_of_getElem? (i := 22) rfl))) (Or.inl (hw _ (List.mem_of_getElem? (i := 24) rfl))) (by decide) (t := (.array .byte)) (t' := .int) (by decide) (by decide))))
                        have f97 := (f78.other W86 (Or.inr (slot_ne (Or.inr (hw _ (List.mem_of_getElem? (i := 26) rfl))) (Or.inl (hw _ (List.mem_of_getElem? (i := 24) rfl))) (by decide) (t := .int) (t' := .int) (by decide) (by decide))))
                        have hsp := own_spB4 ha0 hb0 ha1 hb1 ha2 hb2 ha3 hb3 ha4 hd4.1 hh h7
                        have hv : r5 = (own_spec f s0 en).1 := Eq.trans (own_val4 hd0 hd1 hd2 hd3 ⟨hd4.1, h7'⟩ (by omega)) (congrArg Prod.fst hsp).symm
                        have hp : p5 = s0 + (own_spec f s0 en).2 := Eq.trans (own_step5 hs1 (by omega) (by omega)) (congrArg (fun z : Int32 × Int32 => s0 + z.2) hsp).symm
                        rw [hp] at Fw86
                        exact own_retI X86 hx hret hlk (hb hby d6_78) (by decide) (by decide) (by first | exact ⟨by rw [hv], N86, f94, f95, f96, Fw86, f97⟩ | (rw [e86]; exact ⟨by rw [hv], N86, f94, f95, f96, Fw86, f97⟩))
                    · skip
                      refine own_go (fun _ k => XS.ifYes X86.here hx rfl (pc0 := 58) (pc' := 79) rfl (hb hby d6_58) rfl ((if0 _ _).trans (feq hg4).2) (by decide) (by decide) k) ?_
                      have hb4 : 128 ≤ c4.toInt := by
                        have hx' : ¬ c4.toInt < 128 := fun q => hg4 ((own_t128 hd4).mpr q)
                        omega
                      show own_Go _ _ _ _ T86 (mkF m 79 #[.val (.ref a1), .val (.int r5), .val (.int (28 : Int32)), .val (.int c4)] [])
                      refine own_go (fun _ k => XS.iinc X86.here hx rfl (hb hby d6_79) rfl (l' := #[.val (.ref a1), .val (.int r5), .val (.int ((28 : Int32) + (7 : Int32))), .val (.int c4)]) rfl k) ?_
                      show own_Go _ _ _ _ T86 (mkF m 82 #[.val (.ref a1), .val (.int r5), .val (.int ((28 : Int32) + (7 : Int32))), .val (.int c4)] [])
                      rw [show ((28 : Int32) + (7 : Int32)) = (35 : Int32) from by decide]
                      show own_Go _ _ _ _ T86 (mkF m 82 #[.val (.ref a1), .val (.int r5), .val (.int (35 : Int32)), .val (.int c4)] [])
                      refine own_go (fun _ k => XS.goto X86.here hx rfl (pc0 := 82) (pc' := 4) rfl (hb hby d6_82) (by decide) (by decide) k) ?_
                      show own_Go _ _ _ _ T86 (mkF m 4 #[.val (.ref a1), .val (.int r5), .val (.int (35 : Int32)), .val (.int c4)] [])
                      refine own_go (fun _ k => XS.iloadN X86.here hx rfl (hb hby d6_4) rfl k) ?_
                      show own_Go _ _ _ _ T86 (mkF m 5 #[.val (.ref a1), .val (.int r5), .val (.int (35 : Int32)), .val (.int c4)] [(.int (35 : Int32))])
                      refine own_go (fun _ k => XS.bipush X86.here hx rfl (hb hby d6_5) k) ?_
                      show own_Go _ _ _ _ T86 (mkF m 7 #[.val (.ref a1), .val (.int r5), .val (.int (35 : Int32)), .val (.int c4)] [(.int (32 : Int32)), (.int (35 : Int32))])
                      refine own_go (fun _ k => XS.icmpYes X86.here hx rfl (pc0 := 7) (pc' := 85) rfl (hb hby d6_7) rfl (flt (by decide)).2.1 (by decide) (by decide) k) ?_
                      show own_Go _ _ _ _ T86 (mkF m 85 #[.val (.ref a1), .val (.int r5), .val (.int (35 : Int32)), .val (.int c4)] [])
                      refine own_go (fun _ k => XS.iconst X86.here hx rfl (hb hby d6_85) k) ?_
                      show own_Go _ _ _ _ T86 (mkF m 86 #[.val (.ref a1), .val (.int r5), .val (.int (35 : Int32)), .val (.int c4)] [(.int (-1 : Int32))])
                      have f98 := ((((((Keep.refl h0 [a1]).wr W19 (Or.inl (List.mem_of_getElem? (i := 0) rfl))).wr W35 (Or.inl (List.mem_of_getElem? (i := 0) rfl))).wr W52 (Or.inl (List.mem_of_getElem? (i := 0) rfl))).wr W69 (Or.inl (List.mem_of_getElem? (i := 0) rfl))).wr W86 (Or.inl (List.mem_of_getElem? (i := 0) rfl)))
                      have f99 := (f87.wr W86)
                      have f100 := (f83.other W86 (Or.inr (slot_ne (Or.inr (hw _ (List.mem_of_getElem? (i := 22) rfl))) (Or.inl (hw _ (List.mem_of_getElem? (i := 24) rfl))) (by decide) (t := (.array .byte)) (t' := .int) (by decide) (by decide))))
                      have f101 := (f78.other W86 (Or.inr (slot_ne (Or.inr (hw _ (List.mem_of_getElem? (i := 26) rfl))) (Or.inl (hw _ (List.mem_of_getElem? (i := 24) rfl))) (by decide) (t := .int) (t' := .int) (by decide) (by decide))))
                      have hsp := own_spO4 ha0 hb0 ha1 hb1 ha2 hb2 ha3 hb3 ha4 hb4
                      have hv : (-1 : Int32) = (own_spec f s0 en).1 := Eq.trans (rfl) (congrArg Prod.fst hsp).symm
                      have hp : p5 = s0 + (own_spec f s0 en).2 := Eq.trans (own_step5 hs1 (by omega) (by omega)) (congrArg (fun z : Int32 × Int32 => s0 + z.2) hsp).symm
                      rw [hp] at Fw86
                      exact own_retI X86 hx hret hlk (hb hby d6_86) (by decide) (by decide) (by first | exact ⟨by rw [hv], N86, f98, f99, f100, Fw86, f101⟩ | (rw [e86]; exact ⟨by rw [hv], N86, f98, f99, f100, Fw86, f101⟩))
set_option maxRecDepth 65536 in
set_option maxHeartbeats 40000000 in
theorem rm4 (l : Launch) (Z : State) (a0 : Array Value) (hw : ∀ d ∈ tables_1, d.before a0 Z = true) (ws : List Jvm.Cond) (p1 p2 : Int32) (h0 : Heap) (n0 : Nat) (Z0 : n0 ≤ h0.size) :
    own_Met l (⟨"com/example/cranfield/cranfield/engine/ByteReaderReadVarIntPinLaw", "pack", "(II)J"⟩ : MethodName) method_2_code 2 (some .long) ws ({ frames := 0, cells := 0, slots := 0, locals := 0 } : Room) Z #[(.int p1), (.int p2)] h0 (fun v h L => v = some (.long (own_pack p1 p2)) ∧ Fr n0 L ∧ h0 = h) := by
  refine own_body (plainFor_of_name (by first | (simp [plainName, overriddenIn]; done) | decide +kernel)) ?_
  intro p e s m below meth c s₁ X0 hx hby hml hown hnm hret hlk hZ e0
  have N0 := Fr.nil n0
  refine own_cast (show entryFrame m #[(.int p1), (.int p2)] 2 = mkF m 0 #[.val (.int p1), .val (.int p2)] [] from by first | (simp [entryFrame, mkF, argsToLocals, Value.category]; done) | rfl) ?_
  show own_Go _ _ _ _ s₁ (mkF m 0 #[.val (.int p1), .val (.int p2)] [])
  refine own_go (fun _ k => XS.iloadN X0.here hx rfl (hb hby d3_0) rfl k) ?_
  show own_Go _ _ _ _ s₁ (mkF m 1 #[.val (.int p1), .val (.int p2)] [(.int p2)])
  refine own_go (fun _ k => XS.i2l X0.here hx rfl (hb hby d3_1) rfl k) ?_
  show own_Go _ _ _ _ s₁ (mkF m 2 #[.val (.int p1), .val (.int p2)] [(.long (p2).toInt64)])
  refine own_go (fun _ k => XS.bipush X0.here hx rfl (hb hby d3_2) k) ?_
  show own_Go _ _ _ _ s₁ (mkF m 4 #[.val (.int p1), .val (.int p2)] [(.int (32 : Int32)), (.long (p2).toInt64)])
  refine own_go (fun _ k => XS.lshl X0.here hx rfl (hb hby d3_4) rfl k) ?_
  show own_Go _ _ _ _ s₁ (mkF m 5 #[.val (.int p1), .val (.int p2)] [(.long ((p2).toInt64 <<< ((32 : Int32) &&& 0x3f).toInt64))])
  refine own_go (fun _ k => XS.iloadN X0.here hx rfl (hb hby d3_5) rfl k) ?_
  show own_Go _ _ _ _ s₁ (mkF m 6 #[.val (.int p1), .val (.int p2)] [(.int p1), (.long ((p2).toInt64 <<< ((32 : Int32) &&& 0x3f).toInt64))])
  refine own_go (fun _ k => XS.i2l X0.here hx rfl (hb hby d3_6) rfl k) ?_
  show own_Go _ _ _ _ s₁ (mkF m 7 #[.val (.int p1), .val (.int p2)] [(.long (p1).toInt64), (.long ((p2).toInt64 <<< ((32 : Int32) &&& 0x3f).toInt64))])
  refine own_go (X0.ldc2Long hx hown (mvT hZ (hw _ (List.mem_of_getElem? (i := 11) rfl))) (g := (mkF m 7 #[.val (.int p1), .val (.int p2)] [(.long (p1).toInt64), (.long ((p2).toInt64 <<< ((32 : Int32) &&& 0x3f).toInt64))])) rfl (hb hby d3_7)) ?_
  show own_Go _ _ _ _ s₁ (mkF m 10 #[.val (.int p1), .val (.int p2)] [(.long (4294967295 : Int64)), (.long (p1).toInt64), (.long ((p2).toInt64 <<< ((32 : Int32) &&& 0x3f).toInt64))])
  refine own_go (fun _ k => XS.land X0.here hx rfl (hb hby d3_10) rfl k) ?_
  show own_Go _ _ _ _ s₁ (mkF m 11 #[.val (.int p1), .val (.int p2)] [(.long ((p1).toInt64 &&& (4294967295 : Int64))), (.long ((p2).toInt64 <<< ((32 : Int32) &&& 0x3f).toInt64))])
  refine own_go (fun _ k => XS.lor X0.here hx rfl (hb hby d3_11) rfl k) ?_
  show own_Go _ _ _ _ s₁ (mkF m 12 #[.val (.int p1), .val (.int p2)] [(.long (((p2).toInt64 <<< ((32 : Int32) &&& 0x3f).toInt64) ||| ((p1).toInt64 &&& (4294967295 : Int64))))])
  exact own_retJ X0 hx hret hlk (hb hby d3_12) (by decide) (by decide) (by first | exact ⟨rfl, N0, rfl⟩ | (rw [e0]; exact ⟨rfl, N0, rfl⟩))
set_option maxRecDepth 65536 in
set_option maxHeartbeats 40000000 in
theorem rm5 (l : Launch) (Z : State) (a0 : Array Value) (hw : ∀ d ∈ tables_1, d.before a0 Z = true) (ws : List Jvm.Cond) (a1 : Addr) (p2 p3 : Int32) (kk : ClassId) (nn : Int32) (vs : List Value) (dv : Value) (f : Nat → Int32) (h0 : Heap) (n0 : Nat) (Z0 : n0 ≤ h0.size) (V_a1 : Arv Z h0 a1 kk .byte nn vs dv) (hf : ∀ i : Nat, vs.getD i dv = .int (f i)) (h1 : 0 ≤ p2.toInt) (h2 : p3.toInt ≤ nn.toInt) :
    own_Met l (⟨"com/example/cranfield/cranfield/engine/ByteReaderReadVarIntPinLaw", "at", "([BII)I"⟩ : MethodName) method_3_code 3 (some .int) ws ({ frames := 0, cells := 0, slots := 0, locals := 0 } : Room) Z #[(.ref a1), (.int p2), (.int p3)] h0 (fun v h L => v = some (.int (own_a f p2 p3)) ∧ Fr n0 L ∧ h0 = h) := by
  refine own_body (plainFor_of_name (by first | (simp [plainName, overriddenIn]; done) | decide +kernel)) ?_
  intro p e s m below meth c s₁ X0 hx hby hml hown hnm hret hlk hZ e0
  have N0 := Fr.nil n0
  refine own_cast (show entryFrame m #[(.ref a1), (.int p2), (.int p3)] 3 = mkF m 0 #[.val (.ref a1), .val (.int p2), .val (.int p3)] [] from by first | (simp [entryFrame, mkF, argsToLocals, Value.category]; done) | rfl) ?_
  show own_Go _ _ _ _ s₁ (mkF m 0 #[.val (.ref a1), .val (.int p2), .val (.int p3)] [])
  refine own_go (fun _ k => XS.iloadN X0.here hx rfl (hb hby d2_0) rfl k) ?_
  show own_Go _ _ _ _ s₁ (mkF m 1 #[.val (.ref a1), .val (.int p2), .val (.int p3)] [(.int p2)])
  refine own_go (fun _ k => XS.iloadN X0.here hx rfl (hb hby d2_1) rfl k) ?_
  show own_Go _ _ _ _ s₁ (mkF m 2 #[.val (.ref a1), .val (.int p2), .val (.int p3)] [(.int p3), (.int p2)])
  by_cases hc : p2 < p3
  · skip
    refine own_go (fun _ k => XS.icmpNo X0.here hx rfl (hb hby d2_2) rfl (tlt hc).2.1 k) ?_
    have hc' := Int32.lt_iff_toInt_lt.mp hc
    show own_Go _ _ _ _ s₁ (mkF m 5 #[.val (.ref a1), .val (.int p2), .val (.int p3)] [])
    refine own_go (fun _ k => XS.aloadN X0.here hx rfl (hb hby d2_5) rfl rfl k) ?_
    show own_Go _ _ _ _ s₁ (mkF m 6 #[.val (.ref a1), .val (.int p2), .val (.int p3)] [(.ref a1)])
    refine own_go (fun _ k => XS.iloadN X0.here hx rfl (hb hby d2_6) rfl k) ?_
    show own_Go _ _ _ _ s₁ (mkF m 7 #[.val (.ref a1), .val (.int p2), .val (.int p3)] [(.int p2), (.ref a1)])
    obtain ⟨cl102, Ar102, q102, S102, M102, H102, G102⟩ := V_a1
    have V102 : Arv Z h0 a1 kk .byte nn _ _ := ⟨cl102, Ar102, q102, S102, M102, H102, G102⟩
    have hin102 : ¬ (p2 < 0 ∨ cl102.slots.size ≤ (p2).toNatClampNeg) := inb_of S102 ⟨own_nlt (by show (0 : Int32).toInt ≤ _; rw [own_e0]; omega), own_lt (by omega)⟩
    have hat102 : cl102.slots[(p2).toNatClampNeg]? = some (.int (f (p2).toNatClampNeg)) := H102.at hin102 (hf _)
    refine own_go (X0.baloadBytes hx (j := p2) (v := (.int (f (p2).toNatClampNeg))) (by rw [e0]; exact Ar102.1) (State.isArrayOf_alike hZ.alike Ar102.2.1) Ar102.2.2 hin102 hat102 (g := (mkF m 7 #[.val (.ref a1), .val (.int p2), .val (.int p3)] [(.int p2), (.ref a1)])) rfl rfl (hb hby d2_7)) ?_
    show own_Go _ _ _ _ s₁ (mkF m 8 #[.val (.ref a1), .val (.int p2), .val (.int p3)] [(.int (f (p2).toNatClampNeg))])
    refine own_go (fun _ k => XS.sipush X0.here hx rfl (hb hby d2_8) k) ?_
    show own_Go _ _ _ _ s₁ (mkF m 11 #[.val (.ref a1), .val (.int p2), .val (.int p3)] [(.int (255 : Int32)), (.int (f (p2).toNatClampNeg))])
    refine own_go (fun _ k => XS.iand X0.here hx rfl (hb hby d2_11) rfl k) ?_
    show own_Go _ _ _ _ s₁ (mkF m 12 #[.val (.ref a1), .val (.int p2), .val (.int p3)] [(.int ((f (p2).toNatClampNeg) &&& (255 : Int32)))])
    refine own_go (fun _ k => XS.goto X0.here hx rfl (pc0 := 12) (pc' := 16) rfl (hb hby d2_12) (by decide) (by decide) k) ?_
    show own_Go _ _ _ _ s₁ (mkF m 16 #[.val (.ref a1), .val (.int p2), .val (.int p3)] [(.int ((f (p2).toNatClampNeg) &&& (255 : Int32)))])
    exact own_retI X0 hx hret hlk (hb hby d2_16) (by decide) (by decide) (by first | exact ⟨by rw [own_a, if_pos hc], N0, rfl⟩ | (rw [e0]; exact ⟨by rw [own_a, if_pos hc], N0, rfl⟩))
  · skip
    refine own_go (fun _ k => XS.icmpYes X0.here hx rfl (pc0 := 2) (pc' := 15) rfl (hb hby d2_2) rfl (flt hc).2.1 (by decide) (by decide) k) ?_
    show own_Go _ _ _ _ s₁ (mkF m 15 #[.val (.ref a1), .val (.int p2), .val (.int p3)] [])
    refine own_go (fun _ k => XS.iconst X0.here hx rfl (hb hby d2_15) k) ?_
    show own_Go _ _ _ _ s₁ (mkF m 16 #[.val (.ref a1), .val (.int p2), .val (.int p3)] [(.int (-1 : Int32))])
    exact own_retI X0 hx hret hlk (hb hby d2_16) (by decide) (by decide) (by first | exact ⟨by rw [own_a, if_neg hc], N0, rfl⟩ | (rw [e0]; exact ⟨by rw [own_a, if_neg hc], N0, rfl⟩))
set_option maxRecDepth 65536 in
set_option maxHeartbeats 40000000 in
theorem rm6 (l : Launch) (Z : State) (a0 : Array Value) (hw : ∀ d ∈ tables_1, d.before a0 Z = true) (ws : List Jvm.Cond) (a1 : Addr) (s0 en : Int32) (kk : ClassId) (nn : Int32) (vs : List Value) (dv : Value) (f : Nat → Int32) (h0 : Heap) (n0 : Nat) (Z0 : n0 ≤ h0.size) (V_a1 : Arv Z h0 a1 kk .byte nn vs dv) (hf : ∀ i : Nat, vs.getD i dv = .int (f i)) (hs : 0 ≤ s0.toInt ∧ s0.toInt ≤ en.toInt ∧ en.toInt ≤ nn.toInt ∧ nn.toInt ≤ 1000) :
    own_Met l (⟨"com/example/cranfield/cranfield/engine/ByteReaderReadVarIntPinLaw", "ref", "([BII)J"⟩ : MethodName) method_4_code 8 (some .long) ws ({ frames := 1, cells := 0, slots := 0, locals := 14 } : Room) Z #[(.ref a1), (.int s0), (.int en)] h0 (fun v h L => v = some (.long (own_pack (own_spec f s0 en).1 (own_spec f s0 en).2)) ∧ Fr n0 L ∧ h0 = h) := by
  refine own_body (plainFor_of_name (by first | (simp [plainName, overriddenIn]; done) | decide +kernel)) ?_
  intro p e s m below meth c s₁ X0 hx hby hml hown hnm hret hlk hZ e0
  have N0 := Fr.nil n0
  refine own_cast (show entryFrame m #[(.ref a1), (.int s0), (.int en)] 8 = mkF m 0 #[.val (.ref a1), .val (.int s0), .val (.int en), .unset, .unset, .unset, .unset, .unset] [] from by first | (simp [entryFrame, mkF, argsToLocals, Value.category]; done) | rfl) ?_
  obtain ⟨hs1, hs2, hs3, hs4⟩ := hs
  show own_Go _ _ _ _ s₁ (mkF m 0 #[.val (.ref a1), .val (.int s0), .val (.int en), .unset, .unset, .unset, .unset, .unset] [])
  refine own_go (fun _ k => XS.aloadN X0.here hx rfl (hb hby d1_0) rfl rfl k) ?_
  show own_Go _ _ _ _ s₁ (mkF m 1 #[.val (.ref a1), .val (.int s0), .val (.int en), .unset, .unset, .unset, .unset, .unset] [(.ref a1)])
  refine own_go (fun _ k => XS.iloadN X0.here hx rfl (hb hby d1_1) rfl k) ?_
  show own_Go _ _ _ _ s₁ (mkF m 2 #[.val (.ref a1), .val (.int s0), .val (.int en), .unset, .unset, .unset, .unset, .unset] [(.int s0), (.ref a1)])
  refine own_go (fun _ k => XS.iloadN X0.here hx rfl (hb hby d1_2) rfl k) ?_
  show own_Go _ _ _ _ s₁ (mkF m 3 #[.val (.ref a1), .val (.int s0), .val (.int en), .unset, .unset, .unset, .unset, .unset] [(.int en), (.int s0), (.ref a1)])
  obtain ⟨v103, T103, h103, L103, X103, e103, hQ103, st103⟩ := own_callS X0 hx hZ hown (hw _ (List.mem_of_getElem? (i := 5) rfl)) (hw _ (List.mem_of_getElem? (i := 6) rfl)) (hw _ (List.mem_of_getElem? (i := 3) rfl)) (hw _ (List.mem_of_getElem? (i := 7) rfl)) (by decide) e0 (argsL := [(.ref a1), (.int s0), (.int en)]) (rest := []) (rm5 l Z a0 hw [] a1 s0 en kk nn vs dv f h0 n0 Z0 V_a1 hf (by rw [own_sk0 hs1 (by omega)] <;> omega) hs3) 0 (by decide) (by decide) (by decide) (by decide) (g := (mkF m 3 #[.val (.ref a1), .val (.int s0), .val (.int en), .unset, .unset, .unset, .unset, .unset] [(.int en), (.int s0), (.ref a1)])) rfl (by rw [hml]; rfl) (lenOf pd0 rfl) rfl (Nat.le_of_eq rfl) (hb hby d1_3)
  obtain ⟨rfl, N103q, rfl⟩ := hQ103
  refine own_go (st103) ?_
  have N103 := Fr.app N0 N103q
  show own_Go _ _ _ _ T103 (mkF m 6 #[.val (.ref a1), .val (.int s0), .val (.int en), .unset, .unset, .unset, .unset, .unset] [(.int (own_a f s0 en))])
  refine own_go (fun _ k => XS.istoreN X103.here hx rfl (hb hby d1_6) rfl (l' := #[.val (.ref a1), .val (.int s0), .val (.int en), .val (.int (own_a f s0 en)), .unset, .unset, .unset, .unset]) rfl k) ?_
  show own_Go _ _ _ _ T103 (mkF m 7 #[.val (.ref a1), .val (.int s0), .val (.int en), .val (.int (own_a f s0 en)), .unset, .unset, .unset, .unset] [])
  refine own_go (fun _ k => XS.iloadN X103.here hx rfl (hb hby d1_7) rfl k) ?_
  show own_Go _ _ _ _ T103 (mkF m 8 #[.val (.ref a1), .val (.int s0), .val (.int en), .val (.int (own_a f s0 en)), .unset, .unset, .unset, .unset] [(.int (own_a f s0 en))])
  by_cases hn0 : (own_a f s0 en) < (0 : Int32)
  · skip
    refine own_go (fun _ k => XS.ifNo X103.here hx rfl (hb hby d1_8) rfl ((if0 _ _).trans (tlt hn0).2.1) k) ?_
    show own_Go _ _ _ _ T103 (mkF m 11 #[.val (.ref a1), .val (.int s0), .val (.int en), .val (.int (own_a f s0 en)), .unset, .unset, .unset, .unset] [])
    refine own_go (fun _ k => XS.iconst X103.here hx rfl (hb hby d1_11) k) ?_
    show own_Go _ _ _ _ T103 (mkF m 12 #[.val (.ref a1), .val (.int s0), .val (.int en), .val (.int (own_a f s0 en)), .unset, .unset, .unset, .unset] [(.int (-1 : Int32))])
    refine own_go (fun _ k => XS.iloadN X103.here hx rfl (hb hby d1_12) rfl k) ?_
    show own_Go _ _ _ _ T103 (mkF m 13 #[.val (.ref a1), .val (.int s0), .val (.int en), .val (.int (own_a f s0 en)), .unset, .unset, .unset, .unset] [(.int en), (.int (-1 : Int32))])
    refine own_go (fun _ k => XS.iloadN X103.here hx rfl (hb hby d1_13) rfl k) ?_
    show own_Go _ _ _ _ T103 (mkF m 14 #[.val (.ref a1), .val (.int s0), .val (.int en), .val (.int (own_a f s0 en)), .unset, .unset, .unset, .unset] [(.int s0), (.int en), (.int (-1 : Int32))])
    refine own_go (fun _ k => XS.isub X103.here hx rfl (hb hby d1_14) rfl k) ?_
    show own_Go _ _ _ _ T103 (mkF m 15 #[.val (.ref a1), .val (.int s0), .val (.int en), .val (.int (own_a f s0 en)), .unset, .unset, .unset, .unset] [(.int (en - s0)), (.int (-1 : Int32))])
    obtain ⟨v104, T104, h104, L104, X104, e104, hQ104, st104⟩ := own_callS X103 hx hZ hown (hw _ (List.mem_of_getElem? (i := 8) rfl)) (hw _ (List.mem_of_getElem? (i := 9) rfl)) (hw _ (List.mem_of_getElem? (i := 3) rfl)) (hw _ (List.mem_of_getElem? (i := 10) rfl)) (by decide) e103 (argsL := [(.int (-1 : Int32)), (.int (en - s0))]) (rest := []) (rm4 l Z a0 hw [] (-1 : Int32) (en - s0) h0 n0 Z0) 0 (by decide) (by decide) (by decide) (by decide) (g := (mkF m 15 #[.val (.ref a1), .val (.int s0), .val (.int en), .val (.int (own_a f s0 en)), .unset, .unset, .unset, .unset] [(.int (en - s0)), (.int (-1 : Int32))])) rfl (by rw [hml]; rfl) (lenOf pd1 rfl) rfl (Nat.le_of_eq rfl) (hb hby d1_15)
    obtain ⟨rfl, N104q, rfl⟩ := hQ104
    refine own_go (st104) ?_
    have N104 := Fr.app N103 N104q
    show own_Go _ _ _ _ T104 (mkF m 18 #[.val (.ref a1), .val (.int s0), .val (.int en), .val (.int (own_a f s0 en)), .unset, .unset, .unset, .unset] [(.long (own_pack (-1 : Int32) (en - s0)))])
    have hsp : own_spec f s0 en = ((-1 : Int32), (en - s0)) := by rw [own_spec, if_pos hn0]
    exact own_retJ X104 hx hret hlk (hb hby d1_18) (by decide) (by decide) (by first | exact ⟨by rw [hsp], N104, rfl⟩ | (rw [e104]; exact ⟨by rw [hsp], N104, rfl⟩))
  · skip
    refine own_go (fun _ k => XS.ifYes X103.here hx rfl (pc0 := 8) (pc' := 19) rfl (hb hby d1_8) rfl ((if0 _ _).trans (flt hn0).2.1) (by decide) (by decide) k) ?_
    show own_Go _ _ _ _ T103 (mkF m 19 #[.val (.ref a1), .val (.int s0), .val (.int en), .val (.int (own_a f s0 en)), .unset, .unset, .unset, .unset] [])
    refine own_go (fun _ k => XS.iloadN X103.here hx rfl (hb hby d1_19) rfl k) ?_
    show own_Go _ _ _ _ T103 (mkF m 20 #[.val (.ref a1), .val (.int s0), .val (.int en), .val (.int (own_a f s0 en)), .unset, .unset, .unset, .unset] [(.int (own_a f s0 en))])
    refine own_go (fun _ k => XS.sipush X103.here hx rfl (hb hby d1_20) k) ?_
    show own_Go _ _ _ _ T103 (mkF m 23 #[.val (.ref a1), .val (.int s0), .val (.int en), .val (.int (own_a f s0 en)), .unset, .unset, .unset, .unset] [(.int (128 : Int32)), (.int (own_a f s0 en))])
    by_cases hm0 : (own_a f s0 en) < (128 : Int32)
    · skip
      refine own_go (fun _ k => XS.icmpNo X103.here hx rfl (hb hby d1_23) rfl (tlt hm0).2.1 k) ?_
      show own_Go _ _ _ _ T103 (mkF m 26 #[.val (.ref a1), .val (.int s0), .val (.int en), .val (.int (own_a f s0 en)), .unset, .unset, .unset, .unset] [])
      refine own_go (fun _ k => XS.iloadN X103.here hx rfl (hb hby d1_26) rfl k) ?_
      show own_Go _ _ _ _ T103 (mkF m 27 #[.val (.ref a1), .val (.int s0), .val (.int en), .val (.int (own_a f s0 en)), .unset, .unset, .unset, .unset] [(.int (own_a f s0 en))])
      refine own_go (fun _ k => XS.iconst X103.here hx rfl (hb hby d1_27) k) ?_
      show own_Go _ _ _ _ T103 (mkF m 28 #[.val (.ref a1), .val (.int s0), .val (.int en), .val (.int (own_a f s0 en)), .unset, .unset, .unset, .unset] [(.int (1 : Int32)), (.int (own_a f s0 en))])
      obtain ⟨v105, T105, h105, L105, X105, e105, hQ105, st105⟩ := own_callS X103 hx hZ hown (hw _ (List.mem_of_getElem? (i := 8) rfl)) (hw _ (List.mem_of_getElem? (i := 9) rfl)) (hw _ (List.mem_of_getElem? (i := 3) rfl)) (hw _ (List.mem_of_getElem? (i := 10) rfl)) (by decide) e103 (argsL := [(.int (own_a f s0 en)), (.int (1 : Int32))]) (rest := []) (rm4 l Z a0 hw [] (own_a f s0 en) (1 : Int32) h0 n0 Z0) 0 (by decide) (by decide) (by decide) (by decide) (g := (mkF m 28 #[.val (.ref a1), .val (.int s0), .val (.int en), .val (.int (own_a f s0 en)), .unset, .unset, .unset, .unset] [(.int (1 : Int32)), (.int (own_a f s0 en))])) rfl (by rw [hml]; rfl) (lenOf pd1 rfl) rfl (Nat.le_of_eq rfl) (hb hby d1_28)
      obtain ⟨rfl, N105q, rfl⟩ := hQ105
      refine own_go (st105) ?_
      have N105 := Fr.app N103 N105q
      show own_Go _ _ _ _ T105 (mkF m 31 #[.val (.ref a1), .val (.int s0), .val (.int en), .val (.int (own_a f s0 en)), .unset, .unset, .unset, .unset] [(.long (own_pack (own_a f s0 en) (1 : Int32)))])
      have hsp : own_spec f s0 en = ((own_a f s0 en), (1 : Int32)) := by rw [own_spec, if_neg hn0, if_pos hm0]
      exact own_retJ X105 hx hret hlk (hb hby d1_31) (by decide) (by decide) (by first | exact ⟨by rw [hsp], N105, rfl⟩ | (rw [e105]; exact ⟨by rw [hsp], N105, rfl⟩))
    · skip
      refine own_go (fun _ k => XS.icmpYes X103.here hx rfl (pc0 := 23) (pc' := 32) rfl (hb hby d1_23) rfl (flt hm0).2.1 (by decide) (by decide) k) ?_
      show own_Go _ _ _ _ T103 (mkF m 32 #[.val (.ref a1), .val (.int s0), .val (.int en), .val (.int (own_a f s0 en)), .unset, .unset, .unset, .unset] [])
      refine own_go (fun _ k => XS.aloadN X103.here hx rfl (hb hby d1_32) rfl rfl k) ?_
      show own_Go _ _ _ _ T103 (mkF m 33 #[.val (.ref a1), .val (.int s0), .val (.int en), .val (.int (own_a f s0 en)), .unset, .unset, .unset, .unset] [(.ref a1)])
      refine own_go (fun _ k => XS.iloadN X103.here hx rfl (hb hby d1_33) rfl k) ?_
      show own_Go _ _ _ _ T103 (mkF m 34 #[.val (.ref a1), .val (.int s0), .val (.int en), .val (.int (own_a f s0 en)), .unset, .unset, .unset, .unset] [(.int s0), (.ref a1)])
      refine own_go (fun _ k => XS.iconst X103.here hx rfl (hb hby d1_34) k) ?_
      show own_Go _ _ _ _ T103 (mkF m 35 #[.val (.ref a1), .val (.int s0), .val (.int en), .val (.int (own_a f s0 en)), .unset, .unset, .unset, .unset] [(.int (1 : Int32)), (.int s0), (.ref a1)])
      refine own_go (fun _ k => XS.iadd X103.here hx rfl (hb hby d1_35) rfl k) ?_
      show own_Go _ _ _ _ T103 (mkF m 36 #[.val (.ref a1), .val (.int s0), .val (.int en), .val (.int (own_a f s0 en)), .unset, .unset, .unset, .unset] [(.int (s0 + (1 : Int32))), (.ref a1)])
      refine own_go (fun _ k => XS.iloadN X103.here hx rfl (hb hby d1_36) rfl k) ?_
      show own_Go _ _ _ _ T103 (mkF m 37 #[.val (.ref a1), .val (.int s0), .val (.int en), .val (.int (own_a f s0 en)), .unset, .unset, .unset, .unset] [(.int en), (.int (s0 + (1 : Int32))), (.ref a1)])
      obtain ⟨v106, T106, h106, L106, X106, e106, hQ106, st106⟩ := own_callS X103 hx hZ hown (hw _ (List.mem_of_getElem? (i := 5) rfl)) (hw _ (List.mem_of_getElem? (i := 6) rfl)) (hw _ (List.mem_of_getElem? (i := 3) rfl)) (hw _ (List.mem_of_getElem? (i := 7) rfl)) (by decide) e103 (argsL := [(.ref a1), (.int (s0 + (1 : Int32))), (.int en)]) (rest := []) (rm5 l Z a0 hw [] a1 (s0 + (1 : Int32)) en kk nn vs dv f h0 n0 Z0 V_a1 hf (by rw [own_sk1 hs1 (by omega)] <;> omega) hs3) 0 (by decide) (by decide) (by decide) (by decide) (g := (mkF m 37 #[.val (.ref a1), .val (.int s0), .val (.int en), .val (.int (own_a f s0 en)), .unset, .unset, .unset, .unset] [(.int en), (.int (s0 + (1 : Int32))), (.ref a1)])) rfl (by rw [hml]; rfl) (lenOf pd0 rfl) rfl (Nat.le_of_eq rfl) (hb hby d1_37)
      obtain ⟨rfl, N106q, rfl⟩ := hQ106
      refine own_go (st106) ?_
      have N106 := Fr.app N103 N106q
      show own_Go _ _ _ _ T106 (mkF m 40 #[.val (.ref a1), .val (.int s0), .val (.int en), .val (.int (own_a f s0 en)), .unset, .unset, .unset, .unset] [(.int (own_a f (s0 + (1 : Int32)) en))])
      refine own_go (fun _ k => XS.istore X106.here hx rfl (hb hby d1_40) rfl (l' := #[.val (.ref a1), .val (.int s0), .val (.int en), .val (.int (own_a f s0 en)), .val (.int (own_a f (s0 + (1 : Int32)) en)), .unset, .unset, .unset]) rfl k) ?_
      show own_Go _ _ _ _ T106 (mkF m 42 #[.val (.ref a1), .val (.int s0), .val (.int en), .val (.int (own_a f s0 en)), .val (.int (own_a f (s0 + (1 : Int32)) en)), .unset, .unset, .unset] [])
      refine own_go (fun _ k => XS.iload X106.here hx rfl (hb hby d1_42) rfl k) ?_
      show own_Go _ _ _ _ T106 (mkF m 44 #[.val (.ref a1), .val (.int s0), .val (.int en), .val (.int (own_a f s0 en)), .val (.int (own_a f (s0 + (1 : Int32)) en)), .unset, .unset, .unset] [(.int (own_a f (s0 + (1 : Int32)) en))])
      by_cases hn1 : (own_a f (s0 + (1 : Int32)) en) < (0 : Int32)
      · skip
        refine own_go (fun _ k => XS.ifNo X106.here hx rfl (hb hby d1_44) rfl ((if0 _ _).trans (tlt hn1).2.1) k) ?_
        show own_Go _ _ _ _ T106 (mkF m 47 #[.val (.ref a1), .val (.int s0), .val (.int en), .val (.int (own_a f s0 en)), .val (.int (own_a f (s0 + (1 : Int32)) en)), .unset, .unset, .unset] [])
        refine own_go (fun _ k => XS.iconst X106.here hx rfl (hb hby d1_47) k) ?_
        show own_Go _ _ _ _ T106 (mkF m 48 #[.val (.ref a1), .val (.int s0), .val (.int en), .val (.int (own_a f s0 en)), .val (.int (own_a f (s0 + (1 : Int32)) en)), .unset, .unset, .unset] [(.int (-1 : Int32))])
        refine own_go (fun _ k => XS.iloadN X106.here hx rfl (hb hby d1_48) rfl k) ?_
        show own_Go _ _ _ _ T106 (mkF m 49 #[.val (.ref a1), .val (.int s0), .val (.int en), .val (.int (own_a f s0 en)), .val (.int (own_a f (s0 + (1 : Int32)) en)), .unset, .unset, .unset] [(.int en), (.int (-1 : Int32))])
        refine own_go (fun _ k => XS.iloadN X106.here hx rfl (hb hby d1_49) rfl k) ?_
        show own_Go _ _ _ _ T106 (mkF m 50 #[.val (.ref a1), .val (.int s0), .val (.int en), .val (.int (own_a f s0 en)), .val (.int (own_a f (s0 + (1 : Int32)) en)), .unset, .unset, .unset] [(.int s0), (.int en), (.int (-1 : Int32))])
        refine own_go (fun _ k => XS.isub X106.here hx rfl (hb hby d1_50) rfl k) ?_
        show own_Go _ _ _ _ T106 (mkF m 51 #[.val (.ref a1), .val (.int s0), .val (.int en), .val (.int (own_a f s0 en)), .val (.int (own_a f (s0 + (1 : Int32)) en)), .unset, .unset, .unset] [(.int (en - s0)), (.int (-1 : Int32))])
        obtain ⟨v107, T107, h107, L107, X107, e107, hQ107, st107⟩ := own_callS X106 hx hZ hown (hw _ (List.mem_of_getElem? (i := 8) rfl)) (hw _ (List.mem_of_getElem? (i := 9) rfl)) (hw _ (List.mem_of_getElem? (i := 3) rfl)) (hw _ (List.mem_of_getElem? (i := 10) rfl)) (by decide) e106 (argsL := [(.int (-1 : Int32)), (.int (en - s0))]) (rest := []) (rm4 l Z a0 hw [] (-1 : Int32) (en - s0) h0 n0 Z0) 0 (by decide) (by decide) (by decide) (by decide) (g := (mkF m 51 #[.val (.ref a1), .val (.int s0), .val (.int en), .val (.int (own_a f s0 en)), .val (.int (own_a f (s0 + (1 : Int32)) en)), .unset, .unset, .unset] [(.int (en - s0)), (.int (-1 : Int32))])) rfl (by rw [hml]; rfl) (lenOf pd1 rfl) rfl (Nat.le_of_eq rfl) (hb hby d1_51)
        obtain ⟨rfl, N107q, rfl⟩ := hQ107
        refine own_go (st107) ?_
        have N107 := Fr.app N106 N107q
        show own_Go _ _ _ _ T107 (mkF m 54 #[.val (.ref a1), .val (.int s0), .val (.int en), .val (.int (own_a f s0 en)), .val (.int (own_a f (s0 + (1 : Int32)) en)), .unset, .unset, .unset] [(.long (own_pack (-1 : Int32) (en - s0)))])
        have hsp : own_spec f s0 en = ((-1 : Int32), (en - s0)) := by rw [own_spec, if_neg hn0, if_neg hm0, if_pos hn1]
        exact own_retJ X107 hx hret hlk (hb hby d1_54) (by decide) (by decide) (by first | exact ⟨by rw [hsp], N107, rfl⟩ | (rw [e107]; exact ⟨by rw [hsp], N107, rfl⟩))
      · skip
        refine own_go (fun _ k => XS.ifYes X106.here hx rfl (pc0 := 44) (pc' := 55) rfl (hb hby d1_44) rfl ((if0 _ _).trans (flt hn1).2.1) (by decide) (by decide) k) ?_
        show own_Go _ _ _ _ T106 (mkF m 55 #[.val (.ref a1), .val (.int s0), .val (.int en), .val (.int (own_a f s0 en)), .val (.int (own_a f (s0 + (1 : Int32)) en)), .unset, .unset, .unset] [])
        refine own_go (fun _ k => XS.iload X106.here hx rfl (hb hby d1_55) rfl k) ?_
        show own_Go _ _ _ _ T106 (mkF m 57 #[.val (.ref a1), .val (.int s0), .val (.int en), .val (.int (own_a f s0 en)), .val (.int (own_a f (s0 + (1 : Int32)) en)), .unset, .unset, .unset] [(.int (own_a f (s0 + (1 : Int32)) en))])
        refine own_go (fun _ k => XS.sipush X106.here hx rfl (hb hby d1_57) k) ?_
        show own_Go _ _ _ _ T106 (mkF m 60 #[.val (.ref a1), .val (.int s0), .val (.int en), .val (.int (own_a f s0 en)), .val (.int (own_a f (s0 + (1 : Int32)) en)), .unset, .unset, .unset] [(.int (128 : Int32)), (.int (own_a f (s0 + (1 : Int32)) en))])
        by_cases hm1 : (own_a f (s0 + (1 : Int32)) en) < (128 : Int32)
        · skip
          refine own_go (fun _ k => XS.icmpNo X106.here hx rfl (hb hby d1_60) rfl (tlt hm1).2.1 k) ?_
          show own_Go _ _ _ _ T106 (mkF m 63 #[.val (.ref a1), .val (.int s0), .val (.int en), .val (.int (own_a f s0 en)), .val (.int (own_a f (s0 + (1 : Int32)) en)), .unset, .unset, .unset] [])
          refine own_go (fun _ k => XS.iloadN X106.here hx rfl (hb hby d1_63) rfl k) ?_
          show own_Go _ _ _ _ T106 (mkF m 64 #[.val (.ref a1), .val (.int s0), .val (.int en), .val (.int (own_a f s0 en)), .val (.int (own_a f (s0 + (1 : Int32)) en)), .unset, .unset, .unset] [(.int (own_a f s0 en))])
          refine own_go (fun _ k => XS.sipush X106.here hx rfl (hb hby d1_64) k) ?_
          show own_Go _ _ _ _ T106 (mkF m 67 #[.val (.ref a1), .val (.int s0), .val (.int en), .val (.int (own_a f s0 en)), .val (.int (own_a f (s0 + (1 : Int32)) en)), .unset, .unset, .unset] [(.int (128 : Int32)), (.int (own_a f s0 en))])
          refine own_go (fun _ k => XS.isub X106.here hx rfl (hb hby d1_67) rfl k) ?_
          show own_Go _ _ _ _ T106 (mkF m 68 #[.val (.ref a1), .val (.int s0), .val (.int en), .val (.int (own_a f s0 en)), .val (.int (own_a f (s0 + (1 : Int32)) en)), .unset, .unset, .unset] [(.int ((own_a f s0 en) - (128 : Int32)))])
          refine own_go (fun _ k => XS.iload X106.here hx rfl (hb hby d1_68) rfl k) ?_
          show own_Go _ _ _ _ T106 (mkF m 70 #[.val (.ref a1), .val (.int s0), .val (.int en), .val (.int (own_a f s0 en)), .val (.int (own_a f (s0 + (1 : Int32)) en)), .unset, .unset, .unset] [(.int (own_a f (s0 + (1 : Int32)) en)), (.int ((own_a f s0 en) - (128 : Int32)))])
          refine own_go (fun _ k => XS.sipush X106.here hx rfl (hb hby d1_70) k) ?_
          show own_Go _ _ _ _ T106 (mkF m 73 #[.val (.ref a1), .val (.int s0), .val (.int en), .val (.int (own_a f s0 en)), .val (.int (own_a f (s0 + (1 : Int32)) en)), .unset, .unset, .unset] [(.int (128 : Int32)), (.int (own_a f (s0 + (1 : Int32)) en)), (.int ((own_a f s0 en) - (128 : Int32)))])
          refine own_go (fun _ k => XS.imul X106.here hx rfl (hb hby d1_73) rfl k) ?_
          show own_Go _ _ _ _ T106 (mkF m 74 #[.val (.ref a1), .val (.int s0), .val (.int en), .val (.int (own_a f s0 en)), .val (.int (own_a f (s0 + (1 : Int32)) en)), .unset, .unset, .unset] [(.int ((own_a f (s0 + (1 : Int32)) en) * (128 : Int32))), (.int ((own_a f s0 en) - (128 : Int32)))])
          refine own_go (fun _ k => XS.iadd X106.here hx rfl (hb hby d1_74) rfl k) ?_
          show own_Go _ _ _ _ T106 (mkF m 75 #[.val (.ref a1), .val (.int s0), .val (.int en), .val (.int (own_a f s0 en)), .val (.int (own_a f (s0 + (1 : Int32)) en)), .unset, .unset, .unset] [(.int (((own_a f s0 en) - (128 : Int32)) + ((own_a f (s0 + (1 : Int32)) en) * (128 : Int32))))])
          refine own_go (fun _ k => XS.iconst X106.here hx rfl (hb hby d1_75) k) ?_
          show own_Go _ _ _ _ T106 (mkF m 76 #[.val (.ref a1), .val (.int s0), .val (.int en), .val (.int (own_a f s0 en)), .val (.int (own_a f (s0 + (1 : Int32)) en)), .unset, .unset, .unset] [(.int (2 : Int32)), (.int (((own_a f s0 en) - (128 : Int32)) + ((own_a f (s0 + (1 : Int32)) en) * (128 : Int32))))])
          obtain ⟨v108, T108, h108, L108, X108, e108, hQ108, st108⟩ := own_callS X106 hx hZ hown (hw _ (List.mem_of_getElem? (i := 8) rfl)) (hw _ (List.mem_of_getElem? (i := 9) rfl)) (hw _ (List.mem_of_getElem? (i := 3) rfl)) (hw _ (List.mem_of_getElem? (i := 10) rfl)) (by decide) e106 (argsL := [(.int (((own_a f s0 en) - (128 : Int32)) + ((own_a f (s0 + (1 : Int32)) en) * (128 : Int32)))), (.int (2 : Int32))]) (rest := []) (rm4 l Z a0 hw [] (((own_a f s0 en) - (128 : Int32)) + ((own_a f (s0 + (1 : Int32)) en) * (128 : Int32))) (2 : Int32) h0 n0 Z0) 0 (by decide) (by decide) (by decide) (by decide) (g := (mkF m 76 #[.val (.ref a1), .val (.int s0), .val (.int en), .val (.int (own_a f s0 en)), .val (.int (own_a f (s0 + (1 : Int32)) en)), .unset, .unset, .unset] [(.int (2 : Int32)), (.int (((own_a f s0 en) - (128 : Int32)) + ((own_a f (s0 + (1 : Int32)) en) * (128 : Int32))))])) rfl (by rw [hml]; rfl) (lenOf pd1 rfl) rfl (Nat.le_of_eq rfl) (hb hby d1_76)
          obtain ⟨rfl, N108q, rfl⟩ := hQ108
          refine own_go (st108) ?_
          have N108 := Fr.app N106 N108q
          show own_Go _ _ _ _ T108 (mkF m 79 #[.val (.ref a1), .val (.int s0), .val (.int en), .val (.int (own_a f s0 en)), .val (.int (own_a f (s0 + (1 : Int32)) en)), .unset, .unset, .unset] [(.long (own_pack (((own_a f s0 en) - (128 : Int32)) + ((own_a f (s0 + (1 : Int32)) en) * (128 : Int32))) (2 : Int32)))])
          have hsp : own_spec f s0 en = ((((own_a f s0 en) - (128 : Int32)) + ((own_a f (s0 + (1 : Int32)) en) * (128 : Int32))), (2 : Int32)) := by rw [own_spec, if_neg hn0, if_neg hm0, if_neg hn1, if_pos hm1]
          exact own_retJ X108 hx hret hlk (hb hby d1_79) (by decide) (by decide) (by first | exact ⟨by rw [hsp], N108, rfl⟩ | (rw [e108]; exact ⟨by rw [hsp], N108, rfl⟩))
        · skip
          refine own_go (fun _ k => XS.icmpYes X106.here hx rfl (pc0 := 60) (pc' := 80) rfl (hb hby d1_60) rfl (flt hm1).2.1 (by decide) (by decide) k) ?_
          show own_Go _ _ _ _ T106 (mkF m 80 #[.val (.ref a1), .val (.int s0), .val (.int en), .val (.int (own_a f s0 en)), .val (.int (own_a f (s0 + (1 : Int32)) en)), .unset, .unset, .unset] [])
          refine own_go (fun _ k => XS.aloadN X106.here hx rfl (hb hby d1_80) rfl rfl k) ?_
          show own_Go _ _ _ _ T106 (mkF m 81 #[.val (.ref a1), .val (.int s0), .val (.int en), .val (.int (own_a f s0 en)), .val (.int (own_a f (s0 + (1 : Int32)) en)), .unset, .unset, .unset] [(.ref a1)])
          refine own_go (fun _ k => XS.iloadN X106.here hx rfl (hb hby d1_81) rfl k) ?_
          show own_Go _ _ _ _ T106 (mkF m 82 #[.val (.ref a1), .val (.int s0), .val (.int en), .val (.int (own_a f s0 en)), .val (.int (own_a f (s0 + (1 : Int32)) en)), .unset, .unset, .unset] [(.int s0), (.ref a1)])
          refine own_go (fun _ k => XS.iconst X106.here hx rfl (hb hby d1_82) k) ?_
          show own_Go _ _ _ _ T106 (mkF m 83 #[.val (.ref a1), .val (.int s0), .val (.int en), .val (.int (own_a f s0 en)), .val (.int (own_a f (s0 + (1 : Int32)) en)), .unset, .unset, .unset] [(.int (2 : Int32)), (.int s0), (.ref a1)])
          refine own_go (fun _ k => XS.iadd X106.here hx rfl (hb hby d1_83) rfl k) ?_
          show own_Go _ _ _ _ T106 (mkF m 84 #[.val (.ref a1), .val (.int s0), .val (.int en), .val (.int (own_a f s0 en)), .val (.int (own_a f (s0 + (1 : Int32)) en)), .unset, .unset, .unset] [(.int (s0 + (2 : Int32))), (.ref a1)])
          refine own_go (fun _ k => XS.iloadN X106.here hx rfl (hb hby d1_84) rfl k) ?_
          show own_Go _ _ _ _ T106 (mkF m 85 #[.val (.ref a1), .val (.int s0), .val (.int en), .val (.int (own_a f s0 en)), .val (.int (own_a f (s0 + (1 : Int32)) en)), .unset, .unset, .unset] [(.int en), (.int (s0 + (2 : Int32))), (.ref a1)])
          obtain ⟨v109, T109, h109, L109, X109, e109, hQ109, st109⟩ := own_callS X106 hx hZ hown (hw _ (List.mem_of_getElem? (i := 5) rfl)) (hw _ (List.mem_of_getElem? (i := 6) rfl)) (hw _ (List.mem_of_getElem? (i := 3) rfl)) (hw _ (List.mem_of_getElem? (i := 7) rfl)) (by decide) e106 (argsL := [(.ref a1), (.int (s0 + (2 : Int32))), (.int en)]) (rest := []) (rm5 l Z a0 hw [] a1 (s0 + (2 : Int32)) en kk nn vs dv f h0 n0 Z0 V_a1 hf (by rw [own_sk2 hs1 (by omega)] <;> omega) hs3) 0 (by decide) (by decide) (by decide) (by decide) (g := (mkF m 85 #[.val (.ref a1), .val (.int s0), .val (.int en), .val (.int (own_a f s0 en)), .val (.int (own_a f (s0 + (1 : Int32)) en)), .unset, .unset, .unset] [(.int en), (.int (s0 + (2 : Int32))), (.ref a1)])) rfl (by rw [hml]; rfl) (lenOf pd0 rfl) rfl (Nat.le_of_eq rfl) (hb hby d1_85)
          obtain ⟨rfl, N109q, rfl⟩ := hQ109
          refine own_go (st109) ?_
          have N109 := Fr.app N106 N109q
          show own_Go _ _ _ _ T109 (mkF m 88 #[.val (.ref a1), .val (.int s0), .val (.int en), .val (.int (own_a f s0 en)), .val (.int (own_a f (s0 + (1 : Int32)) en)), .unset, .unset, .unset] [(.int (own_a f (s0 + (2 : Int32)) en))])
          refine own_go (fun _ k => XS.istore X109.here hx rfl (hb hby d1_88) rfl (l' := #[.val (.ref a1), .val (.int s0), .val (.int en), .val (.int (own_a f s0 en)), .val (.int (own_a f (s0 + (1 : Int32)) en)), .val (.int (own_a f (s0 + (2 : Int32)) en)), .unset, .unset]) rfl k) ?_
          show own_Go _ _ _ _ T109 (mkF m 90 #[.val (.ref a1), .val (.int s0), .val (.int en), .val (.int (own_a f s0 en)), .val (.int (own_a f (s0 + (1 : Int32)) en)), .val (.int (own_a f (s0 + (2 : Int32)) en)), .unset, .unset] [])
          refine own_go (fun _ k => XS.iload X109.here hx rfl (hb hby d1_90) rfl k) ?_
          show own_Go _ _ _ _ T109 (mkF m 92 #[.val (.ref a1), .val (.int s0), .val (.int en), .val (.int (own_a f s0 en)), .val (.int (own_a f (s0 + (1 : Int32)) en)), .val (.int (own_a f (s0 + (2 : Int32)) en)), .unset, .unset] [(.int (own_a f (s0 + (2 : Int32)) en))])
          by_cases hn2 : (own_a f (s0 + (2 : Int32)) en) < (0 : Int32)
          · skip
            refine own_go (fun _ k => XS.ifNo X109.here hx rfl (hb hby d1_92) rfl ((if0 _ _).trans (tlt hn2).2.1) k) ?_
            show own_Go _ _ _ _ T109 (mkF m 95 #[.val (.ref a1), .val (.int s0), .val (.int en), .val (.int (own_a f s0 en)), .val (.int (own_a f (s0 + (1 : Int32)) en)), .val (.int (own_a f (s0 + (2 : Int32)) en)), .unset, .unset] [])
            refine own_go (fun _ k => XS.iconst X109.here hx rfl (hb hby d1_95) k) ?_
            show own_Go _ _ _ _ T109 (mkF m 96 #[.val (.ref a1), .val (.int s0), .val (.int en), .val (.int (own_a f s0 en)), .val (.int (own_a f (s0 + (1 : Int32)) en)), .val (.int (own_a f (s0 + (2 : Int32)) en)), .unset, .unset] [(.int (-1 : Int32))])
            refine own_go (fun _ k => XS.iloadN X109.here hx rfl (hb hby d1_96) rfl k) ?_
            show own_Go _ _ _ _ T109 (mkF m 97 #[.val (.ref a1), .val (.int s0), .val (.int en), .val (.int (own_a f s0 en)), .val (.int (own_a f (s0 + (1 : Int32)) en)), .val (.int (own_a f (s0 + (2 : Int32)) en)), .unset, .unset] [(.int en), (.int (-1 : Int32))])
            refine own_go (fun _ k => XS.iloadN X109.here hx rfl (hb hby d1_97) rfl k) ?_
            show own_Go _ _ _ _ T109 (mkF m 98 #[.val (.ref a1), .val (.int s0), .val (.int en), .val (.int (own_a f s0 en)), .val (.int (own_a f (s0 + (1 : Int32)) en)), .val (.int (own_a f (s0 + (2 : Int32)) en)), .unset, .unset] [(.int s0), (.int en), (.int (-1 : Int32))])
            refine own_go (fun _ k => XS.isub X109.here hx rfl (hb hby d1_98) rfl k) ?_
            show own_Go _ _ _ _ T109 (mkF m 99 #[.val (.ref a1), .val (.int s0), .val (.int en), .val (.int (own_a f s0 en)), .val (.int (own_a f (s0 + (1 : Int32)) en)), .val (.int (own_a f (s0 + (2 : Int32)) en)), .unset, .unset] [(.int (en - s0)), (.int (-1 : Int32))])
            obtain ⟨v110, T110, h110, L110, X110, e110, hQ110, st110⟩ := own_callS X109 hx hZ hown (hw _ (List.mem_of_getElem? (i := 8) rfl)) (hw _ (List.mem_of_getElem? (i := 9) rfl)) (hw _ (List.mem_of_getElem? (i := 3) rfl)) (hw _ (List.mem_of_getElem? (i := 10) rfl)) (by decide) e109 (argsL := [(.int (-1 : Int32)), (.int (en - s0))]) (rest := []) (rm4 l Z a0 hw [] (-1 : Int32) (en - s0) h0 n0 Z0) 0 (by decide) (by decide) (by decide) (by decide) (g := (mkF m 99 #[.val (.ref a1), .val (.int s0), .val (.int en), .val (.int (own_a f s0 en)), .val (.int (own_a f (s0 + (1 : Int32)) en)), .val (.int (own_a f (s0 + (2 : Int32)) en)), .unset, .unset] [(.int (en - s0)), (.int (-1 : Int32))])) rfl (by rw [hml]; rfl) (lenOf pd1 rfl) rfl (Nat.le_of_eq rfl) (hb hby d1_99)
            obtain ⟨rfl, N110q, rfl⟩ := hQ110
            refine own_go (st110) ?_
            have N110 := Fr.app N109 N110q
            show own_Go _ _ _ _ T110 (mkF m 102 #[.val (.ref a1), .val (.int s0), .val (.int en), .val (.int (own_a f s0 en)), .val (.int (own_a f (s0 + (1 : Int32)) en)), .val (.int (own_a f (s0 + (2 : Int32)) en)), .unset, .unset] [(.long (own_pack (-1 : Int32) (en - s0)))])
            have hsp : own_spec f s0 en = ((-1 : Int32), (en - s0)) := by rw [own_spec, if_neg hn0, if_neg hm0, if_neg hn1, if_neg hm1, if_pos hn2]
            exact own_retJ X110 hx hret hlk (hb hby d1_102) (by decide) (by decide) (by first | exact ⟨by rw [hsp], N110, rfl⟩ | (rw [e110]; exact ⟨by rw [hsp], N110, rfl⟩))
          · skip
            refine own_go (fun _ k => XS.ifYes X109.here hx rfl (pc0 := 92) (pc' := 103) rfl (hb hby d1_92) rfl ((if0 _ _).trans (flt hn2).2.1) (by decide) (by decide) k) ?_
            show own_Go _ _ _ _ T109 (mkF m 103 #[.val (.ref a1), .val (.int s0), .val (.int en), .val (.int (own_a f s0 en)), .val (.int (own_a f (s0 + (1 : Int32)) en)), .val (.int (own_a f (s0 + (2 : Int32)) en)), .unset, .unset] [])
            refine own_go (fun _ k => XS.iload X109.here hx rfl (hb hby d1_103) rfl k) ?_
            show own_Go _ _ _ _ T109 (mkF m 105 #[.val (.ref a1), .val (.int s0), .val (.int en), .val (.int (own_a f s0 en)), .val (.int (own_a f (s0 + (1 : Int32)) en)), .val (.int (own_a f (s0 + (2 : Int32)) en)), .unset, .unset] [(.int (own_a f (s0 + (2 : Int32)) en))])
            refine own_go (fun _ k => XS.sipush X109.here hx rfl (hb hby d1_105) k) ?_
            show own_Go _ _ _ _ T109 (mkF m 108 #[.val (.ref a1), .val (.int s0), .val (.int en), .val (.int (own_a f s0 en)), .val (.int (own_a f (s0 + (1 : Int32)) en)), .val (.int (own_a f (s0 + (2 : Int32)) en)), .unset, .unset] [(.int (128 : Int32)), (.int (own_a f (s0 + (2 : Int32)) en))])
            by_cases hm2 : (own_a f (s0 + (2 : Int32)) en) < (128 : Int32)
            · skip
              refine own_go (fun _ k => XS.icmpNo X109.here hx rfl (hb hby d1_108) rfl (tlt hm2).2.1 k) ?_
              show own_Go _ _ _ _ T109 (mkF m 111 #[.val (.ref a1), .val (.int s0), .val (.int en), .val (.int (own_a f s0 en)), .val (.int (own_a f (s0 + (1 : Int32)) en)), .val (.int (own_a f (s0 + (2 : Int32)) en)), .unset, .unset] [])
              refine own_go (fun _ k => XS.iloadN X109.here hx rfl (hb hby d1_111) rfl k) ?_
              show own_Go _ _ _ _ T109 (mkF m 112 #[.val (.ref a1), .val (.int s0), .val (.int en), .val (.int (own_a f s0 en)), .val (.int (own_a f (s0 + (1 : Int32)) en)), .val (.int (own_a f (s0 + (2 : Int32)) en)), .unset, .unset] [(.int (own_a f s0 en))])
              refine own_go (fun _ k => XS.sipush X109.here hx rfl (hb hby d1_112) k) ?_
              show own_Go _ _ _ _ T109 (mkF m 115 #[.val (.ref a1), .val (.int s0), .val (.int en), .val (.int (own_a f s0 en)), .val (.int (own_a f (s0 + (1 : Int32)) en)), .val (.int (own_a f (s0 + (2 : Int32)) en)), .unset, .unset] [(.int (128 : Int32)), (.int (own_a f s0 en))])
              refine own_go (fun _ k => XS.isub X109.here hx rfl (hb hby d1_115) rfl k) ?_
              show own_Go _ _ _ _ T109 (mkF m 116 #[.val (.ref a1), .val (.int s0), .val (.int en), .val (.int (own_a f s0 en)), .val (.int (own_a f (s0 + (1 : Int32)) en)), .val (.int (own_a f (s0 + (2 : Int32)) en)), .unset, .unset] [(.int ((own_a f s0 en) - (128 : Int32)))])
              refine own_go (fun _ k => XS.iload X109.here hx rfl (hb hby d1_116) rfl k) ?_
              show own_Go _ _ _ _ T109 (mkF m 118 #[.val (.ref a1), .val (.int s0), .val (.int en), .val (.int (own_a f s0 en)), .val (.int (own_a f (s0 + (1 : Int32)) en)), .val (.int (own_a f (s0 + (2 : Int32)) en)), .unset, .unset] [(.int (own_a f (s0 + (1 : Int32)) en)), (.int ((own_a f s0 en) - (128 : Int32)))])
              refine own_go (fun _ k => XS.sipush X109.here hx rfl (hb hby d1_118) k) ?_
              show own_Go _ _ _ _ T109 (mkF m 121 #[.val (.ref a1), .val (.int s0), .val (.int en), .val (.int (own_a f s0 en)), .val (.int (own_a f (s0 + (1 : Int32)) en)), .val (.int (own_a f (s0 + (2 : Int32)) en)), .unset, .unset] [(.int (128 : Int32)), (.int (own_a f (s0 + (1 : Int32)) en)), (.int ((own_a f s0 en) - (128 : Int32)))])
              refine own_go (fun _ k => XS.isub X109.here hx rfl (hb hby d1_121) rfl k) ?_
              show own_Go _ _ _ _ T109 (mkF m 122 #[.val (.ref a1), .val (.int s0), .val (.int en), .val (.int (own_a f s0 en)), .val (.int (own_a f (s0 + (1 : Int32)) en)), .val (.int (own_a f (s0 + (2 : Int32)) en)), .unset, .unset] [(.int ((own_a f (s0 + (1 : Int32)) en) - (128 : Int32))), (.int ((own_a f s0 en) - (128 : Int32)))])
              refine own_go (fun _ k => XS.sipush X109.here hx rfl (hb hby d1_122) k) ?_
              show own_Go _ _ _ _ T109 (mkF m 125 #[.val (.ref a1), .val (.int s0), .val (.int en), .val (.int (own_a f s0 en)), .val (.int (own_a f (s0 + (1 : Int32)) en)), .val (.int (own_a f (s0 + (2 : Int32)) en)), .unset, .unset] [(.int (128 : Int32)), (.int ((own_a f (s0 + (1 : Int32)) en) - (128 : Int32))), (.int ((own_a f s0 en) - (128 : Int32)))])
              refine own_go (fun _ k => XS.imul X109.here hx rfl (hb hby d1_125) rfl k) ?_
              show own_Go _ _ _ _ T109 (mkF m 126 #[.val (.ref a1), .val (.int s0), .val (.int en), .val (.int (own_a f s0 en)), .val (.int (own_a f (s0 + (1 : Int32)) en)), .val (.int (own_a f (s0 + (2 : Int32)) en)), .unset, .unset] [(.int (((own_a f (s0 + (1 : Int32)) en) - (128 : Int32)) * (128 : Int32))), (.int ((own_a f s0 en) - (128 : Int32)))])
              refine own_go (fun _ k => XS.iadd X109.here hx rfl (hb hby d1_126) rfl k) ?_
              show own_Go _ _ _ _ T109 (mkF m 127 #[.val (.ref a1), .val (.int s0), .val (.int en), .val (.int (own_a f s0 en)), .val (.int (own_a f (s0 + (1 : Int32)) en)), .val (.int (own_a f (s0 + (2 : Int32)) en)), .unset, .unset] [(.int (((own_a f s0 en) - (128 : Int32)) + (((own_a f (s0 + (1 : Int32)) en) - (128 : Int32)) * (128 : Int32))))])
              refine own_go (fun _ k => XS.iload X109.here hx rfl (hb hby d1_127) rfl k) ?_
              show own_Go _ _ _ _ T109 (mkF m 129 #[.val (.ref a1), .val (.int s0), .val (.int en), .val (.int (own_a f s0 en)), .val (.int (own_a f (s0 + (1 : Int32)) en)), .val (.int (own_a f (s0 + (2 : Int32)) en)), .unset, .unset] [(.int (own_a f (s0 + (2 : Int32)) en)), (.int (((own_a f s0 en) - (128 : Int32)) + (((own_a f (s0 + (1 : Int32)) en) - (128 : Int32)) * (128 : Int32))))])
              refine own_go (fun _ k => XS.sipush X109.here hx rfl (hb hby d1_129) k) ?_
              show own_Go _ _ _ _ T109 (mkF m 132 #[.val (.ref a1), .val (.int s0), .val (.int en), .val (.int (own_a f s0 en)), .val (.int (own_a f (s0 + (1 : Int32)) en)), .val (.int (own_a f (s0 + (2 : Int32)) en)), .unset, .unset] [(.int (16384 : Int32)), (.int (own_a f (s0 + (2 : Int32)) en)), (.int (((own_a f s0 en) - (128 : Int32)) + (((own_a f (s0 + (1 : Int32)) en) - (128 : Int32)) * (128 : Int32))))])
              refine own_go (fun _ k => XS.imul X109.here hx rfl (hb hby d1_132) rfl k) ?_
              show own_Go _ _ _ _ T109 (mkF m 133 #[.val (.ref a1), .val (.int s0), .val (.int en), .val (.int (own_a f s0 en)), .val (.int (own_a f (s0 + (1 : Int32)) en)), .val (.int (own_a f (s0 + (2 : Int32)) en)), .unset, .unset] [(.int ((own_a f (s0 + (2 : Int32)) en) * (16384 : Int32))), (.int (((own_a f s0 en) - (128 : Int32)) + (((own_a f (s0 + (1 : Int32)) en) - (128 : Int32)) * (128 : Int32))))])
              refine own_go (fun _ k => XS.iadd X109.here hx rfl (hb hby d1_133) rfl k) ?_
              show own_Go _ _ _ _ T109 (mkF m 134 #[.val (.ref a1), .val (.int s0), .val (.int en), .val (.int (own_a f s0 en)), .val (.int (own_a f (s0 + (1 : Int32)) en)), .val (.int (own_a f (s0 + (2 : Int32)) en)), .unset, .unset] [(.int ((((own_a f s0 en) - (128 : Int32)) + (((own_a f (s0 + (1 : Int32)) en) - (128 : Int32)) * (128 : Int32))) + ((own_a f (s0 + (2 : Int32)) en) * (16384 : Int32))))])
              refine own_go (fun _ k => XS.iconst X109.here hx rfl (hb hby d1_134) k) ?_
              show own_Go _ _ _ _ T109 (mkF m 135 #[.val (.ref a1), .val (.int s0), .val (.int en), .val (.int (own_a f s0 en)), .val (.int (own_a f (s0 + (1 : Int32)) en)), .val (.int (own_a f (s0 + (2 : Int32)) en)), .unset, .unset] [(.int (3 : Int32)), (.int ((((own_a f s0 en) - (128 : Int32)) + (((own_a f (s0 + (1 : Int32)) en) - (128 : Int32)) * (128 : Int32))) + ((own_a f (s0 + (2 : Int32)) en) * (16384 : Int32))))])
              obtain ⟨v111, T111, h111, L111, X111, e111, hQ111, st111⟩ := own_callS X109 hx hZ hown (hw _ (List.mem_of_getElem? (i := 8) rfl)) (hw _ (List.mem_of_getElem? (i := 9) rfl)) (hw _ (List.mem_of_getElem? (i := 3) rfl)) (hw _ (List.mem_of_getElem? (i := 10) rfl)) (by decide) e109 (argsL := [(.int ((((own_a f s0 en) - (128 : Int32)) + (((own_a f (s0 + (1 : Int32)) en) - (128 : Int32)) * (128 : Int32))) + ((own_a f (s0 + (2 : Int32)) en) * (16384 : Int32)))), (.int (3 : Int32))]) (rest := []) (rm4 l Z a0 hw [] ((((own_a f s0 en) - (128 : Int32)) + (((own_a f (s0 + (1 : Int32)) en) - (128 : Int32)) * (128 : Int32))) + ((own_a f (s0 + (2 : Int32)) en) * (16384 : Int32))) (3 : Int32) h0 n0 Z0) 0 (by decide) (by decide) (by decide) (by decide) (g := (mkF m 135 #[.val (.ref a1), .val (.int s0), .val (.int en), .val (.int (own_a f s0 en)), .val (.int (own_a f (s0 + (1 : Int32)) en)), .val (.int (own_a f (s0 + (2 : Int32)) en)), .unset, .unset] [(.int (3 : Int32)), (.int ((((own_a f s0 en) - (128 : Int32)) + (((own_a f (s0 + (1 : Int32)) en) - (128 : Int32)) * (128 : Int32))) + ((own_a f (s0 + (2 : Int32)) en) * (16384 : Int32))))])) rfl (by rw [hml]; rfl) (lenOf pd1 rfl) rfl (Nat.le_of_eq rfl) (hb hby d1_135)
              obtain ⟨rfl, N111q, rfl⟩ := hQ111
              refine own_go (st111) ?_
              have N111 := Fr.app N109 N111q
              show own_Go _ _ _ _ T111 (mkF m 138 #[.val (.ref a1), .val (.int s0), .val (.int en), .val (.int (own_a f s0 en)), .val (.int (own_a f (s0 + (1 : Int32)) en)), .val (.int (own_a f (s0 + (2 : Int32)) en)), .unset, .unset] [(.long (own_pack ((((own_a f s0 en) - (128 : Int32)) + (((own_a f (s0 + (1 : Int32)) en) - (128 : Int32)) * (128 : Int32))) + ((own_a f (s0 + (2 : Int32)) en) * (16384 : Int32))) (3 : Int32)))])
              have hsp : own_spec f s0 en = (((((own_a f s0 en) - (128 : Int32)) + (((own_a f (s0 + (1 : Int32)) en) - (128 : Int32)) * (128 : Int32))) + ((own_a f (s0 + (2 : Int32)) en) * (16384 : Int32))), (3 : Int32)) := by rw [own_spec, if_neg hn0, if_neg hm0, if_neg hn1, if_neg hm1, if_neg hn2, if_pos hm2]
              exact own_retJ X111 hx hret hlk (hb hby d1_138) (by decide) (by decide) (by first | exact ⟨by rw [hsp], N111, rfl⟩ | (rw [e111]; exact ⟨by rw [hsp], N111, rfl⟩))
            · skip
              refine own_go (fun _ k => XS.icmpYes X109.here hx rfl (pc0 := 108) (pc' := 139) rfl (hb hby d1_108) rfl (flt hm2).2.1 (by decide) (by decide) k) ?_
              show own_Go _ _ _ _ T109 (mkF m 139 #[.val (.ref a1), .val (.int s0), .val (.int en), .val (.int (own_a f s0 en)), .val (.int (own_a f (s0 + (1 : Int32)) en)), .val (.int (own_a f (s0 + (2 : Int32)) en)), .unset, .unset] [])
              refine own_go (fun _ k => XS.aloadN X109.here hx rfl (hb hby d1_139) rfl rfl k) ?_
              show own_Go _ _ _ _ T109 (mkF m 140 #[.val (.ref a1), .val (.int s0), .val (.int en), .val (.int (own_a f s0 en)), .val (.int (own_a f (s0 + (1 : Int32)) en)), .val (.int (own_a f (s0 + (2 : Int32)) en)), .unset, .unset] [(.ref a1)])
              refine own_go (fun _ k => XS.iloadN X109.here hx rfl (hb hby d1_140) rfl k) ?_
              show own_Go _ _ _ _ T109 (mkF m 141 #[.val (.ref a1), .val (.int s0), .val (.int en), .val (.int (own_a f s0 en)), .val (.int (own_a f (s0 + (1 : Int32)) en)), .val (.int (own_a f (s0 + (2 : Int32)) en)), .unset, .unset] [(.int s0), (.ref a1)])
              refine own_go (fun _ k => XS.iconst X109.here hx rfl (hb hby d1_141) k) ?_
              show own_Go _ _ _ _ T109 (mkF m 142 #[.val (.ref a1), .val (.int s0), .val (.int en), .val (.int (own_a f s0 en)), .val (.int (own_a f (s0 + (1 : Int32)) en)), .val (.int (own_a f (s0 + (2 : Int32)) en)), .unset, .unset] [(.int (3 : Int32)), (.int s0), (.ref a1)])
              refine own_go (fun _ k => XS.iadd X109.here hx rfl (hb hby d1_142) rfl k) ?_
              show own_Go _ _ _ _ T109 (mkF m 143 #[.val (.ref a1), .val (.int s0), .val (.int en), .val (.int (own_a f s0 en)), .val (.int (own_a f (s0 + (1 : Int32)) en)), .val (.int (own_a f (s0 + (2 : Int32)) en)), .unset, .unset] [(.int (s0 + (3 : Int32))), (.ref a1)])
              refine own_go (fun _ k => XS.iloadN X109.here hx rfl (hb hby d1_143) rfl k) ?_
              show own_Go _ _ _ _ T109 (mkF m 144 #[.val (.ref a1), .val (.int s0), .val (.int en), .val (.int (own_a f s0 en)), .val (.int (own_a f (s0 + (1 : Int32)) en)), .val (.int (own_a f (s0 + (2 : Int32)) en)), .unset, .unset] [(.int en), (.int (s0 + (3 : Int32))), (.ref a1)])
              obtain ⟨v112, T112, h112, L112, X112, e112, hQ112, st112⟩ := own_callS X109 hx hZ hown (hw _ (List.mem_of_getElem? (i := 5) rfl)) (hw _ (List.mem_of_getElem? (i := 6) rfl)) (hw _ (List.mem_of_getElem? (i := 3) rfl)) (hw _ (List.mem_of_getElem? (i := 7) rfl)) (by decide) e109 (argsL := [(.ref a1), (.int (s0 + (3 : Int32))), (.int en)]) (rest := []) (rm5 l Z a0 hw [] a1 (s0 + (3 : Int32)) en kk nn vs dv f h0 n0 Z0 V_a1 hf (by rw [own_sk3 hs1 (by omega)] <;> omega) hs3) 0 (by decide) (by decide) (by decide) (by decide) (g := (mkF m 144 #[.val (.ref a1), .val (.int s0), .val (.int en), .val (.int (own_a f s0 en)), .val (.int (own_a f (s0 + (1 : Int32)) en)), .val (.int (own_a f (s0 + (2 : Int32)) en)), .unset, .unset] [(.int en), (.int (s0 + (3 : Int32))), (.ref a1)])) rfl (by rw [hml]; rfl) (lenOf pd0 rfl) rfl (Nat.le_of_eq rfl) (hb hby d1_144)
              obtain ⟨rfl, N112q, rfl⟩ := hQ112
              refine own_go (st112) ?_
              have N112 := Fr.app N109 N112q
              show own_Go _ _ _ _ T112 (mkF m 147 #[.val (.ref a1), .val (.int s0), .val (.int en), .val (.int (own_a f s0 en)), .val (.int (own_a f (s0 + (1 : Int32)) en)), .val (.int (own_a f (s0 + (2 : Int32)) en)), .unset, .unset] [(.int (own_a f (s0 + (3 : Int32)) en))])
              refine own_go (fun _ k => XS.istore X112.here hx rfl (hb hby d1_147) rfl (l' := #[.val (.ref a1), .val (.int s0), .val (.int en), .val (.int (own_a f s0 en)), .val (.int (own_a f (s0 + (1 : Int32)) en)), .val (.int (own_a f (s0 + (2 : Int32)) en)), .val (.int (own_a f (s0 + (3 : Int32)) en)), .unset]) rfl k) ?_
              show own_Go _ _ _ _ T112 (mkF m 149 #[.val (.ref a1), .val (.int s0), .val (.int en), .val (.int (own_a f s0 en)), .val (.int (own_a f (s0 + (1 : Int32)) en)), .val (.int (own_a f (s0 + (2 : Int32)) en)), .val (.int (own_a f (s0 + (3 : Int32)) en)), .unset] [])
              refine own_go (fun _ k => XS.iload X112.here hx rfl (hb hby d1_149) rfl k) ?_
              show own_Go _ _ _ _ T112 (mkF m 151 #[.val (.ref a1), .val (.int s0), .val (.int en), .val (.int (own_a f s0 en)), .val (.int (own_a f (s0 + (1 : Int32)) en)), .val (.int (own_a f (s0 + (2 : Int32)) en)), .val (.int (own_a f (s0 + (3 : Int32)) en)), .unset] [(.int (own_a f (s0 + (3 : Int32)) en))])
              by_cases hn3 : (own_a f (s0 + (3 : Int32)) en) < (0 : Int32)
              · skip
                refine own_go (fun _ k => XS.ifNo X112.here hx rfl (hb hby d1_151) rfl ((if0 _ _).trans (tlt hn3).2.1) k) ?_
                show own_Go _ _ _ _ T112 (mkF m 154 #[.val (.ref a1), .val (.int s0), .val (.int en), .val (.int (own_a f s0 en)), .val (.int (own_a f (s0 + (1 : Int32)) en)), .val (.int (own_a f (s0 + (2 : Int32)) en)), .val (.int (own_a f (s0 + (3 : Int32)) en)), .unset] [])
                refine own_go (fun _ k => XS.iconst X112.here hx rfl (hb hby d1_154) k) ?_
                show own_Go _ _ _ _ T112 (mkF m 155 #[.val (.ref a1), .val (.int s0), .val (.int en), .val (.int (own_a f s0 en)), .val (.int (own_a f (s0 + (1 : Int32)) en)), .val (.int (own_a f (s0 + (2 : Int32)) en)), .val (.int (own_a f (s0 + (3 : Int32)) en)), .unset] [(.int (-1 : Int32))])
                refine own_go (fun _ k => XS.iloadN X112.here hx rfl (hb hby d1_155) rfl k) ?_
                show own_Go _ _ _ _ T112 (mkF m 156 #[.val (.ref a1), .val (.int s0), .val (.int en), .val (.int (own_a f s0 en)), .val (.int (own_a f (s0 + (1 : Int32)) en)), .val (.int (own_a f (s0 + (2 : Int32)) en)), .val (.int (own_a f (s0 + (3 : Int32)) en)), .unset] [(.int en), (.int (-1 : Int32))])
                refine own_go (fun _ k => XS.iloadN X112.here hx rfl (hb hby d1_156) rfl k) ?_
                show own_Go _ _ _ _ T112 (mkF m 157 #[.val (.ref a1), .val (.int s0), .val (.int en), .val (.int (own_a f s0 en)), .val (.int (own_a f (s0 + (1 : Int32)) en)), .val (.int (own_a f (s0 + (2 : Int32)) en)), .val (.int (own_a f (s0 + (3 : Int32)) en)), .unset] [(.int s0), (.int en), (.int (-1 : Int32))])
                refine own_go (fun _ k => XS.isub X112.here hx rfl (hb hby d1_157) rfl k) ?_
                show own_Go _ _ _ _ T112 (mkF m 158 #[.val (.ref a1), .val (.int s0), .val (.int en), .val (.int (own_a f s0 en)), .val (.int (own_a f (s0 + (1 : Int32)) en)), .val (.int (own_a f (s0 + (2 : Int32)) en)), .val (.int (own_a f (s0 + (3 : Int32)) en)), .unset] [(.int (en - s0)), (.int (-1 : Int32))])
                obtain ⟨v113, T113, h113, L113, X113, e113, hQ113, st113⟩ := own_callS X112 hx hZ hown (hw _ (List.mem_of_getElem? (i := 8) rfl)) (hw _ (List.mem_of_getElem? (i := 9) rfl)) (hw _ (List.mem_of_getElem? (i := 3) rfl)) (hw _ (List.mem_of_getElem? (i := 10) rfl)) (by decide) e112 (argsL := [(.int (-1 : Int32)), (.int (en - s0))]) (rest := []) (rm4 l Z a0 hw [] (-1 : Int32) (en - s0) h0 n0 Z0) 0 (by decide) (by decide) (by decide) (by decide) (g := (mkF m 158 #[.val (.ref a1), .val (.int s0), .val (.int en), .val (.int (own_a f s0 en)), .val (.int (own_a f (s0 + (1 : Int32)) en)), .val (.int (own_a f (s0 + (2 : Int32)) en)), .val (.int (own_a f (s0 + (3 : Int32)) en)), .unset] [(.int (en - s0)), (.int (-1 : Int32))])) rfl (by rw [hml]; rfl) (lenOf pd1 rfl) rfl (Nat.le_of_eq rfl) (hb hby d1_158)
                obtain ⟨rfl, N113q, rfl⟩ := hQ113
                refine own_go (st113) ?_
                have N113 := Fr.app N112 N113q
                show own_Go _ _ _ _ T113 (mkF m 161 #[.val (.ref a1), .val (.int s0), .val (.int en), .val (.int (own_a f s0 en)), .val (.int (own_a f (s0 + (1 : Int32)) en)), .val (.int (own_a f (s0 + (2 : Int32)) en)), .val (.int (own_a f (s0 + (3 : Int32)) en)), .unset] [(.long (own_pack (-1 : Int32) (en - s0)))])
                have hsp : own_spec f s0 en = ((-1 : Int32), (en - s0)) := by rw [own_spec, if_neg hn0, if_neg hm0, if_neg hn1, if_neg hm1, if_neg hn2, if_neg hm2, if_pos hn3]
                exact own_retJ X113 hx hret hlk (hb hby d1_161) (by decide) (by decide) (by first | exact ⟨by rw [hsp], N113, rfl⟩ | (rw [e113]; exact ⟨by rw [hsp], N113, rfl⟩))
              · skip
                refine own_go (fun _ k => XS.ifYes X112.here hx rfl (pc0 := 151) (pc' := 162) rfl (hb hby d1_151) rfl ((if0 _ _).trans (flt hn3).2.1) (by decide) (by decide) k) ?_
                show own_Go _ _ _ _ T112 (mkF m 162 #[.val (.ref a1), .val (.int s0), .val (.int en), .val (.int (own_a f s0 en)), .val (.int (own_a f (s0 + (1 : Int32)) en)), .val (.int (own_a f (s0 + (2 : Int32)) en)), .val (.int (own_a f (s0 + (3 : Int32)) en)), .unset] [])
                refine own_go (fun _ k => XS.iload X112.here hx rfl (hb hby d1_162) rfl k) ?_
                show own_Go _ _ _ _ T112 (mkF m 164 #[.val (.ref a1), .val (.int s0), .val (.int en), .val (.int (own_a f s0 en)), .val (.int (own_a f (s0 + (1 : Int32)) en)), .val (.int (own_a f (s0 + (2 : Int32)) en)), .val (.int (own_a f (s0 + (3 : Int32)) en)), .unset] [(.int (own_a f (s0 + (3 : Int32)) en))])
                refine own_go (fun _ k => XS.sipush X112.here hx rfl (hb hby d1_164) k) ?_
                show own_Go _ _ _ _ T112 (mkF m 167 #[.val (.ref a1), .val (.int s0), .val (.int en), .val (.int (own_a f s0 en)), .val (.int (own_a f (s0 + (1 : Int32)) en)), .val (.int (own_a f (s0 + (2 : Int32)) en)), .val (.int (own_a f (s0 + (3 : Int32)) en)), .unset] [(.int (128 : Int32)), (.int (own_a f (s0 + (3 : Int32)) en))])
                by_cases hm3 : (own_a f (s0 + (3 : Int32)) en) < (128 : Int32)
                · skip
                  refine own_go (fun _ k => XS.icmpNo X112.here hx rfl (hb hby d1_167) rfl (tlt hm3).2.1 k) ?_
                  show own_Go _ _ _ _ T112 (mkF m 170 #[.val (.ref a1), .val (.int s0), .val (.int en), .val (.int (own_a f s0 en)), .val (.int (own_a f (s0 + (1 : Int32)) en)), .val (.int (own_a f (s0 + (2 : Int32)) en)), .val (.int (own_a f (s0 + (3 : Int32)) en)), .unset] [])
                  refine own_go (fun _ k => XS.iloadN X112.here hx rfl (hb hby d1_170) rfl k) ?_
                  show own_Go _ _ _ _ T112 (mkF m 171 #[.val (.ref a1), .val (.int s0), .val (.int en), .val (.int (own_a f s0 en)), .val (.int (own_a f (s0 + (1 : Int32)) en)), .val (.int (own_a f (s0 + (2 : Int32)) en)), .val (.int (own_a f (s0 + (3 : Int32)) en)), .unset] [(.int (own_a f s0 en))])
                  refine own_go (fun _ k => XS.sipush X112.here hx rfl (hb hby d1_171) k) ?_
                  show own_Go _ _ _ _ T112 (mkF m 174 #[.val (.ref a1), .val (.int s0), .val (.int en), .val (.int (own_a f s0 en)), .val (.int (own_a f (s0 + (1 : Int32)) en)), .val (.int (own_a f (s0 + (2 : Int32)) en)), .val (.int (own_a f (s0 + (3 : Int32)) en)), .unset] [(.int (128 : Int32)), (.int (own_a f s0 en))])
                  refine own_go (fun _ k => XS.isub X112.here hx rfl (hb hby d1_174) rfl k) ?_
                  show own_Go _ _ _ _ T112 (mkF m 175 #[.val (.ref a1), .val (.int s0), .val (.int en), .val (.int (own_a f s0 en)), .val (.int (own_a f (s0 + (1 : Int32)) en)), .val (.int (own_a f (s0 + (2 : Int32)) en)), .val (.int (own_a f (s0 + (3 : Int32)) en)), .unset] [(.int ((own_a f s0 en) - (128 : Int32)))])
                  refine own_go (fun _ k => XS.iload X112.here hx rfl (hb hby d1_175) rfl k) ?_
                  show own_Go _ _ _ _ T112 (mkF m 177 #[.val (.ref a1), .val (.int s0), .val (.int en), .val (.int (own_a f s0 en)), .val (.int (own_a f (s0 + (1 : Int32)) en)), .val (.int (own_a f (s0 + (2 : Int32)) en)), .val (.int (own_a f (s0 + (3 : Int32)) en)), .unset] [(.int (own_a f (s0 + (1 : Int32)) en)), (.int ((own_a f s0 en) - (128 : Int32)))])
                  refine own_go (fun _ k => XS.sipush X112.here hx rfl (hb hby d1_177) k) ?_
                  show own_Go _ _ _ _ T112 (mkF m 180 #[.val (.ref a1), .val (.int s0), .val (.int en), .val (.int (own_a f s0 en)), .val (.int (own_a f (s0 + (1 : Int32)) en)), .val (.int (own_a f (s0 + (2 : Int32)) en)), .val (.int (own_a f (s0 + (3 : Int32)) en)), .unset] [(.int (128 : Int32)), (.int (own_a f (s0 + (1 : Int32)) en)), (.int ((own_a f s0 en) - (128 : Int32)))])
                  refine own_go (fun _ k => XS.isub X112.here hx rfl (hb hby d1_180) rfl k) ?_
                  show own_Go _ _ _ _ T112 (mkF m 181 #[.val (.ref a1), .val (.int s0), .val (.int en), .val (.int (own_a f s0 en)), .val (.int (own_a f (s0 + (1 : Int32)) en)), .val (.int (own_a f (s0 + (2 : Int32)) en)), .val (.int (own_a f (s0 + (3 : Int32)) en)), .unset] [(.int ((own_a f (s0 + (1 : Int32)) en) - (128 : Int32))), (.int ((own_a f s0 en) - (128 : Int32)))])
                  refine own_go (fun _ k => XS.sipush X112.here hx rfl (hb hby d1_181) k) ?_
                  show own_Go _ _ _ _ T112 (mkF m 184 #[.val (.ref a1), .val (.int s0), .val (.int en), .val (.int (own_a f s0 en)), .val (.int (own_a f (s0 + (1 : Int32)) en)), .val (.int (own_a f (s0 + (2 : Int32)) en)), .val (.int (own_a f (s0 + (3 : Int32)) en)), .unset] [(.int (128 : Int32)), (.int ((own_a f (s0 + (1 : Int32)) en) - (128 : Int32))), (.int ((own_a f s0 en) - (128 : Int32)))])
                  refine own_go (fun _ k => XS.imul X112.here hx rfl (hb hby d1_184) rfl k) ?_
                  show own_Go _ _ _ _ T112 (mkF m 185 #[.val (.ref a1), .val (.int s0), .val (.int en), .val (.int (own_a f s0 en)), .val (.int (own_a f (s0 + (1 : Int32)) en)), .val (.int (own_a f (s0 + (2 : Int32)) en)), .val (.int (own_a f (s0 + (3 : Int32)) en)), .unset] [(.int (((own_a f (s0 + (1 : Int32)) en) - (128 : Int32)) * (128 : Int32))), (.int ((own_a f s0 en) - (128 : Int32)))])
                  refine own_go (fun _ k => XS.iadd X112.here hx rfl (hb hby d1_185) rfl k) ?_
                  show own_Go _ _ _ _ T112 (mkF m 186 #[.val (.ref a1), .val (.int s0), .val (.int en), .val (.int (own_a f s0 en)), .val (.int (own_a f (s0 + (1 : Int32)) en)), .val (.int (own_a f (s0 + (2 : Int32)) en)), .val (.int (own_a f (s0 + (3 : Int32)) en)), .unset] [(.int (((own_a f s0 en) - (128 : Int32)) + (((own_a f (s0 + (1 : Int32)) en) - (128 : Int32)) * (128 : Int32))))])
                  refine own_go (fun _ k => XS.iload X112.here hx rfl (hb hby d1_186) rfl k) ?_
                  show own_Go _ _ _ _ T112 (mkF m 188 #[.val (.ref a1), .val (.int s0), .val (.int en), .val (.int (own_a f s0 en)), .val (.int (own_a f (s0 + (1 : Int32)) en)), .val (.int (own_a f (s0 + (2 : Int32)) en)), .val (.int (own_a f (s0 + (3 : Int32)) en)), .unset] [(.int (own_a f (s0 + (2 : Int32)) en)), (.int (((own_a f s0 en) - (128 : Int32)) + (((own_a f (s0 + (1 : Int32)) en) - (128 : Int32)) * (128 : Int32))))])
                  refine own_go (fun _ k => XS.sipush X112.here hx rfl (hb hby d1_188) k) ?_
                  show own_Go _ _ _ _ T112 (mkF m 191 #[.val (.ref a1), .val (.int s0), .val (.int en), .val (.int (own_a f s0 en)), .val (.int (own_a f (s0 + (1 : Int32)) en)), .val (.int (own_a f (s0 + (2 : Int32)) en)), .val (.int (own_a f (s0 + (3 : Int32)) en)), .unset] [(.int (128 : Int32)), (.int (own_a f (s0 + (2 : Int32)) en)), (.int (((own_a f s0 en) - (128 : Int32)) + (((own_a f (s0 + (1 : Int32)) en) - (128 : Int32)) * (128 : Int32))))])
                  refine own_go (fun _ k => XS.isub X112.here hx rfl (hb hby d1_191) rfl k) ?_
                  show own_Go _ _ _ _ T112 (mkF m 192 #[.val (.ref a1), .val (.int s0), .val (.int en), .val (.int (own_a f s0 en)), .val (.int (own_a f (s0 + (1 : Int32)) en)), .val (.int (own_a f (s0 + (2 : Int32)) en)), .val (.int (own_a f (s0 + (3 : Int32)) en)), .unset] [(.int ((own_a f (s0 + (2 : Int32)) en) - (128 : Int32))), (.int (((own_a f s0 en) - (128 : Int32)) + (((own_a f (s0 + (1 : Int32)) en) - (128 : Int32)) * (128 : Int32))))])
                  refine own_go (fun _ k => XS.sipush X112.here hx rfl (hb hby d1_192) k) ?_
                  show own_Go _ _ _ _ T112 (mkF m 195 #[.val (.ref a1), .val (.int s0), .val (.int en), .val (.int (own_a f s0 en)), .val (.int (own_a f (s0 + (1 : Int32)) en)), .val (.int (own_a f (s0 + (2 : Int32)) en)), .val (.int (own_a f (s0 + (3 : Int32)) en)), .unset] [(.int (16384 : Int32)), (.int ((own_a f (s0 + (2 : Int32)) en) - (128 : Int32))), (.int (((own_a f s0 en) - (128 : Int32)) + (((own_a f (s0 + (1 : Int32)) en) - (128 : Int32)) * (128 : Int32))))])
                  refine own_go (fun _ k => XS.imul X112.here hx rfl (hb hby d1_195) rfl k) ?_
                  show own_Go _ _ _ _ T112 (mkF m 196 #[.val (.ref a1), .val (.int s0), .val (.int en), .val (.int (own_a f s0 en)), .val (.int (own_a f (s0 + (1 : Int32)) en)), .val (.int (own_a f (s0 + (2 : Int32)) en)), .val (.int (own_a f (s0 + (3 : Int32)) en)), .unset] [(.int (((own_a f (s0 + (2 : Int32)) en) - (128 : Int32)) * (16384 : Int32))), (.int (((own_a f s0 en) - (128 : Int32)) + (((own_a f (s0 + (1 : Int32)) en) - (128 : Int32)) * (128 : Int32))))])
                  refine own_go (fun _ k => XS.iadd X112.here hx rfl (hb hby d1_196) rfl k) ?_
                  show own_Go _ _ _ _ T112 (mkF m 197 #[.val (.ref a1), .val (.int s0), .val (.int en), .val (.int (own_a f s0 en)), .val (.int (own_a f (s0 + (1 : Int32)) en)), .val (.int (own_a f (s0 + (2 : Int32)) en)), .val (.int (own_a f (s0 + (3 : Int32)) en)), .unset] [(.int ((((own_a f s0 en) - (128 : Int32)) + (((own_a f (s0 + (1 : Int32)) en) - (128 : Int32)) * (128 : Int32))) + (((own_a f (s0 + (2 : Int32)) en) - (128 : Int32)) * (16384 : Int32))))])
                  refine own_go (fun _ k => XS.iload X112.here hx rfl (hb hby d1_197) rfl k) ?_
                  show own_Go _ _ _ _ T112 (mkF m 199 #[.val (.ref a1), .val (.int s0), .val (.int en), .val (.int (own_a f s0 en)), .val (.int (own_a f (s0 + (1 : Int32)) en)), .val (.int (own_a f (s0 + (2 : Int32)) en)), .val (.int (own_a f (s0 + (3 : Int32)) en)), .unset] [(.int (own_a f (s0 + (3 : Int32)) en)), (.int ((((own_a f s0 en) - (128 : Int32)) + (((own_a f (s0 + (1 : Int32)) en) - (128 : Int32)) * (128 : Int32))) + (((own_a f (s0 + (2 : Int32)) en) - (128 : Int32)) * (16384 : Int32))))])
                  refine own_go (X112.ldcInt hx hown (mvT hZ (hw _ (List.mem_of_getElem? (i := 37) rfl))) (g := (mkF m 199 #[.val (.ref a1), .val (.int s0), .val (.int en), .val (.int (own_a f s0 en)), .val (.int (own_a f (s0 + (1 : Int32)) en)), .val (.int (own_a f (s0 + (2 : Int32)) en)), .val (.int (own_a f (s0 + (3 : Int32)) en)), .unset] [(.int (own_a f (s0 + (3 : Int32)) en)), (.int ((((own_a f s0 en) - (128 : Int32)) + (((own_a f (s0 + (1 : Int32)) en) - (128 : Int32)) * (128 : Int32))) + (((own_a f (s0 + (2 : Int32)) en) - (128 : Int32)) * (16384 : Int32))))])) rfl (hb hby d1_199)) ?_
                  show own_Go _ _ _ _ T112 (mkF m 201 #[.val (.ref a1), .val (.int s0), .val (.int en), .val (.int (own_a f s0 en)), .val (.int (own_a f (s0 + (1 : Int32)) en)), .val (.int (own_a f (s0 + (2 : Int32)) en)), .val (.int (own_a f (s0 + (3 : Int32)) en)), .unset] [(.int (2097152 : Int32)), (.int (own_a f (s0 + (3 : Int32)) en)), (.int ((((own_a f s0 en) - (128 : Int32)) + (((own_a f (s0 + (1 : Int32)) en) - (128 : Int32)) * (128 : Int32))) + (((own_a f (s0 + (2 : Int32)) en) - (128 : Int32)) * (16384 : Int32))))])
                  refine own_go (fun _ k => XS.imul X112.here hx rfl (hb hby d1_201) rfl k) ?_
                  show own_Go _ _ _ _ T112 (mkF m 202 #[.val (.ref a1), .val (.int s0), .val (.int en), .val (.int (own_a f s0 en)), .val (.int (own_a f (s0 + (1 : Int32)) en)), .val (.int (own_a f (s0 + (2 : Int32)) en)), .val (.int (own_a f (s0 + (3 : Int32)) en)), .unset] [(.int ((own_a f (s0 + (3 : Int32)) en) * (2097152 : Int32))), (.int ((((own_a f s0 en) - (128 : Int32)) + (((own_a f (s0 + (1 : Int32)) en) - (128 : Int32)) * (128 : Int32))) + (((own_a f (s0 + (2 : Int32)) en) - (128 : Int32)) * (16384 : Int32))))])
                  refine own_go (fun _ k => XS.iadd X112.here hx rfl (hb hby d1_202) rfl k) ?_
                  show own_Go _ _ _ _ T112 (mkF m 203 #[.val (.ref a1), .val (.int s0), .val (.int en), .val (.int (own_a f s0 en)), .val (.int (own_a f (s0 + (1 : Int32)) en)), .val (.int (own_a f (s0 + (2 : Int32)) en)), .val (.int (own_a f (s0 + (3 : Int32)) en)), .unset] [(.int (((((own_a f s0 en) - (128 : Int32)) + (((own_a f (s0 + (1 : Int32)) en) - (128 : Int32)) * (128 : Int32))) + (((own_a f (s0 + (2 : Int32)) en) - (128 : Int32)) * (16384 : Int32))) + ((own_a f (s0 + (3 : Int32)) en) * (2097152 : Int32))))])
                  refine own_go (fun _ k => XS.iconst X112.here hx rfl (hb hby d1_203) k) ?_
                  show own_Go _ _ _ _ T112 (mkF m 204 #[.val (.ref a1), .val (.int s0), .val (.int en), .val (.int (own_a f s0 en)), .val (.int (own_a f (s0 + (1 : Int32)) en)), .val (.int (own_a f (s0 + (2 : Int32)) en)), .val (.int (own_a f (s0 + (3 : Int32)) en)), .unset] [(.int (4 : Int32)), (.int (((((own_a f s0 en) - (128 : Int32)) + (((own_a f (s0 + (1 : Int32)) en) - (128 : Int32)) * (128 : Int32))) + (((own_a f (s0 + (2 : Int32)) en) - (128 : Int32)) * (16384 : Int32))) + ((own_a f (s0 + (3 : Int32)) en) * (2097152 : Int32))))])
                  obtain ⟨v114, T114, h114, L114, X114, e114, hQ114, st114⟩ := own_callS X112 hx hZ hown (hw _ (List.mem_of_getElem? (i := 8) rfl)) (hw _ (List.mem_of_getElem? (i := 9) rfl)) (hw _ (List.mem_of_getElem? (i := 3) rfl)) (hw _ (List.mem_of_getElem? (i := 10) rfl)) (by decide) e112 (argsL := [(.int (((((own_a f s0 en) - (128 : Int32)) + (((own_a f (s0 + (1 : Int32)) en) - (128 : Int32)) * (128 : Int32))) + (((own_a f (s0 + (2 : Int32)) en) - (128 : Int32)) * (16384 : Int32))) + ((own_a f (s0 + (3 : Int32)) en) * (2097152 : Int32)))), (.int (4 : Int32))]) (rest := []) (rm4 l Z a0 hw [] (((((own_a f s0 en) - (128 : Int32)) + (((own_a f (s0 + (1 : Int32)) en) - (128 : Int32)) * (128 : Int32))) + (((own_a f (s0 + (2 : Int32)) en) - (128 : Int32)) * (16384 : Int32))) + ((own_a f (s0 + (3 : Int32)) en) * (2097152 : Int32))) (4 : Int32) h0 n0 Z0) 0 (by decide) (by decide) (by decide) (by decide) (g := (mkF m 204 #[.val (.ref a1), .val (.int s0), .val (.int en), .val (.int (own_a f s0 en)), .val (.int (own_a f (s0 + (1 : Int32)) en)), .val (.int (own_a f (s0 + (2 : Int32)) en)), .val (.int (own_a f (s0 + (3 : Int32)) en)), .unset] [(.int (4 : Int32)), (.int (((((own_a f s0 en) - (128 : Int32)) + (((own_a f (s0 + (1 : Int32)) en) - (128 : Int32)) * (128 : Int32))) + (((own_a f (s0 + (2 : Int32)) en) - (128 : Int32)) * (16384 : Int32))) + ((own_a f (s0 + (3 : Int32)) en) * (2097152 : Int32))))])) rfl (by rw [hml]; rfl) (lenOf pd1 rfl) rfl (Nat.le_of_eq rfl) (hb hby d1_204)
                  obtain ⟨rfl, N114q, rfl⟩ := hQ114
                  refine own_go (st114) ?_
                  have N114 := Fr.app N112 N114q
                  show own_Go _ _ _ _ T114 (mkF m 207 #[.val (.ref a1), .val (.int s0), .val (.int en), .val (.int (own_a f s0 en)), .val (.int (own_a f (s0 + (1 : Int32)) en)), .val (.int (own_a f (s0 + (2 : Int32)) en)), .val (.int (own_a f (s0 + (3 : Int32)) en)), .unset] [(.long (own_pack (((((own_a f s0 en) - (128 : Int32)) + (((own_a f (s0 + (1 : Int32)) en) - (128 : Int32)) * (128 : Int32))) + (((own_a f (s0 + (2 : Int32)) en) - (128 : Int32)) * (16384 : Int32))) + ((own_a f (s0 + (3 : Int32)) en) * (2097152 : Int32))) (4 : Int32)))])
                  have hsp : own_spec f s0 en = ((((((own_a f s0 en) - (128 : Int32)) + (((own_a f (s0 + (1 : Int32)) en) - (128 : Int32)) * (128 : Int32))) + (((own_a f (s0 + (2 : Int32)) en) - (128 : Int32)) * (16384 : Int32))) + ((own_a f (s0 + (3 : Int32)) en) * (2097152 : Int32))), (4 : Int32)) := by rw [own_spec, if_neg hn0, if_neg hm0, if_neg hn1, if_neg hm1, if_neg hn2, if_neg hm2, if_neg hn3, if_pos hm3]
                  exact own_retJ X114 hx hret hlk (hb hby d1_207) (by decide) (by decide) (by first | exact ⟨by rw [hsp], N114, rfl⟩ | (rw [e114]; exact ⟨by rw [hsp], N114, rfl⟩))
                · skip
                  refine own_go (fun _ k => XS.icmpYes X112.here hx rfl (pc0 := 167) (pc' := 208) rfl (hb hby d1_167) rfl (flt hm3).2.1 (by decide) (by decide) k) ?_
                  show own_Go _ _ _ _ T112 (mkF m 208 #[.val (.ref a1), .val (.int s0), .val (.int en), .val (.int (own_a f s0 en)), .val (.int (own_a f (s0 + (1 : Int32)) en)), .val (.int (own_a f (s0 + (2 : Int32)) en)), .val (.int (own_a f (s0 + (3 : Int32)) en)), .unset] [])
                  refine own_go (fun _ k => XS.aloadN X112.here hx rfl (hb hby d1_208) rfl rfl k) ?_
                  show own_Go _ _ _ _ T112 (mkF m 209 #[.val (.ref a1), .val (.int s0), .val (.int en), .val (.int (own_a f s0 en)), .val (.int (own_a f (s0 + (1 : Int32)) en)), .val (.int (own_a f (s0 + (2 : Int32)) en)), .val (.int (own_a f (s0 + (3 : Int32)) en)), .unset] [(.ref a1)])
                  refine own_go (fun _ k => XS.iloadN X112.here hx rfl (hb hby d1_209) rfl k) ?_
                  show own_Go _ _ _ _ T112 (mkF m 210 #[.val (.ref a1), .val (.int s0), .val (.int en), .val (.int (own_a f s0 en)), .val (.int (own_a f (s0 + (1 : Int32)) en)), .val (.int (own_a f (s0 + (2 : Int32)) en)), .val (.int (own_a f (s0 + (3 : Int32)) en)), .unset] [(.int s0), (.ref a1)])
                  refine own_go (fun _ k => XS.iconst X112.here hx rfl (hb hby d1_210) k) ?_
                  show own_Go _ _ _ _ T112 (mkF m 211 #[.val (.ref a1), .val (.int s0), .val (.int en), .val (.int (own_a f s0 en)), .val (.int (own_a f (s0 + (1 : Int32)) en)), .val (.int (own_a f (s0 + (2 : Int32)) en)), .val (.int (own_a f (s0 + (3 : Int32)) en)), .unset] [(.int (4 : Int32)), (.int s0), (.ref a1)])
                  refine own_go (fun _ k => XS.iadd X112.here hx rfl (hb hby d1_211) rfl k) ?_
                  show own_Go _ _ _ _ T112 (mkF m 212 #[.val (.ref a1), .val (.int s0), .val (.int en), .val (.int (own_a f s0 en)), .val (.int (own_a f (s0 + (1 : Int32)) en)), .val (.int (own_a f (s0 + (2 : Int32)) en)), .val (.int (own_a f (s0 + (3 : Int32)) en)), .unset] [(.int (s0 + (4 : Int32))), (.ref a1)])
                  refine own_go (fun _ k => XS.iloadN X112.here hx rfl (hb hby d1_212) rfl k) ?_
                  show own_Go _ _ _ _ T112 (mkF m 213 #[.val (.ref a1), .val (.int s0), .val (.int en), .val (.int (own_a f s0 en)), .val (.int (own_a f (s0 + (1 : Int32)) en)), .val (.int (own_a f (s0 + (2 : Int32)) en)), .val (.int (own_a f (s0 + (3 : Int32)) en)), .unset] [(.int en), (.int (s0 + (4 : Int32))), (.ref a1)])
                  obtain ⟨v115, T115, h115, L115, X115, e115, hQ115, st115⟩ := own_callS X112 hx hZ hown (hw _ (List.mem_of_getElem? (i := 5) rfl)) (hw _ (List.mem_of_getElem? (i := 6) rfl)) (hw _ (List.mem_of_getElem? (i := 3) rfl)) (hw _ (List.mem_of_getElem? (i := 7) rfl)) (by decide) e112 (argsL := [(.ref a1), (.int (s0 + (4 : Int32))), (.int en)]) (rest := []) (rm5 l Z a0 hw [] a1 (s0 + (4 : Int32)) en kk nn vs dv f h0 n0 Z0 V_a1 hf (by rw [own_sk4 hs1 (by omega)] <;> omega) hs3) 0 (by decide) (by decide) (by decide) (by decide) (g := (mkF m 213 #[.val (.ref a1), .val (.int s0), .val (.int en), .val (.int (own_a f s0 en)), .val (.int (own_a f (s0 + (1 : Int32)) en)), .val (.int (own_a f (s0 + (2 : Int32)) en)), .val (.int (own_a f (s0 + (3 : Int32)) en)), .unset] [(.int en), (.int (s0 + (4 : Int32))), (.ref a1)])) rfl (by rw [hml]; rfl) (lenOf pd0 rfl) rfl (Nat.le_of_eq rfl) (hb hby d1_213)
                  obtain ⟨rfl, N115q, rfl⟩ := hQ115
                  refine own_go (st115) ?_
                  have N115 := Fr.app N112 N115q
                  show own_Go _ _ _ _ T115 (mkF m 216 #[.val (.ref a1), .val (.int s0), .val (.int en), .val (.int (own_a f s0 en)), .val (.int (own_a f (s0 + (1 : Int32)) en)), .val (.int (own_a f (s0 + (2 : Int32)) en)), .val (.int (own_a f (s0 + (3 : Int32)) en)), .unset] [(.int (own_a f (s0 + (4 : Int32)) en))])
                  refine own_go (fun _ k => XS.istore X115.here hx rfl (hb hby d1_216) rfl (l' := #[.val (.ref a1), .val (.int s0), .val (.int en), .val (.int (own_a f s0 en)), .val (.int (own_a f (s0 + (1 : Int32)) en)), .val (.int (own_a f (s0 + (2 : Int32)) en)), .val (.int (own_a f (s0 + (3 : Int32)) en)), .val (.int (own_a f (s0 + (4 : Int32)) en))]) rfl k) ?_
                  show own_Go _ _ _ _ T115 (mkF m 218 #[.val (.ref a1), .val (.int s0), .val (.int en), .val (.int (own_a f s0 en)), .val (.int (own_a f (s0 + (1 : Int32)) en)), .val (.int (own_a f (s0 + (2 : Int32)) en)), .val (.int (own_a f (s0 + (3 : Int32)) en)), .val (.int (own_a f (s0 + (4 : Int32)) en))] [])
                  refine own_go (fun _ k => XS.iload X115.here hx rfl (hb hby d1_218) rfl k) ?_
                  show own_Go _ _ _ _ T115 (mkF m 220 #[.val (.ref a1), .val (.int s0), .val (.int en), .val (.int (own_a f s0 en)), .val (.int (own_a f (s0 + (1 : Int32)) en)), .val (.int (own_a f (s0 + (2 : Int32)) en)), .val (.int (own_a f (s0 + (3 : Int32)) en)), .val (.int (own_a f (s0 + (4 : Int32)) en))] [(.int (own_a f (s0 + (4 : Int32)) en))])
                  by_cases hn4 : (own_a f (s0 + (4 : Int32)) en) < (0 : Int32)
                  · skip
                    refine own_go (fun _ k => XS.ifNo X115.here hx rfl (hb hby d1_220) rfl ((if0 _ _).trans (tlt hn4).2.1) k) ?_
                    show own_Go _ _ _ _ T115 (mkF m 223 #[.val (.ref a1), .val (.int s0), .val (.int en), .val (.int (own_a f s0 en)), .val (.int (own_a f (s0 + (1 : Int32)) en)), .val (.int (own_a f (s0 + (2 : Int32)) en)), .val (.int (own_a f (s0 + (3 : Int32)) en)), .val (.int (own_a f (s0 + (4 : Int32)) en))] [])
                    refine own_go (fun _ k => XS.iconst X115.here hx rfl (hb hby d1_223) k) ?_
                    show own_Go _ _ _ _ T115 (mkF m 224 #[.val (.ref a1), .val (.int s0), .val (.int en), .val (.int (own_a f s0 en)), .val (.int (own_a f (s0 + (1 : Int32)) en)), .val (.int (own_a f (s0 + (2 : Int32)) en)), .val (.int (own_a f (s0 + (3 : Int32)) en)), .val (.int (own_a f (s0 + (4 : Int32)) en))] [(.int (-1 : Int32))])
                    refine own_go (fun _ k => XS.iloadN X115.here hx rfl (hb hby d1_224) rfl k) ?_
                    show own_Go _ _ _ _ T115 (mkF m 225 #[.val (.ref a1), .val (.int s0), .val (.int en), .val (.int (own_a f s0 en)), .val (.int (own_a f (s0 + (1 : Int32)) en)), .val (.int (own_a f (s0 + (2 : Int32)) en)), .val (.int (own_a f (s0 + (3 : Int32)) en)), .val (.int (own_a f (s0 + (4 : Int32)) en))] [(.int en), (.int (-1 : Int32))])
                    refine own_go (fun _ k => XS.iloadN X115.here hx rfl (hb hby d1_225) rfl k) ?_
                    show own_Go _ _ _ _ T115 (mkF m 226 #[.val (.ref a1), .val (.int s0), .val (.int en), .val (.int (own_a f s0 en)), .val (.int (own_a f (s0 + (1 : Int32)) en)), .val (.int (own_a f (s0 + (2 : Int32)) en)), .val (.int (own_a f (s0 + (3 : Int32)) en)), .val (.int (own_a f (s0 + (4 : Int32)) en))] [(.int s0), (.int en), (.int (-1 : Int32))])
                    refine own_go (fun _ k => XS.isub X115.here hx rfl (hb hby d1_226) rfl k) ?_
                    show own_Go _ _ _ _ T115 (mkF m 227 #[.val (.ref a1), .val (.int s0), .val (.int en), .val (.int (own_a f s0 en)), .val (.int (own_a f (s0 + (1 : Int32)) en)), .val (.int (own_a f (s0 + (2 : Int32)) en)), .val (.int (own_a f (s0 + (3 : Int32)) en)), .val (.int (own_a f (s0 + (4 : Int32)) en))] [(.int (en - s0)), (.int (-1 : Int32))])
                    obtain ⟨v116, T116, h116, L116, X116, e116, hQ116, st116⟩ := own_callS X115 hx hZ hown (hw _ (List.mem_of_getElem? (i := 8) rfl)) (hw _ (List.mem_of_getElem? (i := 9) rfl)) (hw _ (List.mem_of_getElem? (i := 3) rfl)) (hw _ (List.mem_of_getElem? (i := 10) rfl)) (by decide) e115 (argsL := [(.int (-1 : Int32)), (.int (en - s0))]) (rest := []) (rm4 l Z a0 hw [] (-1 : Int32) (en - s0) h0 n0 Z0) 0 (by decide) (by decide) (by decide) (by decide) (g := (mkF m 227 #[.val (.ref a1), .val (.int s0), .val (.int en), .val (.int (own_a f s0 en)), .val (.int (own_a f (s0 + (1 : Int32)) en)), .val (.int (own_a f (s0 + (2 : Int32)) en)), .val (.int (own_a f (s0 + (3 : Int32)) en)), .val (.int (own_a f (s0 + (4 : Int32)) en))] [(.int (en - s0)), (.int (-1 : Int32))])) rfl (by rw [hml]; rfl) (lenOf pd1 rfl) rfl (Nat.le_of_eq rfl) (hb hby d1_227)
                    obtain ⟨rfl, N116q, rfl⟩ := hQ116
                    refine own_go (st116) ?_
                    have N116 := Fr.app N115 N116q
                    show own_Go _ _ _ _ T116 (mkF m 230 #[.val (.ref a1), .val (.int s0), .val (.int en), .val (.int (own_a f s0 en)), .val (.int (own_a f (s0 + (1 : Int32)) en)), .val (.int (own_a f (s0 + (2 : Int32)) en)), .val (.int (own_a f (s0 + (3 : Int32)) en)), .val (.int (own_a f (s0 + (4 : Int32)) en))] [(.long (own_pack (-1 : Int32) (en - s0)))])
                    have hsp : own_spec f s0 en = ((-1 : Int32), (en - s0)) := by rw [own_spec, if_neg hn0, if_neg hm0, if_neg hn1, if_neg hm1, if_neg hn2, if_neg hm2, if_neg hn3, if_neg hm3, if_pos hn4]
                    exact own_retJ X116 hx hret hlk (hb hby d1_230) (by decide) (by decide) (by first | exact ⟨by rw [hsp], N116, rfl⟩ | (rw [e116]; exact ⟨by rw [hsp], N116, rfl⟩))
                  · skip
                    refine own_go (fun _ k => XS.ifYes X115.here hx rfl (pc0 := 220) (pc' := 231) rfl (hb hby d1_220) rfl ((if0 _ _).trans (flt hn4).2.1) (by decide) (by decide) k) ?_
                    show own_Go _ _ _ _ T115 (mkF m 231 #[.val (.ref a1), .val (.int s0), .val (.int en), .val (.int (own_a f s0 en)), .val (.int (own_a f (s0 + (1 : Int32)) en)), .val (.int (own_a f (s0 + (2 : Int32)) en)), .val (.int (own_a f (s0 + (3 : Int32)) en)), .val (.int (own_a f (s0 + (4 : Int32)) en))] [])
                    refine own_go (fun _ k => XS.iload X115.here hx rfl (hb hby d1_231) rfl k) ?_
                    show own_Go _ _ _ _ T115 (mkF m 233 #[.val (.ref a1), .val (.int s0), .val (.int en), .val (.int (own_a f s0 en)), .val (.int (own_a f (s0 + (1 : Int32)) en)), .val (.int (own_a f (s0 + (2 : Int32)) en)), .val (.int (own_a f (s0 + (3 : Int32)) en)), .val (.int (own_a f (s0 + (4 : Int32)) en))] [(.int (own_a f (s0 + (4 : Int32)) en))])
                    refine own_go (fun _ k => XS.sipush X115.here hx rfl (hb hby d1_233) k) ?_
                    show own_Go _ _ _ _ T115 (mkF m 236 #[.val (.ref a1), .val (.int s0), .val (.int en), .val (.int (own_a f s0 en)), .val (.int (own_a f (s0 + (1 : Int32)) en)), .val (.int (own_a f (s0 + (2 : Int32)) en)), .val (.int (own_a f (s0 + (3 : Int32)) en)), .val (.int (own_a f (s0 + (4 : Int32)) en))] [(.int (128 : Int32)), (.int (own_a f (s0 + (4 : Int32)) en))])
                    by_cases hm4 : (own_a f (s0 + (4 : Int32)) en) < (128 : Int32)
                    · skip
                      refine own_go (fun _ k => XS.icmpYes X115.here hx rfl (pc0 := 236) (pc' := 245) rfl (hb hby d1_236) rfl (tlt hm4).1 (by decide) (by decide) k) ?_
                      show own_Go _ _ _ _ T115 (mkF m 245 #[.val (.ref a1), .val (.int s0), .val (.int en), .val (.int (own_a f s0 en)), .val (.int (own_a f (s0 + (1 : Int32)) en)), .val (.int (own_a f (s0 + (2 : Int32)) en)), .val (.int (own_a f (s0 + (3 : Int32)) en)), .val (.int (own_a f (s0 + (4 : Int32)) en))] [])
                      refine own_go (fun _ k => XS.iload X115.here hx rfl (hb hby d1_245) rfl k) ?_
                      show own_Go _ _ _ _ T115 (mkF m 247 #[.val (.ref a1), .val (.int s0), .val (.int en), .val (.int (own_a f s0 en)), .val (.int (own_a f (s0 + (1 : Int32)) en)), .val (.int (own_a f (s0 + (2 : Int32)) en)), .val (.int (own_a f (s0 + (3 : Int32)) en)), .val (.int (own_a f (s0 + (4 : Int32)) en))] [(.int (own_a f (s0 + (4 : Int32)) en))])
                      refine own_go (fun _ k => XS.bipush X115.here hx rfl (hb hby d1_247) k) ?_
                      show own_Go _ _ _ _ T115 (mkF m 249 #[.val (.ref a1), .val (.int s0), .val (.int en), .val (.int (own_a f s0 en)), .val (.int (own_a f (s0 + (1 : Int32)) en)), .val (.int (own_a f (s0 + (2 : Int32)) en)), .val (.int (own_a f (s0 + (3 : Int32)) en)), .val (.int (own_a f (s0 + (4 : Int32)) en))] [(.int (7 : Int32)), (.int (own_a f (s0 + (4 : Int32)) en))])
                      by_cases h7 : (7 : Int32) < (own_a f (s0 + (4 : Int32)) en)
                      · skip
                        refine own_go (fun _ k => XS.icmpNo X115.here hx rfl (hb hby d1_249) rfl (tlt h7).2.2.2 k) ?_
                        show own_Go _ _ _ _ T115 (mkF m 252 #[.val (.ref a1), .val (.int s0), .val (.int en), .val (.int (own_a f s0 en)), .val (.int (own_a f (s0 + (1 : Int32)) en)), .val (.int (own_a f (s0 + (2 : Int32)) en)), .val (.int (own_a f (s0 + (3 : Int32)) en)), .val (.int (own_a f (s0 + (4 : Int32)) en))] [])
                        refine own_go (fun _ k => XS.iconst X115.here hx rfl (hb hby d1_252) k) ?_
                        show own_Go _ _ _ _ T115 (mkF m 253 #[.val (.ref a1), .val (.int s0), .val (.int en), .val (.int (own_a f s0 en)), .val (.int (own_a f (s0 + (1 : Int32)) en)), .val (.int (own_a f (s0 + (2 : Int32)) en)), .val (.int (own_a f (s0 + (3 : Int32)) en)), .val (.int (own_a f (s0 + (4 : Int32)) en))] [(.int (-1 : Int32))])
                        refine own_go (fun _ k => XS.iconst X115.here hx rfl (hb hby d1_253) k) ?_
                        show own_Go _ _ _ _ T115 (mkF m 254 #[.val (.ref a1), .val (.int s0), .val (.int en), .val (.int (own_a f s0 en)), .val (.int (own_a f (s0 + (1 : Int32)) en)), .val (.int (own_a f (s0 + (2 : Int32)) en)), .val (.int (own_a f (s0 + (3 : Int32)) en)), .val (.int (own_a f (s0 + (4 : Int32)) en))] [(.int (5 : Int32)), (.int (-1 : Int32))])
                        obtain ⟨v117, T117, h117, L117, X117, e117, hQ117, st117⟩ := own_callS X115 hx hZ hown (hw _ (List.mem_of_getElem? (i := 8) rfl)) (hw _ (List.mem_of_getElem? (i := 9) rfl)) (hw _ (List.mem_of_getElem? (i := 3) rfl)) (hw _ (List.mem_of_getElem? (i := 10) rfl)) (by decide) e115 (argsL := [(.int (-1 : Int32)), (.int (5 : Int32))]) (rest := []) (rm4 l Z a0 hw [] (-1 : Int32) (5 : Int32) h0 n0 Z0) 0 (by decide) (by decide) (by decide) (by decide) (g := (mkF m 254 #[.val (.ref a1), .val (.int s0), .val (.int en), .val (.int (own_a f s0 en)), .val (.int (own_a f (s0 + (1 : Int32)) en)), .val (.int (own_a f (s0 + (2 : Int32)) en)), .val (.int (own_a f (s0 + (3 : Int32)) en)), .val (.int (own_a f (s0 + (4 : Int32)) en))] [(.int (5 : Int32)), (.int (-1 : Int32))])) rfl (by rw [hml]; rfl) (lenOf pd1 rfl) rfl (Nat.le_of_eq rfl) (hb hby d1_254)
                        obtain ⟨rfl, N117q, rfl⟩ := hQ117
                        refine own_go (st117) ?_
                        have N117 := Fr.app N115 N117q
                        show own_Go _ _ _ _ T117 (mkF m 257 #[.val (.ref a1), .val (.int s0), .val (.int en), .val (.int (own_a f s0 en)), .val (.int (own_a f (s0 + (1 : Int32)) en)), .val (.int (own_a f (s0 + (2 : Int32)) en)), .val (.int (own_a f (s0 + (3 : Int32)) en)), .val (.int (own_a f (s0 + (4 : Int32)) en))] [(.long (own_pack (-1 : Int32) (5 : Int32)))])
                        have hsp : own_spec f s0 en = ((-1 : Int32), (5 : Int32)) := by rw [own_spec, if_neg hn0, if_neg hm0, if_neg hn1, if_neg hm1, if_neg hn2, if_neg hm2, if_neg hn3, if_neg hm3, if_neg hn4, if_pos hm4, if_pos h7]
                        exact own_retJ X117 hx hret hlk (hb hby d1_257) (by decide) (by decide) (by first | exact ⟨by rw [hsp], N117, rfl⟩ | (rw [e117]; exact ⟨by rw [hsp], N117, rfl⟩))
                      · skip
                        refine own_go (fun _ k => XS.icmpYes X115.here hx rfl (pc0 := 249) (pc' := 258) rfl (hb hby d1_249) rfl (flt h7).2.2.2 (by decide) (by decide) k) ?_
                        show own_Go _ _ _ _ T115 (mkF m 258 #[.val (.ref a1), .val (.int s0), .val (.int en), .val (.int (own_a f s0 en)), .val (.int (own_a f (s0 + (1 : Int32)) en)), .val (.int (own_a f (s0 + (2 : Int32)) en)), .val (.int (own_a f (s0 + (3 : Int32)) en)), .val (.int (own_a f (s0 + (4 : Int32)) en))] [])
                        refine own_go (fun _ k => XS.iloadN X115.here hx rfl (hb hby d1_258) rfl k) ?_
                        show own_Go _ _ _ _ T115 (mkF m 259 #[.val (.ref a1), .val (.int s0), .val (.int en), .val (.int (own_a f s0 en)), .val (.int (own_a f (s0 + (1 : Int32)) en)), .val (.int (own_a f (s0 + (2 : Int32)) en)), .val (.int (own_a f (s0 + (3 : Int32)) en)), .val (.int (own_a f (s0 + (4 : Int32)) en))] [(.int (own_a f s0 en))])
                        refine own_go (fun _ k => XS.sipush X115.here hx rfl (hb hby d1_259) k) ?_
                        show own_Go _ _ _ _ T115 (mkF m 262 #[.val (.ref a1), .val (.int s0), .val (.int en), .val (.int (own_a f s0 en)), .val (.int (own_a f (s0 + (1 : Int32)) en)), .val (.int (own_a f (s0 + (2 : Int32)) en)), .val (.int (own_a f (s0 + (3 : Int32)) en)), .val (.int (own_a f (s0 + (4 : Int32)) en))] [(.int (128 : Int32)), (.int (own_a f s0 en))])
                        refine own_go (fun _ k => XS.isub X115.here hx rfl (hb hby d1_262) rfl k) ?_
                        show own_Go _ _ _ _ T115 (mkF m 263 #[.val (.ref a1), .val (.int s0), .val (.int en), .val (.int (own_a f s0 en)), .val (.int (own_a f (s0 + (1 : Int32)) en)), .val (.int (own_a f (s0 + (2 : Int32)) en)), .val (.int (own_a f (s0 + (3 : Int32)) en)), .val (.int (own_a f (s0 + (4 : Int32)) en))] [(.int ((own_a f s0 en) - (128 : Int32)))])
                        refine own_go (fun _ k => XS.iload X115.here hx rfl (hb hby d1_263) rfl k) ?_
                        show own_Go _ _ _ _ T115 (mkF m 265 #[.val (.ref a1), .val (.int s0), .val (.int en), .val (.int (own_a f s0 en)), .val (.int (own_a f (s0 + (1 : Int32)) en)), .val (.int (own_a f (s0 + (2 : Int32)) en)), .val (.int (own_a f (s0 + (3 : Int32)) en)), .val (.int (own_a f (s0 + (4 : Int32)) en))] [(.int (own_a f (s0 + (1 : Int32)) en)), (.int ((own_a f s0 en) - (128 : Int32)))])
                        refine own_go (fun _ k => XS.sipush X115.here hx rfl (hb hby d1_265) k) ?_
                        show own_Go _ _ _ _ T115 (mkF m 268 #[.val (.ref a1), .val (.int s0), .val (.int en), .val (.int (own_a f s0 en)), .val (.int (own_a f (s0 + (1 : Int32)) en)), .val (.int (own_a f (s0 + (2 : Int32)) en)), .val (.int (own_a f (s0 + (3 : Int32)) en)), .val (.int (own_a f (s0 + (4 : Int32)) en))] [(.int (128 : Int32)), (.int (own_a f (s0 + (1 : Int32)) en)), (.int ((own_a f s0 en) - (128 : Int32)))])
                        refine own_go (fun _ k => XS.isub X115.here hx rfl (hb hby d1_268) rfl k) ?_
                        show own_Go _ _ _ _ T115 (mkF m 269 #[.val (.ref a1), .val (.int s0), .val (.int en), .val (.int (own_a f s0 en)), .val (.int (own_a f (s0 + (1 : Int32)) en)), .val (.int (own_a f (s0 + (2 : Int32)) en)), .val (.int (own_a f (s0 + (3 : Int32)) en)), .val (.int (own_a f (s0 + (4 : Int32)) en))] [(.int ((own_a f (s0 + (1 : Int32)) en) - (128 : Int32))), (.int ((own_a f s0 en) - (128 : Int32)))])
                        refine own_go (fun _ k => XS.sipush X115.here hx rfl (hb hby d1_269) k) ?_
                        show own_Go _ _ _ _ T115 (mkF m 272 #[.val (.ref a1), .val (.int s0), .val (.int en), .val (.int (own_a f s0 en)), .val (.int (own_a f (s0 + (1 : Int32)) en)), .val (.int (own_a f (s0 + (2 : Int32)) en)), .val (.int (own_a f (s0 + (3 : Int32)) en)), .val (.int (own_a f (s0 + (4 : Int32)) en))] [(.int (128 : Int32)), (.int ((own_a f (s0 + (1 : Int32)) en) - (128 : Int32))), (.int ((own_a f s0 en) - (128 : Int32)))])
                        refine own_go (fun _ k => XS.imul X115.here hx rfl (hb hby d1_272) rfl k) ?_
                        show own_Go _ _ _ _ T115 (mkF m 273 #[.val (.ref a1), .val (.int s0), .val (.int en), .val (.int (own_a f s0 en)), .val (.int (own_a f (s0 + (1 : Int32)) en)), .val (.int (own_a f (s0 + (2 : Int32)) en)), .val (.int (own_a f (s0 + (3 : Int32)) en)), .val (.int (own_a f (s0 + (4 : Int32)) en))] [(.int (((own_a f (s0 + (1 : Int32)) en) - (128 : Int32)) * (128 : Int32))), (.int ((own_a f s0 en) - (128 : Int32)))])
                        refine own_go (fun _ k => XS.iadd X115.here hx rfl (hb hby d1_273) rfl k) ?_
                        show own_Go _ _ _ _ T115 (mkF m 274 #[.val (.ref a1), .val (.int s0), .val (.int en), .val (.int (own_a f s0 en)), .val (.int (own_a f (s0 + (1 : Int32)) en)), .val (.int (own_a f (s0 + (2 : Int32)) en)), .val (.int (own_a f (s0 + (3 : Int32)) en)), .val (.int (own_a f (s0 + (4 : Int32)) en))] [(.int (((own_a f s0 en) - (128 : Int32)) + (((own_a f (s0 + (1 : Int32)) en) - (128 : Int32)) * (128 : Int32))))])
                        refine own_go (fun _ k => XS.iload X115.here hx rfl (hb hby d1_274) rfl k) ?_
                        show own_Go _ _ _ _ T115 (mkF m 276 #[.val (.ref a1), .val (.int s0), .val (.int en), .val (.int (own_a f s0 en)), .val (.int (own_a f (s0 + (1 : Int32)) en)), .val (.int (own_a f (s0 + (2 : Int32)) en)), .val (.int (own_a f (s0 + (3 : Int32)) en)), .val (.int (own_a f (s0 + (4 : Int32)) en))] [(.int (own_a f (s0 + (2 : Int32)) en)), (.int (((own_a f s0 en) - (128 : Int32)) + (((own_a f (s0 + (1 : Int32)) en) - (128 : Int32)) * (128 : Int32))))])
                        refine own_go (fun _ k => XS.sipush X115.here hx rfl (hb hby d1_276) k) ?_
                        show own_Go _ _ _ _ T115 (mkF m 279 #[.val (.ref a1), .val (.int s0), .val (.int en), .val (.int (own_a f s0 en)), .val (.int (own_a f (s0 + (1 : Int32)) en)), .val (.int (own_a f (s0 + (2 : Int32)) en)), .val (.int (own_a f (s0 + (3 : Int32)) en)), .val (.int (own_a f (s0 + (4 : Int32)) en))] [(.int (128 : Int32)), (.int (own_a f (s0 + (2 : Int32)) en)), (.int (((own_a f s0 en) - (128 : Int32)) + (((own_a f (s0 + (1 : Int32)) en) - (128 : Int32)) * (128 : Int32))))])
                        refine own_go (fun _ k => XS.isub X115.here hx rfl (hb hby d1_279) rfl k) ?_
                        show own_Go _ _ _ _ T115 (mkF m 280 #[.val (.ref a1), .val (.int s0), .val (.int en), .val (.int (own_a f s0 en)), .val (.int (own_a f (s0 + (1 : Int32)) en)), .val (.int (own_a f (s0 + (2 : Int32)) en)), .val (.int (own_a f (s0 + (3 : Int32)) en)), .val (.int (own_a f (s0 + (4 : Int32)) en))] [(.int ((own_a f (s0 + (2 : Int32)) en) - (128 : Int32))), (.int (((own_a f s0 en) - (128 : Int32)) + (((own_a f (s0 + (1 : Int32)) en) - (128 : Int32)) * (128 : Int32))))])
                        refine own_go (fun _ k => XS.sipush X115.here hx rfl (hb hby d1_280) k) ?_
                        show own_Go _ _ _ _ T115 (mkF m 283 #[.val (.ref a1), .val (.int s0), .val (.int en), .val (.int (own_a f s0 en)), .val (.int (own_a f (s0 + (1 : Int32)) en)), .val (.int (own_a f (s0 + (2 : Int32)) en)), .val (.int (own_a f (s0 + (3 : Int32)) en)), .val (.int (own_a f (s0 + (4 : Int32)) en))] [(.int (16384 : Int32)), (.int ((own_a f (s0 + (2 : Int32)) en) - (128 : Int32))), (.int (((own_a f s0 en) - (128 : Int32)) + (((own_a f (s0 + (1 : Int32)) en) - (128 : Int32)) * (128 : Int32))))])
                        refine own_go (fun _ k => XS.imul X115.here hx rfl (hb hby d1_283) rfl k) ?_
                        show own_Go _ _ _ _ T115 (mkF m 284 #[.val (.ref a1), .val (.int s0), .val (.int en), .val (.int (own_a f s0 en)), .val (.int (own_a f (s0 + (1 : Int32)) en)), .val (.int (own_a f (s0 + (2 : Int32)) en)), .val (.int (own_a f (s0 + (3 : Int32)) en)), .val (.int (own_a f (s0 + (4 : Int32)) en))] [(.int (((own_a f (s0 + (2 : Int32)) en) - (128 : Int32)) * (16384 : Int32))), (.int (((own_a f s0 en) - (128 : Int32)) + (((own_a f (s0 + (1 : Int32)) en) - (128 : Int32)) * (128 : Int32))))])
                        refine own_go (fun _ k => XS.iadd X115.here hx rfl (hb hby d1_284) rfl k) ?_
                        show own_Go _ _ _ _ T115 (mkF m 285 #[.val (.ref a1), .val (.int s0), .val (.int en), .val (.int (own_a f s0 en)), .val (.int (own_a f (s0 + (1 : Int32)) en)), .val (.int (own_a f (s0 + (2 : Int32)) en)), .val (.int (own_a f (s0 + (3 : Int32)) en)), .val (.int (own_a f (s0 + (4 : Int32)) en))] [(.int ((((own_a f s0 en) - (128 : Int32)) + (((own_a f (s0 + (1 : Int32)) en) - (128 : Int32)) * (128 : Int32))) + (((own_a f (s0 + (2 : Int32)) en) - (128 : Int32)) * (16384 : Int32))))])
                        refine own_go (fun _ k => XS.iload X115.here hx rfl (hb hby d1_285) rfl k) ?_
                        show own_Go _ _ _ _ T115 (mkF m 287 #[.val (.ref a1), .val (.int s0), .val (.int en), .val (.int (own_a f s0 en)), .val (.int (own_a f (s0 + (1 : Int32)) en)), .val (.int (own_a f (s0 + (2 : Int32)) en)), .val (.int (own_a f (s0 + (3 : Int32)) en)), .val (.int (own_a f (s0 + (4 : Int32)) en))] [(.int (own_a f (s0 + (3 : Int32)) en)), (.int ((((own_a f s0 en) - (128 : Int32)) + (((own_a f (s0 + (1 : Int32)) en) - (128 : Int32)) * (128 : Int32))) + (((own_a f (s0 + (2 : Int32)) en) - (128 : Int32)) * (16384 : Int32))))])
                        refine own_go (fun _ k => XS.sipush X115.here hx rfl (hb hby d1_287) k) ?_
                        show own_Go _ _ _ _ T115 (mkF m 290 #[.val (.ref a1), .val (.int s0), .val (.int en), .val (.int (own_a f s0 en)), .val (.int (own_a f (s0 + (1 : Int32)) en)), .val (.int (own_a f (s0 + (2 : Int32)) en)), .val (.int (own_a f (s0 + (3 : Int32)) en)), .val (.int (own_a f (s0 + (4 : Int32)) en))] [(.int (128 : Int32)), (.int (own_a f (s0 + (3 : Int32)) en)), (.int ((((own_a f s0 en) - (128 : Int32)) + (((own_a f (s0 + (1 : Int32)) en) - (128 : Int32)) * (128 : Int32))) + (((own_a f (s0 + (2 : Int32)) en) - (128 : Int32)) * (16384 : Int32))))])
                        refine own_go (fun _ k => XS.isub X115.here hx rfl (hb hby d1_290) rfl k) ?_
                        show own_Go _ _ _ _ T115 (mkF m 291 #[.val (.ref a1), .val (.int s0), .val (.int en), .val (.int (own_a f s0 en)), .val (.int (own_a f (s0 + (1 : Int32)) en)), .val (.int (own_a f (s0 + (2 : Int32)) en)), .val (.int (own_a f (s0 + (3 : Int32)) en)), .val (.int (own_a f (s0 + (4 : Int32)) en))] [(.int ((own_a f (s0 + (3 : Int32)) en) - (128 : Int32))), (.int ((((own_a f s0 en) - (128 : Int32)) + (((own_a f (s0 + (1 : Int32)) en) - (128 : Int32)) * (128 : Int32))) + (((own_a f (s0 + (2 : Int32)) en) - (128 : Int32)) * (16384 : Int32))))])
                        refine own_go (X115.ldcInt hx hown (mvT hZ (hw _ (List.mem_of_getElem? (i := 37) rfl))) (g := (mkF m 291 #[.val (.ref a1), .val (.int s0), .val (.int en), .val (.int (own_a f s0 en)), .val (.int (own_a f (s0 + (1 : Int32)) en)), .val (.int (own_a f (s0 + (2 : Int32)) en)), .val (.int (own_a f (s0 + (3 : Int32)) en)), .val (.int (own_a f (s0 + (4 : Int32)) en))] [(.int ((own_a f (s0 + (3 : Int32)) en) - (128 : Int32))), (.int ((((own_a f s0 en) - (128 : Int32)) + (((own_a f (s0 + (1 : Int32)) en) - (128 : Int32)) * (128 : Int32))) + (((own_a f (s0 + (2 : Int32)) en) - (128 : Int32)) * (16384 : Int32))))])) rfl (hb hby d1_291)) ?_
                        show own_Go _ _ _ _ T115 (mkF m 293 #[.val (.ref a1), .val (.int s0), .val (.int en), .val (.int (own_a f s0 en)), .val (.int (own_a f (s0 + (1 : Int32)) en)), .val (.int (own_a f (s0 + (2 : Int32)) en)), .val (.int (own_a f (s0 + (3 : Int32)) en)), .val (.int (own_a f (s0 + (4 : Int32)) en))] [(.int (2097152 : Int32)), (.int ((own_a f (s0 + (3 : Int32)) en) - (128 : Int32))), (.int ((((own_a f s0 en) - (128 : Int32)) + (((own_a f (s0 + (1 : Int32)) en) - (128 : Int32)) * (128 : Int32))) + (((own_a f (s0 + (2 : Int32)) en) - (128 : Int32)) * (16384 : Int32))))])
                        refine own_go (fun _ k => XS.imul X115.here hx rfl (hb hby d1_293) rfl k) ?_
                        show own_Go _ _ _ _ T115 (mkF m 294 #[.val (.ref a1), .val (.int s0), .val (.int en), .val (.int (own_a f s0 en)), .val (.int (own_a f (s0 + (1 : Int32)) en)), .val (.int (own_a f (s0 + (2 : Int32)) en)), .val (.int (own_a f (s0 + (3 : Int32)) en)), .val (.int (own_a f (s0 + (4 : Int32)) en))] [(.int (((own_a f (s0 + (3 : Int32)) en) - (128 : Int32)) * (2097152 : Int32))), (.int ((((own_a f s0 en) - (128 : Int32)) + (((own_a f (s0 + (1 : Int32)) en) - (128 : Int32)) * (128 : Int32))) + (((own_a f (s0 + (2 : Int32)) en) - (128 : Int32)) * (16384 : Int32))))])
                        refine own_go (fun _ k => XS.iadd X115.here hx rfl (hb hby d1_294) rfl k) ?_
                        show own_Go _ _ _ _ T115 (mkF m 295 #[.val (.ref a1), .val (.int s0), .val (.int en), .val (.int (own_a f s0 en)), .val (.int (own_a f (s0 + (1 : Int32)) en)), .val (.int (own_a f (s0 + (2 : Int32)) en)), .val (.int (own_a f (s0 + (3 : Int32)) en)), .val (.int (own_a f (s0 + (4 : Int32)) en))] [(.int (((((own_a f s0 en) - (128 : Int32)) + (((own_a f (s0 + (1 : Int32)) en) - (128 : Int32)) * (128 : Int32))) + (((own_a f (s0 + (2 : Int32)) en) - (128 : Int32)) * (16384 : Int32))) + (((own_a f (s0 + (3 : Int32)) en) - (128 : Int32)) * (2097152 : Int32))))])
                        refine own_go (fun _ k => XS.iload X115.here hx rfl (hb hby d1_295) rfl k) ?_
                        show own_Go _ _ _ _ T115 (mkF m 297 #[.val (.ref a1), .val (.int s0), .val (.int en), .val (.int (own_a f s0 en)), .val (.int (own_a f (s0 + (1 : Int32)) en)), .val (.int (own_a f (s0 + (2 : Int32)) en)), .val (.int (own_a f (s0 + (3 : Int32)) en)), .val (.int (own_a f (s0 + (4 : Int32)) en))] [(.int (own_a f (s0 + (4 : Int32)) en)), (.int (((((own_a f s0 en) - (128 : Int32)) + (((own_a f (s0 + (1 : Int32)) en) - (128 : Int32)) * (128 : Int32))) + (((own_a f (s0 + (2 : Int32)) en) - (128 : Int32)) * (16384 : Int32))) + (((own_a f (s0 + (3 : Int32)) en) - (128 : Int32)) * (2097152 : Int32))))])
                        refine own_go (X115.ldcInt hx hown (mvT hZ (hw _ (List.mem_of_getElem? (i := 38) rfl))) (g := (mkF m 297 #[.val (.ref a1), .val (.int s0), .val (.int en), .val (.int (own_a f s0 en)), .val (.int (own_a f (s0 + (1 : Int32)) en)), .val (.int (own_a f (s0 + (2 : Int32)) en)), .val (.int (own_a f (s0 + (3 : Int32)) en)), .val (.int (own_a f (s0 + (4 : Int32)) en))] [(.int (own_a f (s0 + (4 : Int32)) en)), (.int (((((own_a f s0 en) - (128 : Int32)) + (((own_a f (s0 + (1 : Int32)) en) - (128 : Int32)) * (128 : Int32))) + (((own_a f (s0 + (2 : Int32)) en) - (128 : Int32)) * (16384 : Int32))) + (((own_a f (s0 + (3 : Int32)) en) - (128 : Int32)) * (2097152 : Int32))))])) rfl (hb hby d1_297)) ?_
                        show own_Go _ _ _ _ T115 (mkF m 299 #[.val (.ref a1), .val (.int s0), .val (.int en), .val (.int (own_a f s0 en)), .val (.int (own_a f (s0 + (1 : Int32)) en)), .val (.int (own_a f (s0 + (2 : Int32)) en)), .val (.int (own_a f (s0 + (3 : Int32)) en)), .val (.int (own_a f (s0 + (4 : Int32)) en))] [(.int (268435456 : Int32)), (.int (own_a f (s0 + (4 : Int32)) en)), (.int (((((own_a f s0 en) - (128 : Int32)) + (((own_a f (s0 + (1 : Int32)) en) - (128 : Int32)) * (128 : Int32))) + (((own_a f (s0 + (2 : Int32)) en) - (128 : Int32)) * (16384 : Int32))) + (((own_a f (s0 + (3 : Int32)) en) - (128 : Int32)) * (2097152 : Int32))))])
                        refine own_go (fun _ k => XS.imul X115.here hx rfl (hb hby d1_299) rfl k) ?_
                        show own_Go _ _ _ _ T115 (mkF m 300 #[.val (.ref a1), .val (.int s0), .val (.int en), .val (.int (own_a f s0 en)), .val (.int (own_a f (s0 + (1 : Int32)) en)), .val (.int (own_a f (s0 + (2 : Int32)) en)), .val (.int (own_a f (s0 + (3 : Int32)) en)), .val (.int (own_a f (s0 + (4 : Int32)) en))] [(.int ((own_a f (s0 + (4 : Int32)) en) * (268435456 : Int32))), (.int (((((own_a f s0 en) - (128 : Int32)) + (((own_a f (s0 + (1 : Int32)) en) - (128 : Int32)) * (128 : Int32))) + (((own_a f (s0 + (2 : Int32)) en) - (128 : Int32)) * (16384 : Int32))) + (((own_a f (s0 + (3 : Int32)) en) - (128 : Int32)) * (2097152 : Int32))))])
                        refine own_go (fun _ k => XS.iadd X115.here hx rfl (hb hby d1_300) rfl k) ?_
                        show own_Go _ _ _ _ T115 (mkF m 301 #[.val (.ref a1), .val (.int s0), .val (.int en), .val (.int (own_a f s0 en)), .val (.int (own_a f (s0 + (1 : Int32)) en)), .val (.int (own_a f (s0 + (2 : Int32)) en)), .val (.int (own_a f (s0 + (3 : Int32)) en)), .val (.int (own_a f (s0 + (4 : Int32)) en))] [(.int ((((((own_a f s0 en) - (128 : Int32)) + (((own_a f (s0 + (1 : Int32)) en) - (128 : Int32)) * (128 : Int32))) + (((own_a f (s0 + (2 : Int32)) en) - (128 : Int32)) * (16384 : Int32))) + (((own_a f (s0 + (3 : Int32)) en) - (128 : Int32)) * (2097152 : Int32))) + ((own_a f (s0 + (4 : Int32)) en) * (268435456 : Int32))))])
                        refine own_go (fun _ k => XS.iconst X115.here hx rfl (hb hby d1_301) k) ?_
                        show own_Go _ _ _ _ T115 (mkF m 302 #[.val (.ref a1), .val (.int s0), .val (.int en), .val (.int (own_a f s0 en)), .val (.int (own_a f (s0 + (1 : Int32)) en)), .val (.int (own_a f (s0 + (2 : Int32)) en)), .val (.int (own_a f (s0 + (3 : Int32)) en)), .val (.int (own_a f (s0 + (4 : Int32)) en))] [(.int (5 : Int32)), (.int ((((((own_a f s0 en) - (128 : Int32)) + (((own_a f (s0 + (1 : Int32)) en) - (128 : Int32)) * (128 : Int32))) + (((own_a f (s0 + (2 : Int32)) en) - (128 : Int32)) * (16384 : Int32))) + (((own_a f (s0 + (3 : Int32)) en) - (128 : Int32)) * (2097152 : Int32))) + ((own_a f (s0 + (4 : Int32)) en) * (268435456 : Int32))))])
                        obtain ⟨v118, T118, h118, L118, X118, e118, hQ118, st118⟩ := own_callS X115 hx hZ hown (hw _ (List.mem_of_getElem? (i := 8) rfl)) (hw _ (List.mem_of_getElem? (i := 9) rfl)) (hw _ (List.mem_of_getElem? (i := 3) rfl)) (hw _ (List.mem_of_getElem? (i := 10) rfl)) (by decide) e115 (argsL := [(.int ((((((own_a f s0 en) - (128 : Int32)) + (((own_a f (s0 + (1 : Int32)) en) - (128 : Int32)) * (128 : Int32))) + (((own_a f (s0 + (2 : Int32)) en) - (128 : Int32)) * (16384 : Int32))) + (((own_a f (s0 + (3 : Int32)) en) - (128 : Int32)) * (2097152 : Int32))) + ((own_a f (s0 + (4 : Int32)) en) * (268435456 : Int32)))), (.int (5 : Int32))]) (rest := []) (rm4 l Z a0 hw [] ((((((own_a f s0 en) - (128 : Int32)) + (((own_a f (s0 + (1 : Int32)) en) - (128 : Int32)) * (128 : Int32))) + (((own_a f (s0 + (2 : Int32)) en) - (128 : Int32)) * (16384 : Int32))) + (((own_a f (s0 + (3 : Int32)) en) - (128 : Int32)) * (2097152 : Int32))) + ((own_a f (s0 + (4 : Int32)) en) * (268435456 : Int32))) (5 : Int32) h0 n0 Z0) 0 (by decide) (by decide) (by decide) (by decide) (g := (mkF m 302 #[.val (.ref a1), .val (.int s0), .val (.int en), .val (.int (own_a f s0 en)), .val (.int (own_a f (s0 + (1 : Int32)) en)), .val (.int (own_a f (s0 + (2 : Int32)) en)), .val (.int (own_a f (s0 + (3 : Int32)) en)), .val (.int (own_a f (s0 + (4 : Int32)) en))] [(.int (5 : Int32)), (.int ((((((own_a f s0 en) - (128 : Int32)) + (((own_a f (s0 + (1 : Int32)) en) - (128 : Int32)) * (128 : Int32))) + (((own_a f (s0 + (2 : Int32)) en) - (128 : Int32)) * (16384 : Int32))) + (((own_a f (s0 + (3 : Int32)) en) - (128 : Int32)) * (2097152 : Int32))) + ((own_a f (s0 + (4 : Int32)) en) * (268435456 : Int32))))])) rfl (by rw [hml]; rfl) (lenOf pd1 rfl) rfl (Nat.le_of_eq rfl) (hb hby d1_302)
                        obtain ⟨rfl, N118q, rfl⟩ := hQ118
                        refine own_go (st118) ?_
                        have N118 := Fr.app N115 N118q
                        show own_Go _ _ _ _ T118 (mkF m 305 #[.val (.ref a1), .val (.int s0), .val (.int en), .val (.int (own_a f s0 en)), .val (.int (own_a f (s0 + (1 : Int32)) en)), .val (.int (own_a f (s0 + (2 : Int32)) en)), .val (.int (own_a f (s0 + (3 : Int32)) en)), .val (.int (own_a f (s0 + (4 : Int32)) en))] [(.long (own_pack ((((((own_a f s0 en) - (128 : Int32)) + (((own_a f (s0 + (1 : Int32)) en) - (128 : Int32)) * (128 : Int32))) + (((own_a f (s0 + (2 : Int32)) en) - (128 : Int32)) * (16384 : Int32))) + (((own_a f (s0 + (3 : Int32)) en) - (128 : Int32)) * (2097152 : Int32))) + ((own_a f (s0 + (4 : Int32)) en) * (268435456 : Int32))) (5 : Int32)))])
                        have hsp : own_spec f s0 en = (((((((own_a f s0 en) - (128 : Int32)) + (((own_a f (s0 + (1 : Int32)) en) - (128 : Int32)) * (128 : Int32))) + (((own_a f (s0 + (2 : Int32)) en) - (128 : Int32)) * (16384 : Int32))) + (((own_a f (s0 + (3 : Int32)) en) - (128 : Int32)) * (2097152 : Int32))) + ((own_a f (s0 + (4 : Int32)) en) * (268435456 : Int32))), (5 : Int32)) := by rw [own_spec, if_neg hn0, if_neg hm0, if_neg hn1, if_neg hm1, if_neg hn2, if_neg hm2, if_neg hn3, if_neg hm3, if_neg hn4, if_pos hm4, if_neg h7]
                        exact own_retJ X118 hx hret hlk (hb hby d1_305) (by decide) (by decide) (by first | exact ⟨by rw [hsp], N118, rfl⟩ | (rw [e118]; exact ⟨by rw [hsp], N118, rfl⟩))
                    · skip
                      refine own_go (fun _ k => XS.icmpNo X115.here hx rfl (hb hby d1_236) rfl (flt hm4).1 k) ?_
                      show own_Go _ _ _ _ T115 (mkF m 239 #[.val (.ref a1), .val (.int s0), .val (.int en), .val (.int (own_a f s0 en)), .val (.int (own_a f (s0 + (1 : Int32)) en)), .val (.int (own_a f (s0 + (2 : Int32)) en)), .val (.int (own_a f (s0 + (3 : Int32)) en)), .val (.int (own_a f (s0 + (4 : Int32)) en))] [])
                      refine own_go (fun _ k => XS.iconst X115.here hx rfl (hb hby d1_239) k) ?_
                      show own_Go _ _ _ _ T115 (mkF m 240 #[.val (.ref a1), .val (.int s0), .val (.int en), .val (.int (own_a f s0 en)), .val (.int (own_a f (s0 + (1 : Int32)) en)), .val (.int (own_a f (s0 + (2 : Int32)) en)), .val (.int (own_a f (s0 + (3 : Int32)) en)), .val (.int (own_a f (s0 + (4 : Int32)) en))] [(.int (-1 : Int32))])
                      refine own_go (fun _ k => XS.iconst X115.here hx rfl (hb hby d1_240) k) ?_
                      show own_Go _ _ _ _ T115 (mkF m 241 #[.val (.ref a1), .val (.int s0), .val (.int en), .val (.int (own_a f s0 en)), .val (.int (own_a f (s0 + (1 : Int32)) en)), .val (.int (own_a f (s0 + (2 : Int32)) en)), .val (.int (own_a f (s0 + (3 : Int32)) en)), .val (.int (own_a f (s0 + (4 : Int32)) en))] [(.int (5 : Int32)), (.int (-1 : Int32))])
                      obtain ⟨v119, T119, h119, L119, X119, e119, hQ119, st119⟩ := own_callS X115 hx hZ hown (hw _ (List.mem_of_getElem? (i := 8) rfl)) (hw _ (List.mem_of_getElem? (i := 9) rfl)) (hw _ (List.mem_of_getElem? (i := 3) rfl)) (hw _ (List.mem_of_getElem? (i := 10) rfl)) (by decide) e115 (argsL := [(.int (-1 : Int32)), (.int (5 : Int32))]) (rest := []) (rm4 l Z a0 hw [] (-1 : Int32) (5 : Int32) h0 n0 Z0) 0 (by decide) (by decide) (by decide) (by decide) (g := (mkF m 241 #[.val (.ref a1), .val (.int s0), .val (.int en), .val (.int (own_a f s0 en)), .val (.int (own_a f (s0 + (1 : Int32)) en)), .val (.int (own_a f (s0 + (2 : Int32)) en)), .val (.int (own_a f (s0 + (3 : Int32)) en)), .val (.int (own_a f (s0 + (4 : Int32)) en))] [(.int (5 : Int32)), (.int (-1 : Int32))])) rfl (by rw [hml]; rfl) (lenOf pd1 rfl) rfl (Nat.le_of_eq rfl) (hb hby d1_241)
                      obtain ⟨rfl, N119q, rfl⟩ := hQ119
                      refine own_go (st119) ?_
                      have N119 := Fr.app N115 N119q
                      show own_Go _ _ _ _ T119 (mkF m 244 #[.val (.ref a1), .val (.int s0), .val (.int en), .val (.int (own_a f s0 en)), .val (.int (own_a f (s0 + (1 : Int32)) en)), .val (.int (own_a f (s0 + (2 : Int32)) en)), .val (.int (own_a f (s0 + (3 : Int32)) en)), .val (.int (own_a f (s0 + (4 : Int32)) en))] [(.long (own_pack (-1 : Int32) (5 : Int32)))])
                      have hsp : own_spec f s0 en = ((-1 : Int32), (5 : Int32)) := by rw [own_spec, if_neg hn0, if_neg hm0, if_neg hn1, if_neg hm1, if_neg hn2, if_neg hm2, if_neg hn3, if_neg hm3, if_neg hn4, if_neg hm4]
                      exact own_retJ X119 hx hret hlk (hb hby d1_244) (by decide) (by decide) (by first | exact ⟨by rw [hsp], N119, rfl⟩ | (rw [e119]; exact ⟨by rw [hsp], N119, rfl⟩))
set_option maxRecDepth 65536 in
set_option maxHeartbeats 40000000 in
theorem rm0 (l : Launch) (Z : State) (a0 : Array Value) (hw : ∀ d ∈ tables_1, d.before a0 Z = true) (ws : List Jvm.Cond) (p1 p2 p3 : Int32) (h0 : Heap) (n0 : Nat) (Z0 : n0 ≤ h0.size) :
    own_Met l x code maxLocals ret ws room_1 Z #[(.int p1), (.int p2), (.int p3)] h0 (fun v h L => v = some (.int 1) ∧ Fr n0 L) := by
  refine own_body (plainFor_of_name (by first | (simp [plainName, overriddenIn]; done) | decide +kernel)) ?_
  intro p e s m below meth c s₁ X0 hx hby hml hown hnm hret hlk hZ e0
  have N0 := Fr.nil n0
  refine own_cast (show entryFrame m #[(.int p1), (.int p2), (.int p3)] maxLocals = mkF m 0 #[.val (.int p1), .val (.int p2), .val (.int p3), .unset, .unset, .unset, .unset, .unset, .unset, .unset, .unset, .unset, .unset, .unset, .unset, .unset, .unset] [] from by first | (simp [entryFrame, mkF, argsToLocals, Value.category, maxLocals]; done) | rfl) ?_
  show own_Go _ _ _ _ s₁ (mkF m 0 #[.val (.int p1), .val (.int p2), .val (.int p3), .unset, .unset, .unset, .unset, .unset, .unset, .unset, .unset, .unset, .unset, .unset, .unset, .unset, .unset] [])
  refine own_go (fun _ k => XS.bipush X0.here hx rfl (hb hby at_0) k) ?_
  show own_Go _ _ _ _ s₁ (mkF m 2 #[.val (.int p1), .val (.int p2), .val (.int p3), .unset, .unset, .unset, .unset, .unset, .unset, .unset, .unset, .unset, .unset, .unset, .unset, .unset, .unset] [(.int (7 : Int32))])
  obtain ⟨T120, h120, k120, X120, e120, E120, A120, st120⟩ := newP X0 hx hZ (hw _ (List.mem_of_getElem? (i := 0) rfl)) e0 (g := (mkF m 2 #[.val (.int p1), .val (.int p2), .val (.int p3), .unset, .unset, .unset, .unset, .unset, .unset, .unset, .unset, .unset, .unset, .unset, .unset, .unset, .unset] [(.int (7 : Int32))])) rfl (hb hby at_2) rfl (by decide) (cap := 7) (by decide) (by decide) (by decide) (by decide)
  obtain ⟨b120, g120⟩ : ∃ z, z = h0.size := ⟨_, rfl⟩
  rw [← g120] at A120 st120
  refine own_go (st120) ?_
  have g_b120 : n0 ≤ b120 := Nat.le_trans Z0 (Nat.le_of_eq g120.symm)
  have V120 : Arv Z h120 b120 k120 .byte (7 : Int32) [(.int (0 : Int32)), (.int (0 : Int32)), (.int (0 : Int32)), (.int (0 : Int32)), (.int (0 : Int32)), (.int (0 : Int32)), (.int (0 : Int32))] (.int (0 : Int32)) := (Arv.new A120 (by decide)).pad (pad_rep [] (.int (0 : Int32)) 7)
  show own_Go _ _ _ _ T120 (mkF m 4 #[.val (.int p1), .val (.int p2), .val (.int p3), .unset, .unset, .unset, .unset, .unset, .unset, .unset, .unset, .unset, .unset, .unset, .unset, .unset, .unset] [(.ref b120)])
  refine own_go (fun _ k => XS.astoreN X120.here hx rfl (hb hby at_4) rfl rfl (l' := #[.val (.int p1), .val (.int p2), .val (.int p3), .val (.ref b120), .unset, .unset, .unset, .unset, .unset, .unset, .unset, .unset, .unset, .unset, .unset, .unset, .unset]) rfl k) ?_
  show own_Go _ _ _ _ T120 (mkF m 5 #[.val (.int p1), .val (.int p2), .val (.int p3), .val (.ref b120), .unset, .unset, .unset, .unset, .unset, .unset, .unset, .unset, .unset, .unset, .unset, .unset, .unset] [])
  refine own_go (fun _ k => XS.aloadN X120.here hx rfl (hb hby at_5) rfl rfl k) ?_
  show own_Go _ _ _ _ T120 (mkF m 6 #[.val (.int p1), .val (.int p2), .val (.int p3), .val (.ref b120), .unset, .unset, .unset, .unset, .unset, .unset, .unset, .unset, .unset, .unset, .unset, .unset, .unset] [(.ref b120)])
  refine own_go (fun _ k => XS.iconst X120.here hx rfl (hb hby at_6) k) ?_
  show own_Go _ _ _ _ T120 (mkF m 7 #[.val (.int p1), .val (.int p2), .val (.int p3), .val (.ref b120), .unset, .unset, .unset, .unset, .unset, .unset, .unset, .unset, .unset, .unset, .unset, .unset, .unset] [(.int (0 : Int32)), (.ref b120)])
  refine own_go (fun _ k => XS.iloadN X120.here hx rfl (hb hby at_7) rfl k) ?_
  show own_Go _ _ _ _ T120 (mkF m 8 #[.val (.int p1), .val (.int p2), .val (.int p3), .val (.ref b120), .unset, .unset, .unset, .unset, .unset, .unset, .unset, .unset, .unset, .unset, .unset, .unset, .unset] [(.int p1), (.int (0 : Int32)), (.ref b120)])
  refine own_go (fun _ k => XS.i2b X120.here hx rfl (hb hby at_8) rfl k) ?_
  show own_Go _ _ _ _ T120 (mkF m 9 #[.val (.int p1), .val (.int p2), .val (.int p3), .val (.ref b120), .unset, .unset, .unset, .unset, .unset, .unset, .unset, .unset, .unset, .unset, .unset, .unset, .unset] [(.int (p1).toInt8.toInt32), (.int (0 : Int32)), (.ref b120)])
  obtain ⟨cl121, Ar121, q121, S121, M121, H121, G121⟩ := V120
  have hin121 : ¬ ((0 : Int32) < 0 ∨ cl121.slots.size ≤ ((0 : Int32)).toNatClampNeg) := inb_of S121 ⟨by decide, by decide⟩
  obtain ⟨T121, h121, X121, e121, W121, st121⟩ := stB X120 hx hZ e120 Ar121 (j := (0 : Int32)) hin121 (g := (mkF m 9 #[.val (.int p1), .val (.int p2), .val (.int p3), .val (.ref b120), .unset, .unset, .unset, .unset, .unset, .unset, .unset, .unset, .unset, .unset, .unset, .unset, .unset] [(.int (p1).toInt8.toInt32), (.int (0 : Int32)), (.ref b120)])) rfl rfl (hb hby at_9)
  refine own_go (st121) ?_
  have V121 : Arv Z h121 b120 k120 .byte (7 : Int32) [(.int (nar .byte (p1).toInt8.toInt32)), (.int (0 : Int32)), (.int (0 : Int32)), (.int (0 : Int32)), (.int (0 : Int32)), (.int (0 : Int32)), (.int (0 : Int32))] (.int (0 : Int32)) := Arv.set Ar121 q121 S121 M121 H121 G121 (fits_nar_byte _) W121 0 rfl (Nat.le_of_ble_eq_true rfl)
  have N121 := Fr.snoc X121 N0 g_b120
  show own_Go _ _ _ _ T121 (mkF m 10 #[.val (.int p1), .val (.int p2), .val (.int p3), .val (.ref b120), .unset, .unset, .unset, .unset, .unset, .unset, .unset, .unset, .unset, .unset, .unset, .unset, .unset] [])
  refine own_go (fun _ k => XS.aloadN X121.here hx rfl (hb hby at_10) rfl rfl k) ?_
  show own_Go _ _ _ _ T121 (mkF m 11 #[.val (.int p1), .val (.int p2), .val (.int p3), .val (.ref b120), .unset, .unset, .unset, .unset, .unset, .unset, .unset, .unset, .unset, .unset, .unset, .unset, .unset] [(.ref b120)])
  refine own_go (fun _ k => XS.iconst X121.here hx rfl (hb hby at_11) k) ?_
  show own_Go _ _ _ _ T121 (mkF m 12 #[.val (.int p1), .val (.int p2), .val (.int p3), .val (.ref b120), .unset, .unset, .unset, .unset, .unset, .unset, .unset, .unset, .unset, .unset, .unset, .unset, .unset] [(.int (1 : Int32)), (.ref b120)])
  refine own_go (fun _ k => XS.iloadN X121.here hx rfl (hb hby at_12) rfl k) ?_
  show own_Go _ _ _ _ T121 (mkF m 13 #[.val (.int p1), .val (.int p2), .val (.int p3), .val (.ref b120), .unset, .unset, .unset, .unset, .unset, .unset, .unset, .unset, .unset, .unset, .unset, .unset, .unset] [(.int p1), (.int (1 : Int32)), (.ref b120)])
  refine own_go (fun _ k => XS.bipush X121.here hx rfl (hb hby at_13) k) ?_
  show own_Go _ _ _ _ T121 (mkF m 15 #[.val (.int p1), .val (.int p2), .val (.int p3), .val (.ref b120), .unset, .unset, .unset, .unset, .unset, .unset, .unset, .unset, .unset, .unset, .unset, .unset, .unset] [(.int (8 : Int32)), (.int p1), (.int (1 : Int32)), (.ref b120)])
  refine own_go (fun _ k => XS.iushr X121.here hx rfl (hb hby at_15) rfl k) ?_
  show own_Go _ _ _ _ T121 (mkF m 16 #[.val (.int p1), .val (.int p2), .val (.int p3), .val (.ref b120), .unset, .unset, .unset, .unset, .unset, .unset, .unset, .unset, .unset, .unset, .unset, .unset, .unset] [(.int ((p1).toUInt32 >>> ((8 : Int32) &&& 31).toUInt32).toInt32), (.int (1 : Int32)), (.ref b120)])
  refine own_go (fun _ k => XS.i2b X121.here hx rfl (hb hby at_16) rfl k) ?_
  show own_Go _ _ _ _ T121 (mkF m 17 #[.val (.int p1), .val (.int p2), .val (.int p3), .val (.ref b120), .unset, .unset, .unset, .unset, .unset, .unset, .unset, .unset, .unset, .unset, .unset, .unset, .unset] [(.int (((p1).toUInt32 >>> ((8 : Int32) &&& 31).toUInt32).toInt32).toInt8.toInt32), (.int (1 : Int32)), (.ref b120)])
  obtain ⟨cl122, Ar122, q122, S122, M122, H122, G122⟩ := V121
  have hin122 : ¬ ((1 : Int32) < 0 ∨ cl122.slots.size ≤ ((1 : Int32)).toNatClampNeg) := inb_of S122 ⟨by decide, by decide⟩
  obtain ⟨T122, h122, X122, e122, W122, st122⟩ := stB X121 hx hZ e121 Ar122 (j := (1 : Int32)) hin122 (g := (mkF m 17 #[.val (.int p1), .val (.int p2), .val (.int p3), .val (.ref b120), .unset, .unset, .unset, .unset, .unset, .unset, .unset, .unset, .unset, .unset, .unset, .unset, .unset] [(.int (((p1).toUInt32 >>> ((8 : Int32) &&& 31).toUInt32).toInt32).toInt8.toInt32), (.int (1 : Int32)), (.ref b120)])) rfl rfl (hb hby at_17)
  refine own_go (st122) ?_
  have V122 : Arv Z h122 b120 k120 .byte (7 : Int32) [(.int (nar .byte (p1).toInt8.toInt32)), (.int (nar .byte (((p1).toUInt32 >>> ((8 : Int32) &&& 31).toUInt32).toInt32).toInt8.toInt32)), (.int (0 : Int32)), (.int (0 : Int32)), (.int (0 : Int32)), (.int (0 : Int32)), (.int (0 : Int32))] (.int (0 : Int32)) := Arv.set Ar122 q122 S122 M122 H122 G122 (fits_nar_byte _) W122 1 rfl (Nat.le_of_ble_eq_true rfl)
  have N122 := Fr.snoc X122 N121 g_b120
  show own_Go _ _ _ _ T122 (mkF m 18 #[.val (.int p1), .val (.int p2), .val (.int p3), .val (.ref b120), .unset, .unset, .unset, .unset, .unset, .unset, .unset, .unset, .unset, .unset, .unset, .unset, .unset] [])
  refine own_go (fun _ k => XS.aloadN X122.here hx rfl (hb hby at_18) rfl rfl k) ?_
  show own_Go _ _ _ _ T122 (mkF m 19 #[.val (.int p1), .val (.int p2), .val (.int p3), .val (.ref b120), .unset, .unset, .unset, .unset, .unset, .unset, .unset, .unset, .unset, .unset, .unset, .unset, .unset] [(.ref b120)])
  refine own_go (fun _ k => XS.iconst X122.here hx rfl (hb hby at_19) k) ?_
  show own_Go _ _ _ _ T122 (mkF m 20 #[.val (.int p1), .val (.int p2), .val (.int p3), .val (.ref b120), .unset, .unset, .unset, .unset, .unset, .unset, .unset, .unset, .unset, .unset, .unset, .unset, .unset] [(.int (2 : Int32)), (.ref b120)])
  refine own_go (fun _ k => XS.iloadN X122.here hx rfl (hb hby at_20) rfl k) ?_
  show own_Go _ _ _ _ T122 (mkF m 21 #[.val (.int p1), .val (.int p2), .val (.int p3), .val (.ref b120), .unset, .unset, .unset, .unset, .unset, .unset, .unset, .unset, .unset, .unset, .unset, .unset, .unset] [(.int p1), (.int (2 : Int32)), (.ref b120)])
  refine own_go (fun _ k => XS.bipush X122.here hx rfl (hb hby at_21) k) ?_
  show own_Go _ _ _ _ T122 (mkF m 23 #[.val (.int p1), .val (.int p2), .val (.int p3), .val (.ref b120), .unset, .unset, .unset, .unset, .unset, .unset, .unset, .unset, .unset, .unset, .unset, .unset, .unset] [(.int (16 : Int32)), (.int p1), (.int (2 : Int32)), (.ref b120)])
  refine own_go (fun _ k => XS.iushr X122.here hx rfl (hb hby at_23) rfl k) ?_
  show own_Go _ _ _ _ T122 (mkF m 24 #[.val (.int p1), .val (.int p2), .val (.int p3), .val (.ref b120), .unset, .unset, .unset, .unset, .unset, .unset, .unset, .unset, .unset, .unset, .unset, .unset, .unset] [(.int ((p1).toUInt32 >>> ((16 : Int32) &&& 31).toUInt32).toInt32), (.int (2 : Int32)), (.ref b120)])
  refine own_go (fun _ k => XS.i2b X122.here hx rfl (hb hby at_24) rfl k) ?_
  show own_Go _ _ _ _ T122 (mkF m 25 #[.val (.int p1), .val (.int p2), .val (.int p3), .val (.ref b120), .unset, .unset, .unset, .unset, .unset, .unset, .unset, .unset, .unset, .unset, .unset, .unset, .unset] [(.int (((p1).toUInt32 >>> ((16 : Int32) &&& 31).toUInt32).toInt32).toInt8.toInt32), (.int (2 : Int32)), (.ref b120)])
  obtain ⟨cl123, Ar123, q123, S123, M123, H123, G123⟩ := V122
  have hin123 : ¬ ((2 : Int32) < 0 ∨ cl123.slots.size ≤ ((2 : Int32)).toNatClampNeg) := inb_of S123 ⟨by decide, by decide⟩
  obtain ⟨T123, h123, X123, e123, W123, st123⟩ := stB X122 hx hZ e122 Ar123 (j := (2 : Int32)) hin123 (g := (mkF m 25 #[.val (.int p1), .val (.int p2), .val (.int p3), .val (.ref b120), .unset, .unset, .unset, .unset, .unset, .unset, .unset, .unset, .unset, .unset, .unset, .unset, .unset] [(.int (((p1).toUInt32 >>> ((16 : Int32) &&& 31).toUInt32).toInt32).toInt8.toInt32), (.int (2 : Int32)), (.ref b120)])) rfl rfl (hb hby at_25)
  refine own_go (st123) ?_
  have V123 : Arv Z h123 b120 k120 .byte (7 : Int32) [(.int (nar .byte (p1).toInt8.toInt32)), (.int (nar .byte (((p1).toUInt32 >>> ((8 : Int32) &&& 31).toUInt32).toInt32).toInt8.toInt32)), (.int (nar .byte (((p1).toUInt32 >>> ((16 : Int32) &&& 31).toUInt32).toInt32).toInt8.toInt32)), (.int (0 : Int32)), (.int (0 : Int32)), (.int (0 : Int32)), (.int (0 : Int32))] (.int (0 : Int32)) := Arv.set Ar123 q123 S123 M123 H123 G123 (fits_nar_byte _) W123 2 rfl (Nat.le_of_ble_eq_true rfl)
  have N123 := Fr.snoc X123 N122 g_b120
  show own_Go _ _ _ _ T123 (mkF m 26 #[.val (.int p1), .val (.int p2), .val (.int p3), .val (.ref b120), .unset, .unset, .unset, .unset, .unset, .unset, .unset, .unset, .unset, .unset, .unset, .unset, .unset] [])
  refine own_go (fun _ k => XS.aloadN X123.here hx rfl (hb hby at_26) rfl rfl k) ?_
  show own_Go _ _ _ _ T123 (mkF m 27 #[.val (.int p1), .val (.int p2), .val (.int p3), .val (.ref b120), .unset, .unset, .unset, .unset, .unset, .unset, .unset, .unset, .unset, .unset, .unset, .unset, .unset] [(.ref b120)])
  refine own_go (fun _ k => XS.iconst X123.here hx rfl (hb hby at_27) k) ?_
  show own_Go _ _ _ _ T123 (mkF m 28 #[.val (.int p1), .val (.int p2), .val (.int p3), .val (.ref b120), .unset, .unset, .unset, .unset, .unset, .unset, .unset, .unset, .unset, .unset, .unset, .unset, .unset] [(.int (3 : Int32)), (.ref b120)])
  refine own_go (fun _ k => XS.iloadN X123.here hx rfl (hb hby at_28) rfl k) ?_
  show own_Go _ _ _ _ T123 (mkF m 29 #[.val (.int p1), .val (.int p2), .val (.int p3), .val (.ref b120), .unset, .unset, .unset, .unset, .unset, .unset, .unset, .unset, .unset, .unset, .unset, .unset, .unset] [(.int p1), (.int (3 : Int32)), (.ref b120)])
  refine own_go (fun _ k => XS.bipush X123.here hx rfl (hb hby at_29) k) ?_
  show own_Go _ _ _ _ T123 (mkF m 31 #[.val (.int p1), .val (.int p2), .val (.int p3), .val (.ref b120), .unset, .unset, .unset, .unset, .unset, .unset, .unset, .unset, .unset, .unset, .unset, .unset, .unset] [(.int (24 : Int32)), (.int p1), (.int (3 : Int32)), (.ref b120)])
  refine own_go (fun _ k => XS.iushr X123.here hx rfl (hb hby at_31) rfl k) ?_
  show own_Go _ _ _ _ T123 (mkF m 32 #[.val (.int p1), .val (.int p2), .val (.int p3), .val (.ref b120), .unset, .unset, .unset, .unset, .unset, .unset, .unset, .unset, .unset, .unset, .unset, .unset, .unset] [(.int ((p1).toUInt32 >>> ((24 : Int32) &&& 31).toUInt32).toInt32), (.int (3 : Int32)), (.ref b120)])
  refine own_go (fun _ k => XS.i2b X123.here hx rfl (hb hby at_32) rfl k) ?_
  show own_Go _ _ _ _ T123 (mkF m 33 #[.val (.int p1), .val (.int p2), .val (.int p3), .val (.ref b120), .unset, .unset, .unset, .unset, .unset, .unset, .unset, .unset, .unset, .unset, .unset, .unset, .unset] [(.int (((p1).toUInt32 >>> ((24 : Int32) &&& 31).toUInt32).toInt32).toInt8.toInt32), (.int (3 : Int32)), (.ref b120)])
  obtain ⟨cl124, Ar124, q124, S124, M124, H124, G124⟩ := V123
  have hin124 : ¬ ((3 : Int32) < 0 ∨ cl124.slots.size ≤ ((3 : Int32)).toNatClampNeg) := inb_of S124 ⟨by decide, by decide⟩
  obtain ⟨T124, h124, X124, e124, W124, st124⟩ := stB X123 hx hZ e123 Ar124 (j := (3 : Int32)) hin124 (g := (mkF m 33 #[.val (.int p1), .val (.int p2), .val (.int p3), .val (.ref b120), .unset, .unset, .unset, .unset, .unset, .unset, .unset, .unset, .unset, .unset, .unset, .unset, .unset] [(.int (((p1).toUInt32 >>> ((24 : Int32) &&& 31).toUInt32).toInt32).toInt8.toInt32), (.int (3 : Int32)), (.ref b120)])) rfl rfl (hb hby at_33)
  refine own_go (st124) ?_
  have V124 : Arv Z h124 b120 k120 .byte (7 : Int32) [(.int (nar .byte (p1).toInt8.toInt32)), (.int (nar .byte (((p1).toUInt32 >>> ((8 : Int32) &&& 31).toUInt32).toInt32).toInt8.toInt32)), (.int (nar .byte (((p1).toUInt32 >>> ((16 : Int32) &&& 31).toUInt32).toInt32).toInt8.toInt32)), (.int (nar .byte (((p1).toUInt32 >>> ((24 : Int32) &&& 31).toUInt32).toInt32).toInt8.toInt32)), (.int (0 : Int32)), (.int (0 : Int32)), (.int (0 : Int32))] (.int (0 : Int32)) := Arv.set Ar124 q124 S124 M124 H124 G124 (fits_nar_byte _) W124 3 rfl (Nat.le_of_ble_eq_true rfl)
  have N124 := Fr.snoc X124 N123 g_b120
  show own_Go _ _ _ _ T124 (mkF m 34 #[.val (.int p1), .val (.int p2), .val (.int p3), .val (.ref b120), .unset, .unset, .unset, .unset, .unset, .unset, .unset, .unset, .unset, .unset, .unset, .unset, .unset] [])
  refine own_go (fun _ k => XS.aloadN X124.here hx rfl (hb hby at_34) rfl rfl k) ?_
  show own_Go _ _ _ _ T124 (mkF m 35 #[.val (.int p1), .val (.int p2), .val (.int p3), .val (.ref b120), .unset, .unset, .unset, .unset, .unset, .unset, .unset, .unset, .unset, .unset, .unset, .unset, .unset] [(.ref b120)])
  refine own_go (fun _ k => XS.iconst X124.here hx rfl (hb hby at_35) k) ?_
  show own_Go _ _ _ _ T124 (mkF m 36 #[.val (.int p1), .val (.int p2), .val (.int p3), .val (.ref b120), .unset, .unset, .unset, .unset, .unset, .unset, .unset, .unset, .unset, .unset, .unset, .unset, .unset] [(.int (4 : Int32)), (.ref b120)])
  refine own_go (fun _ k => XS.iloadN X124.here hx rfl (hb hby at_36) rfl k) ?_
  show own_Go _ _ _ _ T124 (mkF m 37 #[.val (.int p1), .val (.int p2), .val (.int p3), .val (.ref b120), .unset, .unset, .unset, .unset, .unset, .unset, .unset, .unset, .unset, .unset, .unset, .unset, .unset] [(.int p2), (.int (4 : Int32)), (.ref b120)])
  refine own_go (fun _ k => XS.i2b X124.here hx rfl (hb hby at_37) rfl k) ?_
  show own_Go _ _ _ _ T124 (mkF m 38 #[.val (.int p1), .val (.int p2), .val (.int p3), .val (.ref b120), .unset, .unset, .unset, .unset, .unset, .unset, .unset, .unset, .unset, .unset, .unset, .unset, .unset] [(.int (p2).toInt8.toInt32), (.int (4 : Int32)), (.ref b120)])
  obtain ⟨cl125, Ar125, q125, S125, M125, H125, G125⟩ := V124
  have hin125 : ¬ ((4 : Int32) < 0 ∨ cl125.slots.size ≤ ((4 : Int32)).toNatClampNeg) := inb_of S125 ⟨by decide, by decide⟩
  obtain ⟨T125, h125, X125, e125, W125, st125⟩ := stB X124 hx hZ e124 Ar125 (j := (4 : Int32)) hin125 (g := (mkF m 38 #[.val (.int p1), .val (.int p2), .val (.int p3), .val (.ref b120), .unset, .unset, .unset, .unset, .unset, .unset, .unset, .unset, .unset, .unset, .unset, .unset, .unset] [(.int (p2).toInt8.toInt32), (.int (4 : Int32)), (.ref b120)])) rfl rfl (hb hby at_38)
  refine own_go (st125) ?_
  have V125 : Arv Z h125 b120 k120 .byte (7 : Int32) [(.int (nar .byte (p1).toInt8.toInt32)), (.int (nar .byte (((p1).toUInt32 >>> ((8 : Int32) &&& 31).toUInt32).toInt32).toInt8.toInt32)), (.int (nar .byte (((p1).toUInt32 >>> ((16 : Int32) &&& 31).toUInt32).toInt32).toInt8.toInt32)), (.int (nar .byte (((p1).toUInt32 >>> ((24 : Int32) &&& 31).toUInt32).toInt32).toInt8.toInt32)), (.int (nar .byte (p2).toInt8.toInt32)), (.int (0 : Int32)), (.int (0 : Int32))] (.int (0 : Int32)) := Arv.set Ar125 q125 S125 M125 H125 G125 (fits_nar_byte _) W125 4 rfl (Nat.le_of_ble_eq_true rfl)
  have N125 := Fr.snoc X125 N124 g_b120
  show own_Go _ _ _ _ T125 (mkF m 39 #[.val (.int p1), .val (.int p2), .val (.int p3), .val (.ref b120), .unset, .unset, .unset, .unset, .unset, .unset, .unset, .unset, .unset, .unset, .unset, .unset, .unset] [])
  refine own_go (fun _ k => XS.aloadN X125.here hx rfl (hb hby at_39) rfl rfl k) ?_
  show own_Go _ _ _ _ T125 (mkF m 40 #[.val (.int p1), .val (.int p2), .val (.int p3), .val (.ref b120), .unset, .unset, .unset, .unset, .unset, .unset, .unset, .unset, .unset, .unset, .unset, .unset, .unset] [(.ref b120)])
  refine own_go (fun _ k => XS.iconst X125.here hx rfl (hb hby at_40) k) ?_
  show own_Go _ _ _ _ T125 (mkF m 41 #[.val (.int p1), .val (.int p2), .val (.int p3), .val (.ref b120), .unset, .unset, .unset, .unset, .unset, .unset, .unset, .unset, .unset, .unset, .unset, .unset, .unset] [(.int (5 : Int32)), (.ref b120)])
  refine own_go (fun _ k => XS.iloadN X125.here hx rfl (hb hby at_41) rfl k) ?_
  show own_Go _ _ _ _ T125 (mkF m 42 #[.val (.int p1), .val (.int p2), .val (.int p3), .val (.ref b120), .unset, .unset, .unset, .unset, .unset, .unset, .unset, .unset, .unset, .unset, .unset, .unset, .unset] [(.int p2), (.int (5 : Int32)), (.ref b120)])
  refine own_go (fun _ k => XS.bipush X125.here hx rfl (hb hby at_42) k) ?_
  show own_Go _ _ _ _ T125 (mkF m 44 #[.val (.int p1), .val (.int p2), .val (.int p3), .val (.ref b120), .unset, .unset, .unset, .unset, .unset, .unset, .unset, .unset, .unset, .unset, .unset, .unset, .unset] [(.int (8 : Int32)), (.int p2), (.int (5 : Int32)), (.ref b120)])
  refine own_go (fun _ k => XS.iushr X125.here hx rfl (hb hby at_44) rfl k) ?_
  show own_Go _ _ _ _ T125 (mkF m 45 #[.val (.int p1), .val (.int p2), .val (.int p3), .val (.ref b120), .unset, .unset, .unset, .unset, .unset, .unset, .unset, .unset, .unset, .unset, .unset, .unset, .unset] [(.int ((p2).toUInt32 >>> ((8 : Int32) &&& 31).toUInt32).toInt32), (.int (5 : Int32)), (.ref b120)])
  refine own_go (fun _ k => XS.i2b X125.here hx rfl (hb hby at_45) rfl k) ?_
  show own_Go _ _ _ _ T125 (mkF m 46 #[.val (.int p1), .val (.int p2), .val (.int p3), .val (.ref b120), .unset, .unset, .unset, .unset, .unset, .unset, .unset, .unset, .unset, .unset, .unset, .unset, .unset] [(.int (((p2).toUInt32 >>> ((8 : Int32) &&& 31).toUInt32).toInt32).toInt8.toInt32), (.int (5 : Int32)), (.ref b120)])
  obtain ⟨cl126, Ar126, q126, S126, M126, H126, G126⟩ := V125
  have hin126 : ¬ ((5 : Int32) < 0 ∨ cl126.slots.size ≤ ((5 : Int32)).toNatClampNeg) := inb_of S126 ⟨by decide, by decide⟩
  obtain ⟨T126, h126, X126, e126, W126, st126⟩ := stB X125 hx hZ e125 Ar126 (j := (5 : Int32)) hin126 (g := (mkF m 46 #[.val (.int p1), .val (.int p2), .val (.int p3), .val (.ref b120), .unset, .unset, .unset, .unset, .unset, .unset, .unset, .unset, .unset, .unset, .unset, .unset, .unset] [(.int (((p2).toUInt32 >>> ((8 : Int32) &&& 31).toUInt32).toInt32).toInt8.toInt32), (.int (5 : Int32)), (.ref b120)])) rfl rfl (hb hby at_46)
  refine own_go (st126) ?_
  have V126 : Arv Z h126 b120 k120 .byte (7 : Int32) [(.int (nar .byte (p1).toInt8.toInt32)), (.int (nar .byte (((p1).toUInt32 >>> ((8 : Int32) &&& 31).toUInt32).toInt32).toInt8.toInt32)), (.int (nar .byte (((p1).toUInt32 >>> ((16 : Int32) &&& 31).toUInt32).toInt32).toInt8.toInt32)), (.int (nar .byte (((p1).toUInt32 >>> ((24 : Int32) &&& 31).toUInt32).toInt32).toInt8.toInt32)), (.int (nar .byte (p2).toInt8.toInt32)), (.int (nar .byte (((p2).toUInt32 >>> ((8 : Int32) &&& 31).toUInt32).toInt32).toInt8.toInt32)), (.int (0 : Int32))] (.int (0 : Int32)) := Arv.set Ar126 q126 S126 M126 H126 G126 (fits_nar_byte _) W126 5 rfl (Nat.le_of_ble_eq_true rfl)
  have N126 := Fr.snoc X126 N125 g_b120
  show own_Go _ _ _ _ T126 (mkF m 47 #[.val (.int p1), .val (.int p2), .val (.int p3), .val (.ref b120), .unset, .unset, .unset, .unset, .unset, .unset, .unset, .unset, .unset, .unset, .unset, .unset, .unset] [])
  refine own_go (fun _ k => XS.aloadN X126.here hx rfl (hb hby at_47) rfl rfl k) ?_
  show own_Go _ _ _ _ T126 (mkF m 48 #[.val (.int p1), .val (.int p2), .val (.int p3), .val (.ref b120), .unset, .unset, .unset, .unset, .unset, .unset, .unset, .unset, .unset, .unset, .unset, .unset, .unset] [(.ref b120)])
  refine own_go (fun _ k => XS.bipush X126.here hx rfl (hb hby at_48) k) ?_
  show own_Go _ _ _ _ T126 (mkF m 50 #[.val (.int p1), .val (.int p2), .val (.int p3), .val (.ref b120), .unset, .unset, .unset, .unset, .unset, .unset, .unset, .unset, .unset, .unset, .unset, .unset, .unset] [(.int (6 : Int32)), (.ref b120)])
  refine own_go (fun _ k => XS.iloadN X126.here hx rfl (hb hby at_50) rfl k) ?_
  show own_Go _ _ _ _ T126 (mkF m 51 #[.val (.int p1), .val (.int p2), .val (.int p3), .val (.ref b120), .unset, .unset, .unset, .unset, .unset, .unset, .unset, .unset, .unset, .unset, .unset, .unset, .unset] [(.int p2), (.int (6 : Int32)), (.ref b120)])
  refine own_go (fun _ k => XS.bipush X126.here hx rfl (hb hby at_51) k) ?_
  show own_Go _ _ _ _ T126 (mkF m 53 #[.val (.int p1), .val (.int p2), .val (.int p3), .val (.ref b120), .unset, .unset, .unset, .unset, .unset, .unset, .unset, .unset, .unset, .unset, .unset, .unset, .unset] [(.int (16 : Int32)), (.int p2), (.int (6 : Int32)), (.ref b120)])
  refine own_go (fun _ k => XS.iushr X126.here hx rfl (hb hby at_53) rfl k) ?_
  show own_Go _ _ _ _ T126 (mkF m 54 #[.val (.int p1), .val (.int p2), .val (.int p3), .val (.ref b120), .unset, .unset, .unset, .unset, .unset, .unset, .unset, .unset, .unset, .unset, .unset, .unset, .unset] [(.int ((p2).toUInt32 >>> ((16 : Int32) &&& 31).toUInt32).toInt32), (.int (6 : Int32)), (.ref b120)])
  refine own_go (fun _ k => XS.i2b X126.here hx rfl (hb hby at_54) rfl k) ?_
  show own_Go _ _ _ _ T126 (mkF m 55 #[.val (.int p1), .val (.int p2), .val (.int p3), .val (.ref b120), .unset, .unset, .unset, .unset, .unset, .unset, .unset, .unset, .unset, .unset, .unset, .unset, .unset] [(.int (((p2).toUInt32 >>> ((16 : Int32) &&& 31).toUInt32).toInt32).toInt8.toInt32), (.int (6 : Int32)), (.ref b120)])
  obtain ⟨cl127, Ar127, q127, S127, M127, H127, G127⟩ := V126
  have hin127 : ¬ ((6 : Int32) < 0 ∨ cl127.slots.size ≤ ((6 : Int32)).toNatClampNeg) := inb_of S127 ⟨by decide, by decide⟩
  obtain ⟨T127, h127, X127, e127, W127, st127⟩ := stB X126 hx hZ e126 Ar127 (j := (6 : Int32)) hin127 (g := (mkF m 55 #[.val (.int p1), .val (.int p2), .val (.int p3), .val (.ref b120), .unset, .unset, .unset, .unset, .unset, .unset, .unset, .unset, .unset, .unset, .unset, .unset, .unset] [(.int (((p2).toUInt32 >>> ((16 : Int32) &&& 31).toUInt32).toInt32).toInt8.toInt32), (.int (6 : Int32)), (.ref b120)])) rfl rfl (hb hby at_55)
  refine own_go (st127) ?_
  have V127 : Arv Z h127 b120 k120 .byte (7 : Int32) [(.int (nar .byte (p1).toInt8.toInt32)), (.int (nar .byte (((p1).toUInt32 >>> ((8 : Int32) &&& 31).toUInt32).toInt32).toInt8.toInt32)), (.int (nar .byte (((p1).toUInt32 >>> ((16 : Int32) &&& 31).toUInt32).toInt32).toInt8.toInt32)), (.int (nar .byte (((p1).toUInt32 >>> ((24 : Int32) &&& 31).toUInt32).toInt32).toInt8.toInt32)), (.int (nar .byte (p2).toInt8.toInt32)), (.int (nar .byte (((p2).toUInt32 >>> ((8 : Int32) &&& 31).toUInt32).toInt32).toInt8.toInt32)), (.int (nar .byte (((p2).toUInt32 >>> ((16 : Int32) &&& 31).toUInt32).toInt32).toInt8.toInt32))] (.int (0 : Int32)) := Arv.set Ar127 q127 S127 M127 H127 G127 (fits_nar_byte _) W127 6 rfl (Nat.le_of_ble_eq_true rfl)
  have N127 := Fr.snoc X127 N126 g_b120
  show own_Go _ _ _ _ T127 (mkF m 56 #[.val (.int p1), .val (.int p2), .val (.int p3), .val (.ref b120), .unset, .unset, .unset, .unset, .unset, .unset, .unset, .unset, .unset, .unset, .unset, .unset, .unset] [])
  refine own_go (fun _ k => XS.iloadN X127.here hx rfl (hb hby at_56) rfl k) ?_
  show own_Go _ _ _ _ T127 (mkF m 57 #[.val (.int p1), .val (.int p2), .val (.int p3), .val (.ref b120), .unset, .unset, .unset, .unset, .unset, .unset, .unset, .unset, .unset, .unset, .unset, .unset, .unset] [(.int p3)])
  refine own_go (fun _ k => XS.iconst X127.here hx rfl (hb hby at_57) k) ?_
  show own_Go _ _ _ _ T127 (mkF m 58 #[.val (.int p1), .val (.int p2), .val (.int p3), .val (.ref b120), .unset, .unset, .unset, .unset, .unset, .unset, .unset, .unset, .unset, .unset, .unset, .unset, .unset] [(.int (1 : Int32)), (.int p3)])
  refine own_go (fun _ k => XS.iand X127.here hx rfl (hb hby at_58) rfl k) ?_
  show own_Go _ _ _ _ T127 (mkF m 59 #[.val (.int p1), .val (.int p2), .val (.int p3), .val (.ref b120), .unset, .unset, .unset, .unset, .unset, .unset, .unset, .unset, .unset, .unset, .unset, .unset, .unset] [(.int (p3 &&& (1 : Int32)))])
  obtain ⟨off, hoff⟩ : ∃ z : Int32, z = (p3 &&& (1 : Int32)) := ⟨_, rfl⟩
  rw [← hoff]
  have ho : 0 ≤ off.toInt ∧ off.toInt ≤ 1 := by rw [hoff]; exact own_off p3
  show own_Go _ _ _ _ T127 (mkF m 59 #[.val (.int p1), .val (.int p2), .val (.int p3), .val (.ref b120), .unset, .unset, .unset, .unset, .unset, .unset, .unset, .unset, .unset, .unset, .unset, .unset, .unset] [(.int off)])
  refine own_go (fun _ k => XS.istore X127.here hx rfl (hb hby at_59) rfl (l' := #[.val (.int p1), .val (.int p2), .val (.int p3), .val (.ref b120), .val (.int off), .unset, .unset, .unset, .unset, .unset, .unset, .unset, .unset, .unset, .unset, .unset, .unset]) rfl k) ?_
  show own_Go _ _ _ _ T127 (mkF m 61 #[.val (.int p1), .val (.int p2), .val (.int p3), .val (.ref b120), .val (.int off), .unset, .unset, .unset, .unset, .unset, .unset, .unset, .unset, .unset, .unset, .unset, .unset] [])
  refine own_go (fun _ k => XS.iloadN X127.here hx rfl (hb hby at_61) rfl k) ?_
  show own_Go _ _ _ _ T127 (mkF m 62 #[.val (.int p1), .val (.int p2), .val (.int p3), .val (.ref b120), .val (.int off), .unset, .unset, .unset, .unset, .unset, .unset, .unset, .unset, .unset, .unset, .unset, .unset] [(.int p3)])
  refine own_go (fun _ k => XS.iconst X127.here hx rfl (hb hby at_62) k) ?_
  show own_Go _ _ _ _ T127 (mkF m 63 #[.val (.int p1), .val (.int p2), .val (.int p3), .val (.ref b120), .val (.int off), .unset, .unset, .unset, .unset, .unset, .unset, .unset, .unset, .unset, .unset, .unset, .unset] [(.int (1 : Int32)), (.int p3)])
  refine own_go (fun _ k => XS.iushr X127.here hx rfl (hb hby at_63) rfl k) ?_
  show own_Go _ _ _ _ T127 (mkF m 64 #[.val (.int p1), .val (.int p2), .val (.int p3), .val (.ref b120), .val (.int off), .unset, .unset, .unset, .unset, .unset, .unset, .unset, .unset, .unset, .unset, .unset, .unset] [(.int ((p3).toUInt32 >>> ((1 : Int32) &&& 31).toUInt32).toInt32)])
  refine own_go (fun _ k => XS.bipush X127.here hx rfl (hb hby at_64) k) ?_
  show own_Go _ _ _ _ T127 (mkF m 66 #[.val (.int p1), .val (.int p2), .val (.int p3), .val (.ref b120), .val (.int off), .unset, .unset, .unset, .unset, .unset, .unset, .unset, .unset, .unset, .unset, .unset, .unset] [(.int (7 : Int32)), (.int ((p3).toUInt32 >>> ((1 : Int32) &&& 31).toUInt32).toInt32)])
  refine own_go (fun _ k => XS.iand X127.here hx rfl (hb hby at_66) rfl k) ?_
  show own_Go _ _ _ _ T127 (mkF m 67 #[.val (.int p1), .val (.int p2), .val (.int p3), .val (.ref b120), .val (.int off), .unset, .unset, .unset, .unset, .unset, .unset, .unset, .unset, .unset, .unset, .unset, .unset] [(.int (((p3).toUInt32 >>> ((1 : Int32) &&& 31).toUInt32).toInt32 &&& (7 : Int32)))])
  refine own_go (fun _ k => XS.bipush X127.here hx rfl (hb hby at_67) k) ?_
  show own_Go _ _ _ _ T127 (mkF m 69 #[.val (.int p1), .val (.int p2), .val (.int p3), .val (.ref b120), .val (.int off), .unset, .unset, .unset, .unset, .unset, .unset, .unset, .unset, .unset, .unset, .unset, .unset] [(.int (8 : Int32)), (.int (((p3).toUInt32 >>> ((1 : Int32) &&& 31).toUInt32).toInt32 &&& (7 : Int32)))])
  refine own_go (fun _ k => XS.iload X127.here hx rfl (hb hby at_69) rfl k) ?_
  show own_Go _ _ _ _ T127 (mkF m 71 #[.val (.int p1), .val (.int p2), .val (.int p3), .val (.ref b120), .val (.int off), .unset, .unset, .unset, .unset, .unset, .unset, .unset, .unset, .unset, .unset, .unset, .unset] [(.int off), (.int (8 : Int32)), (.int (((p3).toUInt32 >>> ((1 : Int32) &&& 31).toUInt32).toInt32 &&& (7 : Int32)))])
  refine own_go (fun _ k => XS.isub X127.here hx rfl (hb hby at_71) rfl k) ?_
  show own_Go _ _ _ _ T127 (mkF m 72 #[.val (.int p1), .val (.int p2), .val (.int p3), .val (.ref b120), .val (.int off), .unset, .unset, .unset, .unset, .unset, .unset, .unset, .unset, .unset, .unset, .unset, .unset] [(.int ((8 : Int32) - off)), (.int (((p3).toUInt32 >>> ((1 : Int32) &&& 31).toUInt32).toInt32 &&& (7 : Int32)))])
  refine own_go (fun _ k => iremM X127 hx rfl (hb hby at_72) rfl (own_nz ho) k) ?_
  show own_Go _ _ _ _ T127 (mkF m 73 #[.val (.int p1), .val (.int p2), .val (.int p3), .val (.ref b120), .val (.int off), .unset, .unset, .unset, .unset, .unset, .unset, .unset, .unset, .unset, .unset, .unset, .unset] [(.int ((((p3).toUInt32 >>> ((1 : Int32) &&& 31).toUInt32).toInt32 &&& (7 : Int32)) % ((8 : Int32) - off)))])
  obtain ⟨len, hlen⟩ : ∃ z : Int32, z = ((((p3).toUInt32 >>> ((1 : Int32) &&& 31).toUInt32).toInt32 &&& (7 : Int32)) % ((8 : Int32) - off)) := ⟨_, rfl⟩
  rw [← hlen]
  have hl : 0 ≤ len.toInt ∧ off.toInt + len.toInt ≤ 7 := by rw [hlen]; exact own_len _ off ho
  show own_Go _ _ _ _ T127 (mkF m 73 #[.val (.int p1), .val (.int p2), .val (.int p3), .val (.ref b120), .val (.int off), .unset, .unset, .unset, .unset, .unset, .unset, .unset, .unset, .unset, .unset, .unset, .unset] [(.int len)])
  refine own_go (fun _ k => XS.istore X127.here hx rfl (hb hby at_73) rfl (l' := #[.val (.int p1), .val (.int p2), .val (.int p3), .val (.ref b120), .val (.int off), .val (.int len), .unset, .unset, .unset, .unset, .unset, .unset, .unset, .unset, .unset, .unset, .unset]) rfl k) ?_
  show own_Go _ _ _ _ T127 (mkF m 75 #[.val (.int p1), .val (.int p2), .val (.int p3), .val (.ref b120), .val (.int off), .val (.int len), .unset, .unset, .unset, .unset, .unset, .unset, .unset, .unset, .unset, .unset, .unset] [])
  refine own_go (fun _ k => XS.iload X127.here hx rfl (hb hby at_75) rfl k) ?_
  show own_Go _ _ _ _ T127 (mkF m 77 #[.val (.int p1), .val (.int p2), .val (.int p3), .val (.ref b120), .val (.int off), .val (.int len), .unset, .unset, .unset, .unset, .unset, .unset, .unset, .unset, .unset, .unset, .unset] [(.int off)])
  refine own_go (fun _ k => XS.iload X127.here hx rfl (hb hby at_77) rfl k) ?_
  show own_Go _ _ _ _ T127 (mkF m 79 #[.val (.int p1), .val (.int p2), .val (.int p3), .val (.ref b120), .val (.int off), .val (.int len), .unset, .unset, .unset, .unset, .unset, .unset, .unset, .unset, .unset, .unset, .unset] [(.int len), (.int off)])
  refine own_go (fun _ k => XS.iadd X127.here hx rfl (hb hby at_79) rfl k) ?_
  show own_Go _ _ _ _ T127 (mkF m 80 #[.val (.int p1), .val (.int p2), .val (.int p3), .val (.ref b120), .val (.int off), .val (.int len), .unset, .unset, .unset, .unset, .unset, .unset, .unset, .unset, .unset, .unset, .unset] [(.int (off + len))])
  obtain ⟨en, hen⟩ : ∃ z : Int32, z = (off + len) := ⟨_, rfl⟩
  rw [← hen]
  have hE : en.toInt = off.toInt + len.toInt := by rw [hen]; exact own_sum ho hl
  obtain ⟨f, hff⟩ : ∃ f : Nat → Int32, f = fun i => ([(nar .byte (p1).toInt8.toInt32), (nar .byte (((p1).toUInt32 >>> ((8 : Int32) &&& 31).toUInt32).toInt32).toInt8.toInt32), (nar .byte (((p1).toUInt32 >>> ((16 : Int32) &&& 31).toUInt32).toInt32).toInt8.toInt32), (nar .byte (((p1).toUInt32 >>> ((24 : Int32) &&& 31).toUInt32).toInt32).toInt8.toInt32), (nar .byte (p2).toInt8.toInt32), (nar .byte (((p2).toUInt32 >>> ((8 : Int32) &&& 31).toUInt32).toInt32).toInt8.toInt32), (nar .byte (((p2).toUInt32 >>> ((16 : Int32) &&& 31).toUInt32).toInt32).toInt8.toInt32)] : List Int32).getD i (0 : Int32) := ⟨_, rfl⟩
  have hf : ∀ i : Nat, ([(.int (nar .byte (p1).toInt8.toInt32)), (.int (nar .byte (((p1).toUInt32 >>> ((8 : Int32) &&& 31).toUInt32).toInt32).toInt8.toInt32)), (.int (nar .byte (((p1).toUInt32 >>> ((16 : Int32) &&& 31).toUInt32).toInt32).toInt8.toInt32)), (.int (nar .byte (((p1).toUInt32 >>> ((24 : Int32) &&& 31).toUInt32).toInt32).toInt8.toInt32)), (.int (nar .byte (p2).toInt8.toInt32)), (.int (nar .byte (((p2).toUInt32 >>> ((8 : Int32) &&& 31).toUInt32).toInt32).toInt8.toInt32)), (.int (nar .byte (((p2).toUInt32 >>> ((16 : Int32) &&& 31).toUInt32).toInt32).toInt8.toInt32))] : List Value).getD i (.int (0 : Int32)) = .int (f i) := fun i => by rw [hff]; exact own_getD [(nar .byte (p1).toInt8.toInt32), (nar .byte (((p1).toUInt32 >>> ((8 : Int32) &&& 31).toUInt32).toInt32).toInt8.toInt32), (nar .byte (((p1).toUInt32 >>> ((16 : Int32) &&& 31).toUInt32).toInt32).toInt8.toInt32), (nar .byte (((p1).toUInt32 >>> ((24 : Int32) &&& 31).toUInt32).toInt32).toInt8.toInt32), (nar .byte (p2).toInt8.toInt32), (nar .byte (((p2).toUInt32 >>> ((8 : Int32) &&& 31).toUInt32).toInt32).toInt8.toInt32), (nar .byte (((p2).toUInt32 >>> ((16 : Int32) &&& 31).toUInt32).toInt32).toInt8.toInt32)] i
  have b1 : 0 ≤ off.toInt ∧ off.toInt ≤ en.toInt ∧ en.toInt ≤ (7 : Int32).toInt ∧ (7 : Int32).toInt ≤ 1000 := by rw [own_e7]; omega
  show own_Go _ _ _ _ T127 (mkF m 80 #[.val (.int p1), .val (.int p2), .val (.int p3), .val (.ref b120), .val (.int off), .val (.int len), .unset, .unset, .unset, .unset, .unset, .unset, .unset, .unset, .unset, .unset, .unset] [(.int en)])
  refine own_go (fun _ k => XS.istore X127.here hx rfl (hb hby at_80) rfl (l' := #[.val (.int p1), .val (.int p2), .val (.int p3), .val (.ref b120), .val (.int off), .val (.int len), .val (.int en), .unset, .unset, .unset, .unset, .unset, .unset, .unset, .unset, .unset, .unset]) rfl k) ?_
  show own_Go _ _ _ _ T127 (mkF m 82 #[.val (.int p1), .val (.int p2), .val (.int p3), .val (.ref b120), .val (.int off), .val (.int len), .val (.int en), .unset, .unset, .unset, .unset, .unset, .unset, .unset, .unset, .unset, .unset] [])
  refine own_go (fun _ k => XS.aloadN X127.here hx rfl (hb hby at_82) rfl rfl k) ?_
  show own_Go _ _ _ _ T127 (mkF m 83 #[.val (.int p1), .val (.int p2), .val (.int p3), .val (.ref b120), .val (.int off), .val (.int len), .val (.int en), .unset, .unset, .unset, .unset, .unset, .unset, .unset, .unset, .unset, .unset] [(.ref b120)])
  refine own_go (fun _ k => XS.iload X127.here hx rfl (hb hby at_83) rfl k) ?_
  show own_Go _ _ _ _ T127 (mkF m 85 #[.val (.int p1), .val (.int p2), .val (.int p3), .val (.ref b120), .val (.int off), .val (.int len), .val (.int en), .unset, .unset, .unset, .unset, .unset, .unset, .unset, .unset, .unset, .unset] [(.int off), (.ref b120)])
  refine own_go (fun _ k => XS.iload X127.here hx rfl (hb hby at_85) rfl k) ?_
  show own_Go _ _ _ _ T127 (mkF m 87 #[.val (.int p1), .val (.int p2), .val (.int p3), .val (.ref b120), .val (.int off), .val (.int len), .val (.int en), .unset, .unset, .unset, .unset, .unset, .unset, .unset, .unset, .unset, .unset] [(.int en), (.int off), (.ref b120)])
  have f128 := (Nat.le_trans (Nat.le_trans (Nat.le_trans (Nat.le_trans (Nat.le_trans (Nat.le_trans (Nat.le_trans (Nat.le_trans Z0 E120.1) (Keep.of_wr W121).1) (Keep.of_wr W122).1) (Keep.of_wr W123).1) (Keep.of_wr W124).1) (Keep.of_wr W125).1) (Keep.of_wr W126).1) (Keep.of_wr W127).1)
  obtain ⟨v129, T129, h129, L129, X129, e129, hQ129, st129⟩ := own_callS X127 hx hZ hown (hw _ (List.mem_of_getElem? (i := 1) rfl)) (hw _ (List.mem_of_getElem? (i := 2) rfl)) (hw _ (List.mem_of_getElem? (i := 3) rfl)) (hw _ (List.mem_of_getElem? (i := 4) rfl)) (by decide) e127 (argsL := [(.ref b120), (.int off), (.int en)]) (rest := []) (rm6 l Z a0 hw [] b120 off en k120 (7 : Int32) _ _ f h127 n0 f128 V127 hf b1) 0 (by decide) (by decide) (by decide) (by decide) (g := (mkF m 87 #[.val (.int p1), .val (.int p2), .val (.int p3), .val (.ref b120), .val (.int off), .val (.int len), .val (.int en), .unset, .unset, .unset, .unset, .unset, .unset, .unset, .unset, .unset, .unset] [(.int en), (.int off), (.ref b120)])) rfl (by rw [hml]; rfl) (lenOf pd2 rfl) rfl (Nat.le_of_eq rfl) (hb hby at_87)
  obtain ⟨rfl, N129q, rfl⟩ := hQ129
  refine own_go (st129) ?_
  have N129 := Fr.app N127 N129q
  show own_Go _ _ _ _ T129 (mkF m 90 #[.val (.int p1), .val (.int p2), .val (.int p3), .val (.ref b120), .val (.int off), .val (.int len), .val (.int en), .unset, .unset, .unset, .unset, .unset, .unset, .unset, .unset, .unset, .unset] [(.long (own_pack (own_spec f off en).1 (own_spec f off en).2))])
  refine own_go (fun _ k => XS.lstore X129.here hx rfl (hb hby at_90) rfl (l' := #[.val (.int p1), .val (.int p2), .val (.int p3), .val (.ref b120), .val (.int off), .val (.int len), .val (.int en), .val (.long (own_pack (own_spec f off en).1 (own_spec f off en).2)), .second, .unset, .unset, .unset, .unset, .unset, .unset, .unset, .unset]) rfl k) ?_
  show own_Go _ _ _ _ T129 (mkF m 92 #[.val (.int p1), .val (.int p2), .val (.int p3), .val (.ref b120), .val (.int off), .val (.int len), .val (.int en), .val (.long (own_pack (own_spec f off en).1 (own_spec f off en).2)), .second, .unset, .unset, .unset, .unset, .unset, .unset, .unset, .unset] [])
  refine own_go (fun _ k => XS.iload X129.here hx rfl (hb hby at_92) rfl k) ?_
  show own_Go _ _ _ _ T129 (mkF m 94 #[.val (.int p1), .val (.int p2), .val (.int p3), .val (.ref b120), .val (.int off), .val (.int len), .val (.int en), .val (.long (own_pack (own_spec f off en).1 (own_spec f off en).2)), .second, .unset, .unset, .unset, .unset, .unset, .unset, .unset, .unset] [(.int off)])
  refine own_go (fun _ k => XS.lload X129.here hx rfl (hb hby at_94) rfl k) ?_
  show own_Go _ _ _ _ T129 (mkF m 96 #[.val (.int p1), .val (.int p2), .val (.int p3), .val (.ref b120), .val (.int off), .val (.int len), .val (.int en), .val (.long (own_pack (own_spec f off en).1 (own_spec f off en).2)), .second, .unset, .unset, .unset, .unset, .unset, .unset, .unset, .unset] [(.long (own_pack (own_spec f off en).1 (own_spec f off en).2)), (.int off)])
  refine own_go (fun _ k => XS.bipush X129.here hx rfl (hb hby at_96) k) ?_
  show own_Go _ _ _ _ T129 (mkF m 98 #[.val (.int p1), .val (.int p2), .val (.int p3), .val (.ref b120), .val (.int off), .val (.int len), .val (.int en), .val (.long (own_pack (own_spec f off en).1 (own_spec f off en).2)), .second, .unset, .unset, .unset, .unset, .unset, .unset, .unset, .unset] [(.int (32 : Int32)), (.long (own_pack (own_spec f off en).1 (own_spec f off en).2)), (.int off)])
  refine own_go (fun _ k => XS.lushr X129.here hx rfl (hb hby at_98) rfl k) ?_
  show own_Go _ _ _ _ T129 (mkF m 99 #[.val (.int p1), .val (.int p2), .val (.int p3), .val (.ref b120), .val (.int off), .val (.int len), .val (.int en), .val (.long (own_pack (own_spec f off en).1 (own_spec f off en).2)), .second, .unset, .unset, .unset, .unset, .unset, .unset, .unset, .unset] [(.long (((own_pack (own_spec f off en).1 (own_spec f off en).2)).toUInt64 >>> ((32 : Int32) &&& 0x3f).toInt64.toUInt64).toInt64), (.int off)])
  refine own_go (fun _ k => XS.l2i X129.here hx rfl (hb hby at_99) rfl k) ?_
  show own_Go _ _ _ _ T129 (mkF m 100 #[.val (.int p1), .val (.int p2), .val (.int p3), .val (.ref b120), .val (.int off), .val (.int len), .val (.int en), .val (.long (own_pack (own_spec f off en).1 (own_spec f off en).2)), .second, .unset, .unset, .unset, .unset, .unset, .unset, .unset, .unset] [(.int ((((own_pack (own_spec f off en).1 (own_spec f off en).2)).toUInt64 >>> ((32 : Int32) &&& 0x3f).toInt64.toUInt64).toInt64).toInt32), (.int off)])
  rw [show ((((own_pack (own_spec f off en).1 (own_spec f off en).2)).toUInt64 >>> ((32 : Int32) &&& 0x3f).toInt64.toUInt64).toInt64).toInt32 = ((own_spec f off en).2) from own_hi _ _]
  show own_Go _ _ _ _ T129 (mkF m 100 #[.val (.int p1), .val (.int p2), .val (.int p3), .val (.ref b120), .val (.int off), .val (.int len), .val (.int en), .val (.long (own_pack (own_spec f off en).1 (own_spec f off en).2)), .second, .unset, .unset, .unset, .unset, .unset, .unset, .unset, .unset] [(.int ((own_spec f off en).2)), (.int off)])
  refine own_go (fun _ k => XS.iadd X129.here hx rfl (hb hby at_100) rfl k) ?_
  show own_Go _ _ _ _ T129 (mkF m 101 #[.val (.int p1), .val (.int p2), .val (.int p3), .val (.ref b120), .val (.int off), .val (.int len), .val (.int en), .val (.long (own_pack (own_spec f off en).1 (own_spec f off en).2)), .second, .unset, .unset, .unset, .unset, .unset, .unset, .unset, .unset] [(.int (off + ((own_spec f off en).2)))])
  obtain ⟨s2, hs2⟩ : ∃ z : Int32, z = (off + ((own_spec f off en).2)) := ⟨_, rfl⟩
  rw [← hs2]
  have b2 : 0 ≤ s2.toInt ∧ s2.toInt ≤ en.toInt ∧ en.toInt ≤ (7 : Int32).toInt ∧ (7 : Int32).toInt ≤ 1000 := by rw [hs2]; exact own_next b1
  show own_Go _ _ _ _ T129 (mkF m 101 #[.val (.int p1), .val (.int p2), .val (.int p3), .val (.ref b120), .val (.int off), .val (.int len), .val (.int en), .val (.long (own_pack (own_spec f off en).1 (own_spec f off en).2)), .second, .unset, .unset, .unset, .unset, .unset, .unset, .unset, .unset] [(.int s2)])
  refine own_go (fun _ k => XS.istore X129.here hx rfl (hb hby at_101) rfl (l' := #[.val (.int p1), .val (.int p2), .val (.int p3), .val (.ref b120), .val (.int off), .val (.int len), .val (.int en), .val (.long (own_pack (own_spec f off en).1 (own_spec f off en).2)), .second, .val (.int s2), .unset, .unset, .unset, .unset, .unset, .unset, .unset]) rfl k) ?_
  show own_Go _ _ _ _ T129 (mkF m 103 #[.val (.int p1), .val (.int p2), .val (.int p3), .val (.ref b120), .val (.int off), .val (.int len), .val (.int en), .val (.long (own_pack (own_spec f off en).1 (own_spec f off en).2)), .second, .val (.int s2), .unset, .unset, .unset, .unset, .unset, .unset, .unset] [])
  refine own_go (fun _ k => XS.aloadN X129.here hx rfl (hb hby at_103) rfl rfl k) ?_
  show own_Go _ _ _ _ T129 (mkF m 104 #[.val (.int p1), .val (.int p2), .val (.int p3), .val (.ref b120), .val (.int off), .val (.int len), .val (.int en), .val (.long (own_pack (own_spec f off en).1 (own_spec f off en).2)), .second, .val (.int s2), .unset, .unset, .unset, .unset, .unset, .unset, .unset] [(.ref b120)])
  refine own_go (fun _ k => XS.iload X129.here hx rfl (hb hby at_104) rfl k) ?_
  show own_Go _ _ _ _ T129 (mkF m 106 #[.val (.int p1), .val (.int p2), .val (.int p3), .val (.ref b120), .val (.int off), .val (.int len), .val (.int en), .val (.long (own_pack (own_spec f off en).1 (own_spec f off en).2)), .second, .val (.int s2), .unset, .unset, .unset, .unset, .unset, .unset, .unset] [(.int s2), (.ref b120)])
  refine own_go (fun _ k => XS.iload X129.here hx rfl (hb hby at_106) rfl k) ?_
  show own_Go _ _ _ _ T129 (mkF m 108 #[.val (.int p1), .val (.int p2), .val (.int p3), .val (.ref b120), .val (.int off), .val (.int len), .val (.int en), .val (.long (own_pack (own_spec f off en).1 (own_spec f off en).2)), .second, .val (.int s2), .unset, .unset, .unset, .unset, .unset, .unset, .unset] [(.int en), (.int s2), (.ref b120)])
  obtain ⟨v130, T130, h130, L130, X130, e130, hQ130, st130⟩ := own_callS X129 hx hZ hown (hw _ (List.mem_of_getElem? (i := 1) rfl)) (hw _ (List.mem_of_getElem? (i := 2) rfl)) (hw _ (List.mem_of_getElem? (i := 3) rfl)) (hw _ (List.mem_of_getElem? (i := 4) rfl)) (by decide) e129 (argsL := [(.ref b120), (.int s2), (.int en)]) (rest := []) (rm6 l Z a0 hw [] b120 s2 en k120 (7 : Int32) _ _ f h127 n0 f128 V127 hf b2) 0 (by decide) (by decide) (by decide) (by decide) (g := (mkF m 108 #[.val (.int p1), .val (.int p2), .val (.int p3), .val (.ref b120), .val (.int off), .val (.int len), .val (.int en), .val (.long (own_pack (own_spec f off en).1 (own_spec f off en).2)), .second, .val (.int s2), .unset, .unset, .unset, .unset, .unset, .unset, .unset] [(.int en), (.int s2), (.ref b120)])) rfl (by rw [hml]; rfl) (lenOf pd2 rfl) rfl (Nat.le_of_eq rfl) (hb hby at_108)
  obtain ⟨rfl, N130q, rfl⟩ := hQ130
  refine own_go (st130) ?_
  have N130 := Fr.app N129 N130q
  show own_Go _ _ _ _ T130 (mkF m 111 #[.val (.int p1), .val (.int p2), .val (.int p3), .val (.ref b120), .val (.int off), .val (.int len), .val (.int en), .val (.long (own_pack (own_spec f off en).1 (own_spec f off en).2)), .second, .val (.int s2), .unset, .unset, .unset, .unset, .unset, .unset, .unset] [(.long (own_pack (own_spec f s2 en).1 (own_spec f s2 en).2))])
  refine own_go (fun _ k => XS.lstore X130.here hx rfl (hb hby at_111) rfl (l' := #[.val (.int p1), .val (.int p2), .val (.int p3), .val (.ref b120), .val (.int off), .val (.int len), .val (.int en), .val (.long (own_pack (own_spec f off en).1 (own_spec f off en).2)), .second, .val (.int s2), .val (.long (own_pack (own_spec f s2 en).1 (own_spec f s2 en).2)), .second, .unset, .unset, .unset, .unset, .unset]) rfl k) ?_
  show own_Go _ _ _ _ T130 (mkF m 113 #[.val (.int p1), .val (.int p2), .val (.int p3), .val (.ref b120), .val (.int off), .val (.int len), .val (.int en), .val (.long (own_pack (own_spec f off en).1 (own_spec f off en).2)), .second, .val (.int s2), .val (.long (own_pack (own_spec f s2 en).1 (own_spec f s2 en).2)), .second, .unset, .unset, .unset, .unset, .unset] [])
  refine own_go (fun _ k => XS.iload X130.here hx rfl (hb hby at_113) rfl k) ?_
  show own_Go _ _ _ _ T130 (mkF m 115 #[.val (.int p1), .val (.int p2), .val (.int p3), .val (.ref b120), .val (.int off), .val (.int len), .val (.int en), .val (.long (own_pack (own_spec f off en).1 (own_spec f off en).2)), .second, .val (.int s2), .val (.long (own_pack (own_spec f s2 en).1 (own_spec f s2 en).2)), .second, .unset, .unset, .unset, .unset, .unset] [(.int s2)])
  refine own_go (fun _ k => XS.lload X130.here hx rfl (hb hby at_115) rfl k) ?_
  show own_Go _ _ _ _ T130 (mkF m 117 #[.val (.int p1), .val (.int p2), .val (.int p3), .val (.ref b120), .val (.int off), .val (.int len), .val (.int en), .val (.long (own_pack (own_spec f off en).1 (own_spec f off en).2)), .second, .val (.int s2), .val (.long (own_pack (own_spec f s2 en).1 (own_spec f s2 en).2)), .second, .unset, .unset, .unset, .unset, .unset] [(.long (own_pack (own_spec f s2 en).1 (own_spec f s2 en).2)), (.int s2)])
  refine own_go (fun _ k => XS.bipush X130.here hx rfl (hb hby at_117) k) ?_
  show own_Go _ _ _ _ T130 (mkF m 119 #[.val (.int p1), .val (.int p2), .val (.int p3), .val (.ref b120), .val (.int off), .val (.int len), .val (.int en), .val (.long (own_pack (own_spec f off en).1 (own_spec f off en).2)), .second, .val (.int s2), .val (.long (own_pack (own_spec f s2 en).1 (own_spec f s2 en).2)), .second, .unset, .unset, .unset, .unset, .unset] [(.int (32 : Int32)), (.long (own_pack (own_spec f s2 en).1 (own_spec f s2 en).2)), (.int s2)])
  refine own_go (fun _ k => XS.lushr X130.here hx rfl (hb hby at_119) rfl k) ?_
  show own_Go _ _ _ _ T130 (mkF m 120 #[.val (.int p1), .val (.int p2), .val (.int p3), .val (.ref b120), .val (.int off), .val (.int len), .val (.int en), .val (.long (own_pack (own_spec f off en).1 (own_spec f off en).2)), .second, .val (.int s2), .val (.long (own_pack (own_spec f s2 en).1 (own_spec f s2 en).2)), .second, .unset, .unset, .unset, .unset, .unset] [(.long (((own_pack (own_spec f s2 en).1 (own_spec f s2 en).2)).toUInt64 >>> ((32 : Int32) &&& 0x3f).toInt64.toUInt64).toInt64), (.int s2)])
  refine own_go (fun _ k => XS.l2i X130.here hx rfl (hb hby at_120) rfl k) ?_
  show own_Go _ _ _ _ T130 (mkF m 121 #[.val (.int p1), .val (.int p2), .val (.int p3), .val (.ref b120), .val (.int off), .val (.int len), .val (.int en), .val (.long (own_pack (own_spec f off en).1 (own_spec f off en).2)), .second, .val (.int s2), .val (.long (own_pack (own_spec f s2 en).1 (own_spec f s2 en).2)), .second, .unset, .unset, .unset, .unset, .unset] [(.int ((((own_pack (own_spec f s2 en).1 (own_spec f s2 en).2)).toUInt64 >>> ((32 : Int32) &&& 0x3f).toInt64.toUInt64).toInt64).toInt32), (.int s2)])
  rw [show ((((own_pack (own_spec f s2 en).1 (own_spec f s2 en).2)).toUInt64 >>> ((32 : Int32) &&& 0x3f).toInt64.toUInt64).toInt64).toInt32 = ((own_spec f s2 en).2) from own_hi _ _]
  show own_Go _ _ _ _ T130 (mkF m 121 #[.val (.int p1), .val (.int p2), .val (.int p3), .val (.ref b120), .val (.int off), .val (.int len), .val (.int en), .val (.long (own_pack (own_spec f off en).1 (own_spec f off en).2)), .second, .val (.int s2), .val (.long (own_pack (own_spec f s2 en).1 (own_spec f s2 en).2)), .second, .unset, .unset, .unset, .unset, .unset] [(.int ((own_spec f s2 en).2)), (.int s2)])
  refine own_go (fun _ k => XS.iadd X130.here hx rfl (hb hby at_121) rfl k) ?_
  show own_Go _ _ _ _ T130 (mkF m 122 #[.val (.int p1), .val (.int p2), .val (.int p3), .val (.ref b120), .val (.int off), .val (.int len), .val (.int en), .val (.long (own_pack (own_spec f off en).1 (own_spec f off en).2)), .second, .val (.int s2), .val (.long (own_pack (own_spec f s2 en).1 (own_spec f s2 en).2)), .second, .unset, .unset, .unset, .unset, .unset] [(.int (s2 + ((own_spec f s2 en).2)))])
  obtain ⟨s3, hs3⟩ : ∃ z : Int32, z = (s2 + ((own_spec f s2 en).2)) := ⟨_, rfl⟩
  rw [← hs3]
  show own_Go _ _ _ _ T130 (mkF m 122 #[.val (.int p1), .val (.int p2), .val (.int p3), .val (.ref b120), .val (.int off), .val (.int len), .val (.int en), .val (.long (own_pack (own_spec f off en).1 (own_spec f off en).2)), .second, .val (.int s2), .val (.long (own_pack (own_spec f s2 en).1 (own_spec f s2 en).2)), .second, .unset, .unset, .unset, .unset, .unset] [(.int s3)])
  refine own_go (fun _ k => XS.istore X130.here hx rfl (hb hby at_122) rfl (l' := #[.val (.int p1), .val (.int p2), .val (.int p3), .val (.ref b120), .val (.int off), .val (.int len), .val (.int en), .val (.long (own_pack (own_spec f off en).1 (own_spec f off en).2)), .second, .val (.int s2), .val (.long (own_pack (own_spec f s2 en).1 (own_spec f s2 en).2)), .second, .val (.int s3), .unset, .unset, .unset, .unset]) rfl k) ?_
  show own_Go _ _ _ _ T130 (mkF m 124 #[.val (.int p1), .val (.int p2), .val (.int p3), .val (.ref b120), .val (.int off), .val (.int len), .val (.int en), .val (.long (own_pack (own_spec f off en).1 (own_spec f off en).2)), .second, .val (.int s2), .val (.long (own_pack (own_spec f s2 en).1 (own_spec f s2 en).2)), .second, .val (.int s3), .unset, .unset, .unset, .unset] [])
  obtain ⟨T131, h131, X131, e131, E131, A131, D131, -, st131⟩ := newO X130 hx hZ hown (hw _ (List.mem_of_getElem? (i := 12) rfl)) (hw _ (List.mem_of_getElem? (i := 13) rfl)) (hw _ (List.mem_of_getElem? (i := 14) rfl)) e130 (g := (mkF m 124 #[.val (.int p1), .val (.int p2), .val (.int p3), .val (.ref b120), .val (.int off), .val (.int len), .val (.int en), .val (.long (own_pack (own_spec f off en).1 (own_spec f off en).2)), .second, .val (.int s2), .val (.long (own_pack (own_spec f s2 en).1 (own_spec f s2 en).2)), .second, .val (.int s3), .unset, .unset, .unset, .unset] [])) rfl (hb hby at_124) (by decide) (by decide)
  obtain ⟨b131, g131⟩ : ∃ z, z = h127.size := ⟨_, rfl⟩
  rw [← g131] at A131 D131 st131
  refine own_go (st131) ?_
  have g_b131 : n0 ≤ b131 := Nat.le_trans f128 (Nat.le_of_eq g131.symm)
  have o_b131 : b120 < b131 := Nat.lt_of_lt_of_le V127.lt (Nat.le_of_eq g131.symm)
  have F131_bytes : Fld Z h131 b131 "com/example/cranfield/cranfield/engine/ByteReader" "bytes" "[B" .null := D131 (Or.inr (hw _ (List.mem_of_getElem? (i := 22) rfl))) (ty := (.array .byte)) (by decide)
  have F131_position : Fld Z h131 b131 "com/example/cranfield/cranfield/engine/ByteReader" "position" "I" (.int (0 : Int32)) := D131 (Or.inl (hw _ (List.mem_of_getElem? (i := 24) rfl))) (ty := .int) (by decide)
  have F131_end : Fld Z h131 b131 "com/example/cranfield/cranfield/engine/ByteReader" "end" "I" (.int (0 : Int32)) := D131 (Or.inr (hw _ (List.mem_of_getElem? (i := 26) rfl))) (ty := .int) (by decide)
  show own_Go _ _ _ _ T131 (mkF m 127 #[.val (.int p1), .val (.int p2), .val (.int p3), .val (.ref b120), .val (.int off), .val (.int len), .val (.int en), .val (.long (own_pack (own_spec f off en).1 (own_spec f off en).2)), .second, .val (.int s2), .val (.long (own_pack (own_spec f s2 en).1 (own_spec f s2 en).2)), .second, .val (.int s3), .unset, .unset, .unset, .unset] [(.ref b131)])
  refine own_go (fun _ k => XS.dup X131.here hx rfl (hb hby at_127) rfl rfl k) ?_
  show own_Go _ _ _ _ T131 (mkF m 128 #[.val (.int p1), .val (.int p2), .val (.int p3), .val (.ref b120), .val (.int off), .val (.int len), .val (.int en), .val (.long (own_pack (own_spec f off en).1 (own_spec f off en).2)), .second, .val (.int s2), .val (.long (own_pack (own_spec f s2 en).1 (own_spec f s2 en).2)), .second, .val (.int s3), .unset, .unset, .unset, .unset] [(.ref b131), (.ref b131)])
  refine own_go (fun _ k => XS.aloadN X131.here hx rfl (hb hby at_128) rfl rfl k) ?_
  show own_Go _ _ _ _ T131 (mkF m 129 #[.val (.int p1), .val (.int p2), .val (.int p3), .val (.ref b120), .val (.int off), .val (.int len), .val (.int en), .val (.long (own_pack (own_spec f off en).1 (own_spec f off en).2)), .second, .val (.int s2), .val (.long (own_pack (own_spec f s2 en).1 (own_spec f s2 en).2)), .second, .val (.int s3), .unset, .unset, .unset, .unset] [(.ref b120), (.ref b131), (.ref b131)])
  refine own_go (fun _ k => XS.iload X131.here hx rfl (hb hby at_129) rfl k) ?_
  show own_Go _ _ _ _ T131 (mkF m 131 #[.val (.int p1), .val (.int p2), .val (.int p3), .val (.ref b120), .val (.int off), .val (.int len), .val (.int en), .val (.long (own_pack (own_spec f off en).1 (own_spec f off en).2)), .second, .val (.int s2), .val (.long (own_pack (own_spec f s2 en).1 (own_spec f s2 en).2)), .second, .val (.int s3), .unset, .unset, .unset, .unset] [(.int off), (.ref b120), (.ref b131), (.ref b131)])
  refine own_go (fun _ k => XS.iload X131.here hx rfl (hb hby at_131) rfl k) ?_
  show own_Go _ _ _ _ T131 (mkF m 133 #[.val (.int p1), .val (.int p2), .val (.int p3), .val (.ref b120), .val (.int off), .val (.int len), .val (.int en), .val (.long (own_pack (own_spec f off en).1 (own_spec f off en).2)), .second, .val (.int s2), .val (.long (own_pack (own_spec f s2 en).1 (own_spec f s2 en).2)), .second, .val (.int s3), .unset, .unset, .unset, .unset] [(.int len), (.int off), (.ref b120), (.ref b131), (.ref b131)])
  have f132 := (Nat.le_trans f128 E131.1)
  obtain ⟨v133, T133, h133, L133, X133, e133, hQ133, st133⟩ := own_callI X131 hx hZ rfl hown (hw _ (List.mem_of_getElem? (i := 15) rfl)) (hw _ (List.mem_of_getElem? (i := 16) rfl)) (hw _ (List.mem_of_getElem? (i := 14) rfl)) (hw _ (List.mem_of_getElem? (i := 17) rfl)) (by decide) e131 (a := b131) (argsL := [(.ref b120), (.int off), (.int len)]) (rest := [(.ref b131)]) (rm1 l Z a0 hw [] b131 b120 off len h131 n0 f132 A131 F131_bytes F131_position F131_end g_b131) 1 (by decide) (by decide) (by decide) (by decide) (g := (mkF m 133 #[.val (.int p1), .val (.int p2), .val (.int p3), .val (.ref b120), .val (.int off), .val (.int len), .val (.int en), .val (.long (own_pack (own_spec f off en).1 (own_spec f off en).2)), .second, .val (.int s2), .val (.long (own_pack (own_spec f s2 en).1 (own_spec f s2 en).2)), .second, .val (.int s3), .unset, .unset, .unset, .unset] [(.int len), (.int off), (.ref b120), (.ref b131), (.ref b131)])) rfl (by rw [hml]; rfl) (lenOf pd3 rfl) rfl (Nat.le_of_eq rfl) (hb hby at_133)
  obtain ⟨rfl, N133q, K133, E133x, F133b, F133p, F133e⟩ := hQ133
  refine own_go (st133) ?_
  have N133 := Fr.app N130 N133q
  rw [← hen] at F133e
  show own_Go _ _ _ _ T133 (mkF m 136 #[.val (.int p1), .val (.int p2), .val (.int p3), .val (.ref b120), .val (.int off), .val (.int len), .val (.int en), .val (.long (own_pack (own_spec f off en).1 (own_spec f off en).2)), .second, .val (.int s2), .val (.long (own_pack (own_spec f s2 en).1 (own_spec f s2 en).2)), .second, .val (.int s3), .unset, .unset, .unset, .unset] [(.ref b131)])
  refine own_go (fun _ k => XS.astore X133.here hx rfl (hb hby at_136) rfl rfl (l' := #[.val (.int p1), .val (.int p2), .val (.int p3), .val (.ref b120), .val (.int off), .val (.int len), .val (.int en), .val (.long (own_pack (own_spec f off en).1 (own_spec f off en).2)), .second, .val (.int s2), .val (.long (own_pack (own_spec f s2 en).1 (own_spec f s2 en).2)), .second, .val (.int s3), .val (.ref b131), .unset, .unset, .unset]) rfl k) ?_
  show own_Go _ _ _ _ T133 (mkF m 138 #[.val (.int p1), .val (.int p2), .val (.int p3), .val (.ref b120), .val (.int off), .val (.int len), .val (.int en), .val (.long (own_pack (own_spec f off en).1 (own_spec f off en).2)), .second, .val (.int s2), .val (.long (own_pack (own_spec f s2 en).1 (own_spec f s2 en).2)), .second, .val (.int s3), .val (.ref b131), .unset, .unset, .unset] [])
  refine own_go (fun _ k => XS.aload X133.here hx rfl (hb hby at_138) rfl rfl k) ?_
  show own_Go _ _ _ _ T133 (mkF m 140 #[.val (.int p1), .val (.int p2), .val (.int p3), .val (.ref b120), .val (.int off), .val (.int len), .val (.int en), .val (.long (own_pack (own_spec f off en).1 (own_spec f off en).2)), .second, .val (.int s2), .val (.long (own_pack (own_spec f s2 en).1 (own_spec f s2 en).2)), .second, .val (.int s3), .val (.ref b131), .unset, .unset, .unset] [(.ref b131)])
  have f134 := (Nat.le_trans f132 K133.1)
  have f135 := ((V127.ext E131).keep K133 (ninS (Nat.ne_of_lt o_b131) nin0))
  obtain ⟨v136, T136, h136, L136, X136, e136, hQ136, st136⟩ := own_callV X133 hx hZ hown (hw _ (List.mem_of_getElem? (i := 27) rfl)) (hw _ (List.mem_of_getElem? (i := 28) rfl)) (hw _ (List.mem_of_getElem? (i := 30) rfl)) (notFace_of_selects (args := #[]) (mvT hZ (hw _ (List.mem_of_getElem? (i := 30) rfl)))) (hw _ (List.mem_of_getElem? (i := 29) rfl)) (hw _ (List.mem_of_getElem? (i := 14) rfl)) (hw _ (List.mem_of_getElem? (i := 31) rfl)) (by decide) e133 E133x (argsL := []) (rest := []) (rm3 l Z a0 hw [] b131 b120 off en k120 (7 : Int32) _ _ f h133 n0 f134 E133x F133b F133p F133e g_b131 (Nat.ne_of_lt o_b131) f135 hf b1) 0 (by decide) (by decide) (by decide) (by decide) (g := (mkF m 140 #[.val (.int p1), .val (.int p2), .val (.int p3), .val (.ref b120), .val (.int off), .val (.int len), .val (.int en), .val (.long (own_pack (own_spec f off en).1 (own_spec f off en).2)), .second, .val (.int s2), .val (.long (own_pack (own_spec f s2 en).1 (own_spec f s2 en).2)), .second, .val (.int s3), .val (.ref b131), .unset, .unset, .unset] [(.ref b131)])) rfl (by rw [hml]; rfl) (lenOf pd4 rfl) rfl (Nat.le_of_eq rfl) (hb hby at_140)
  obtain ⟨rfl, N136q, K136, E136x, F136b, F136p, F136e⟩ := hQ136
  refine own_go (st136) ?_
  have N136 := Fr.app N133 N136q
  rw [← hs2] at F136p
  show own_Go _ _ _ _ T136 (mkF m 143 #[.val (.int p1), .val (.int p2), .val (.int p3), .val (.ref b120), .val (.int off), .val (.int len), .val (.int en), .val (.long (own_pack (own_spec f off en).1 (own_spec f off en).2)), .second, .val (.int s2), .val (.long (own_pack (own_spec f s2 en).1 (own_spec f s2 en).2)), .second, .val (.int s3), .val (.ref b131), .unset, .unset, .unset] [(.int (own_spec f off en).1)])
  refine own_go (fun _ k => XS.istore X136.here hx rfl (hb hby at_143) rfl (l' := #[.val (.int p1), .val (.int p2), .val (.int p3), .val (.ref b120), .val (.int off), .val (.int len), .val (.int en), .val (.long (own_pack (own_spec f off en).1 (own_spec f off en).2)), .second, .val (.int s2), .val (.long (own_pack (own_spec f s2 en).1 (own_spec f s2 en).2)), .second, .val (.int s3), .val (.ref b131), .val (.int (own_spec f off en).1), .unset, .unset]) rfl k) ?_
  show own_Go _ _ _ _ T136 (mkF m 145 #[.val (.int p1), .val (.int p2), .val (.int p3), .val (.ref b120), .val (.int off), .val (.int len), .val (.int en), .val (.long (own_pack (own_spec f off en).1 (own_spec f off en).2)), .second, .val (.int s2), .val (.long (own_pack (own_spec f s2 en).1 (own_spec f s2 en).2)), .second, .val (.int s3), .val (.ref b131), .val (.int (own_spec f off en).1), .unset, .unset] [])
  refine own_go (fun _ k => XS.aload X136.here hx rfl (hb hby at_145) rfl rfl k) ?_
  show own_Go _ _ _ _ T136 (mkF m 147 #[.val (.int p1), .val (.int p2), .val (.int p3), .val (.ref b120), .val (.int off), .val (.int len), .val (.int en), .val (.long (own_pack (own_spec f off en).1 (own_spec f off en).2)), .second, .val (.int s2), .val (.long (own_pack (own_spec f s2 en).1 (own_spec f s2 en).2)), .second, .val (.int s3), .val (.ref b131), .val (.int (own_spec f off en).1), .unset, .unset] [(.ref b131)])
  have f137 := (Nat.le_trans f134 K136.1)
  have f138 := (f135.keep K136 (ninS (Nat.ne_of_lt o_b131) nin0))
  obtain ⟨v139, T139, h139, L139, X139, e139, hQ139, st139⟩ := own_callV X136 hx hZ hown (hw _ (List.mem_of_getElem? (i := 27) rfl)) (hw _ (List.mem_of_getElem? (i := 28) rfl)) (hw _ (List.mem_of_getElem? (i := 30) rfl)) (notFace_of_selects (args := #[]) (mvT hZ (hw _ (List.mem_of_getElem? (i := 30) rfl)))) (hw _ (List.mem_of_getElem? (i := 29) rfl)) (hw _ (List.mem_of_getElem? (i := 14) rfl)) (hw _ (List.mem_of_getElem? (i := 31) rfl)) (by decide) e136 E136x (argsL := []) (rest := []) (rm3 l Z a0 hw [] b131 b120 s2 en k120 (7 : Int32) _ _ f h136 n0 f137 E136x F136b F136p F136e g_b131 (Nat.ne_of_lt o_b131) f138 hf b2) 0 (by decide) (by decide) (by decide) (by decide) (g := (mkF m 147 #[.val (.int p1), .val (.int p2), .val (.int p3), .val (.ref b120), .val (.int off), .val (.int len), .val (.int en), .val (.long (own_pack (own_spec f off en).1 (own_spec f off en).2)), .second, .val (.int s2), .val (.long (own_pack (own_spec f s2 en).1 (own_spec f s2 en).2)), .second, .val (.int s3), .val (.ref b131), .val (.int (own_spec f off en).1), .unset, .unset] [(.ref b131)])) rfl (by rw [hml]; rfl) (lenOf pd4 rfl) rfl (Nat.le_of_eq rfl) (hb hby at_147)
  obtain ⟨rfl, N139q, K139, E139x, F139b, F139p, F139e⟩ := hQ139
  refine own_go (st139) ?_
  have N139 := Fr.app N136 N139q
  rw [← hs3] at F139p
  show own_Go _ _ _ _ T139 (mkF m 150 #[.val (.int p1), .val (.int p2), .val (.int p3), .val (.ref b120), .val (.int off), .val (.int len), .val (.int en), .val (.long (own_pack (own_spec f off en).1 (own_spec f off en).2)), .second, .val (.int s2), .val (.long (own_pack (own_spec f s2 en).1 (own_spec f s2 en).2)), .second, .val (.int s3), .val (.ref b131), .val (.int (own_spec f off en).1), .unset, .unset] [(.int (own_spec f s2 en).1)])
  refine own_go (fun _ k => XS.istore X139.here hx rfl (hb hby at_150) rfl (l' := #[.val (.int p1), .val (.int p2), .val (.int p3), .val (.ref b120), .val (.int off), .val (.int len), .val (.int en), .val (.long (own_pack (own_spec f off en).1 (own_spec f off en).2)), .second, .val (.int s2), .val (.long (own_pack (own_spec f s2 en).1 (own_spec f s2 en).2)), .second, .val (.int s3), .val (.ref b131), .val (.int (own_spec f off en).1), .val (.int (own_spec f s2 en).1), .unset]) rfl k) ?_
  show own_Go _ _ _ _ T139 (mkF m 152 #[.val (.int p1), .val (.int p2), .val (.int p3), .val (.ref b120), .val (.int off), .val (.int len), .val (.int en), .val (.long (own_pack (own_spec f off en).1 (own_spec f off en).2)), .second, .val (.int s2), .val (.long (own_pack (own_spec f s2 en).1 (own_spec f s2 en).2)), .second, .val (.int s3), .val (.ref b131), .val (.int (own_spec f off en).1), .val (.int (own_spec f s2 en).1), .unset] [])
  refine own_go (fun _ k => XS.aload X139.here hx rfl (hb hby at_152) rfl rfl k) ?_
  show own_Go _ _ _ _ T139 (mkF m 154 #[.val (.int p1), .val (.int p2), .val (.int p3), .val (.ref b120), .val (.int off), .val (.int len), .val (.int en), .val (.long (own_pack (own_spec f off en).1 (own_spec f off en).2)), .second, .val (.int s2), .val (.long (own_pack (own_spec f s2 en).1 (own_spec f s2 en).2)), .second, .val (.int s3), .val (.ref b131), .val (.int (own_spec f off en).1), .val (.int (own_spec f s2 en).1), .unset] [(.ref b131)])
  have f140 := (Nat.le_trans f137 K139.1)
  obtain ⟨v141, T141, h141, L141, X141, e141, hQ141, st141⟩ := own_callV X139 hx hZ hown (hw _ (List.mem_of_getElem? (i := 32) rfl)) (hw _ (List.mem_of_getElem? (i := 33) rfl)) (hw _ (List.mem_of_getElem? (i := 35) rfl)) (notFace_of_selects (args := #[]) (mvT hZ (hw _ (List.mem_of_getElem? (i := 35) rfl)))) (hw _ (List.mem_of_getElem? (i := 34) rfl)) (hw _ (List.mem_of_getElem? (i := 14) rfl)) (hw _ (List.mem_of_getElem? (i := 36) rfl)) (by decide) e139 E139x (argsL := []) (rest := []) (rm2 l Z a0 hw [] b131 s3 en h139 n0 f140 F139p F139e) 0 (by decide) (by decide) (by decide) (by decide) (g := (mkF m 154 #[.val (.int p1), .val (.int p2), .val (.int p3), .val (.ref b120), .val (.int off), .val (.int len), .val (.int en), .val (.long (own_pack (own_spec f off en).1 (own_spec f off en).2)), .second, .val (.int s2), .val (.long (own_pack (own_spec f s2 en).1 (own_spec f s2 en).2)), .second, .val (.int s3), .val (.ref b131), .val (.int (own_spec f off en).1), .val (.int (own_spec f s2 en).1), .unset] [(.ref b131)])) rfl (by rw [hml]; rfl) (lenOf pd5 rfl) rfl (Nat.le_of_eq rfl) (hb hby at_154)
  obtain ⟨rfl, N141q, rfl⟩ := hQ141
  refine own_go (st141) ?_
  have N141 := Fr.app N139 N141q
  show own_Go _ _ _ _ T141 (mkF m 157 #[.val (.int p1), .val (.int p2), .val (.int p3), .val (.ref b120), .val (.int off), .val (.int len), .val (.int en), .val (.long (own_pack (own_spec f off en).1 (own_spec f off en).2)), .second, .val (.int s2), .val (.long (own_pack (own_spec f s2 en).1 (own_spec f s2 en).2)), .second, .val (.int s3), .val (.ref b131), .val (.int (own_spec f off en).1), .val (.int (own_spec f s2 en).1), .unset] [(.int (own_hr s3 en))])
  refine own_go (fun _ k => XS.istore X141.here hx rfl (hb hby at_157) rfl (l' := #[.val (.int p1), .val (.int p2), .val (.int p3), .val (.ref b120), .val (.int off), .val (.int len), .val (.int en), .val (.long (own_pack (own_spec f off en).1 (own_spec f off en).2)), .second, .val (.int s2), .val (.long (own_pack (own_spec f s2 en).1 (own_spec f s2 en).2)), .second, .val (.int s3), .val (.ref b131), .val (.int (own_spec f off en).1), .val (.int (own_spec f s2 en).1), .val (.int (own_hr s3 en))]) rfl k) ?_
  show own_Go _ _ _ _ T141 (mkF m 159 #[.val (.int p1), .val (.int p2), .val (.int p3), .val (.ref b120), .val (.int off), .val (.int len), .val (.int en), .val (.long (own_pack (own_spec f off en).1 (own_spec f off en).2)), .second, .val (.int s2), .val (.long (own_pack (own_spec f s2 en).1 (own_spec f s2 en).2)), .second, .val (.int s3), .val (.ref b131), .val (.int (own_spec f off en).1), .val (.int (own_spec f s2 en).1), .val (.int (own_hr s3 en))] [])
  refine own_go (fun _ k => XS.iload X141.here hx rfl (hb hby at_159) rfl k) ?_
  show own_Go _ _ _ _ T141 (mkF m 161 #[.val (.int p1), .val (.int p2), .val (.int p3), .val (.ref b120), .val (.int off), .val (.int len), .val (.int en), .val (.long (own_pack (own_spec f off en).1 (own_spec f off en).2)), .second, .val (.int s2), .val (.long (own_pack (own_spec f s2 en).1 (own_spec f s2 en).2)), .second, .val (.int s3), .val (.ref b131), .val (.int (own_spec f off en).1), .val (.int (own_spec f s2 en).1), .val (.int (own_hr s3 en))] [(.int (own_spec f off en).1)])
  refine own_go (fun _ k => XS.lload X141.here hx rfl (hb hby at_161) rfl k) ?_
  show own_Go _ _ _ _ T141 (mkF m 163 #[.val (.int p1), .val (.int p2), .val (.int p3), .val (.ref b120), .val (.int off), .val (.int len), .val (.int en), .val (.long (own_pack (own_spec f off en).1 (own_spec f off en).2)), .second, .val (.int s2), .val (.long (own_pack (own_spec f s2 en).1 (own_spec f s2 en).2)), .second, .val (.int s3), .val (.ref b131), .val (.int (own_spec f off en).1), .val (.int (own_spec f s2 en).1), .val (.int (own_hr s3 en))] [(.long (own_pack (own_spec f off en).1 (own_spec f off en).2)), (.int (own_spec f off en).1)])
  refine own_go (fun _ k => XS.l2i X141.here hx rfl (hb hby at_163) rfl k) ?_
  show own_Go _ _ _ _ T141 (mkF m 164 #[.val (.int p1), .val (.int p2), .val (.int p3), .val (.ref b120), .val (.int off), .val (.int len), .val (.int en), .val (.long (own_pack (own_spec f off en).1 (own_spec f off en).2)), .second, .val (.int s2), .val (.long (own_pack (own_spec f s2 en).1 (own_spec f s2 en).2)), .second, .val (.int s3), .val (.ref b131), .val (.int (own_spec f off en).1), .val (.int (own_spec f s2 en).1), .val (.int (own_hr s3 en))] [(.int ((own_pack (own_spec f off en).1 (own_spec f off en).2)).toInt32), (.int (own_spec f off en).1)])
  refine own_go (fun _ k => XS.icmpNo X141.here hx rfl (hb hby at_164) rfl (teq (own_low _ _).symm).2 k) ?_
  show own_Go _ _ _ _ T141 (mkF m 167 #[.val (.int p1), .val (.int p2), .val (.int p3), .val (.ref b120), .val (.int off), .val (.int len), .val (.int en), .val (.long (own_pack (own_spec f off en).1 (own_spec f off en).2)), .second, .val (.int s2), .val (.long (own_pack (own_spec f s2 en).1 (own_spec f s2 en).2)), .second, .val (.int s3), .val (.ref b131), .val (.int (own_spec f off en).1), .val (.int (own_spec f s2 en).1), .val (.int (own_hr s3 en))] [])
  refine own_go (fun _ k => XS.iload X141.here hx rfl (hb hby at_167) rfl k) ?_
  show own_Go _ _ _ _ T141 (mkF m 169 #[.val (.int p1), .val (.int p2), .val (.int p3), .val (.ref b120), .val (.int off), .val (.int len), .val (.int en), .val (.long (own_pack (own_spec f off en).1 (own_spec f off en).2)), .second, .val (.int s2), .val (.long (own_pack (own_spec f s2 en).1 (own_spec f s2 en).2)), .second, .val (.int s3), .val (.ref b131), .val (.int (own_spec f off en).1), .val (.int (own_spec f s2 en).1), .val (.int (own_hr s3 en))] [(.int (own_spec f s2 en).1)])
  refine own_go (fun _ k => XS.lload X141.here hx rfl (hb hby at_169) rfl k) ?_
  show own_Go _ _ _ _ T141 (mkF m 171 #[.val (.int p1), .val (.int p2), .val (.int p3), .val (.ref b120), .val (.int off), .val (.int len), .val (.int en), .val (.long (own_pack (own_spec f off en).1 (own_spec f off en).2)), .second, .val (.int s2), .val (.long (own_pack (own_spec f s2 en).1 (own_spec f s2 en).2)), .second, .val (.int s3), .val (.ref b131), .val (.int (own_spec f off en).1), .val (.int (own_spec f s2 en).1), .val (.int (own_hr s3 en))] [(.long (own_pack (own_spec f s2 en).1 (own_spec f s2 en).2)), (.int (own_spec f s2 en).1)])
  refine own_go (fun _ k => XS.l2i X141.here hx rfl (hb hby at_171) rfl k) ?_
  show own_Go _ _ _ _ T141 (mkF m 172 #[.val (.int p1), .val (.int p2), .val (.int p3), .val (.ref b120), .val (.int off), .val (.int len), .val (.int en), .val (.long (own_pack (own_spec f off en).1 (own_spec f off en).2)), .second, .val (.int s2), .val (.long (own_pack (own_spec f s2 en).1 (own_spec f s2 en).2)), .second, .val (.int s3), .val (.ref b131), .val (.int (own_spec f off en).1), .val (.int (own_spec f s2 en).1), .val (.int (own_hr s3 en))] [(.int ((own_pack (own_spec f s2 en).1 (own_spec f s2 en).2)).toInt32), (.int (own_spec f s2 en).1)])
  refine own_go (fun _ k => XS.icmpNo X141.here hx rfl (hb hby at_172) rfl (teq (own_low _ _).symm).2 k) ?_
  show own_Go _ _ _ _ T141 (mkF m 175 #[.val (.int p1), .val (.int p2), .val (.int p3), .val (.ref b120), .val (.int off), .val (.int len), .val (.int en), .val (.long (own_pack (own_spec f off en).1 (own_spec f off en).2)), .second, .val (.int s2), .val (.long (own_pack (own_spec f s2 en).1 (own_spec f s2 en).2)), .second, .val (.int s3), .val (.ref b131), .val (.int (own_spec f off en).1), .val (.int (own_spec f s2 en).1), .val (.int (own_hr s3 en))] [])
  refine own_go (fun _ k => XS.iload X141.here hx rfl (hb hby at_175) rfl k) ?_
  show own_Go _ _ _ _ T141 (mkF m 177 #[.val (.int p1), .val (.int p2), .val (.int p3), .val (.ref b120), .val (.int off), .val (.int len), .val (.int en), .val (.long (own_pack (own_spec f off en).1 (own_spec f off en).2)), .second, .val (.int s2), .val (.long (own_pack (own_spec f s2 en).1 (own_spec f s2 en).2)), .second, .val (.int s3), .val (.ref b131), .val (.int (own_spec f off en).1), .val (.int (own_spec f s2 en).1), .val (.int (own_hr s3 en))] [(.int (own_hr s3 en))])
  refine own_go (fun _ k => XS.iload X141.here hx rfl (hb hby at_177) rfl k) ?_
  show own_Go _ _ _ _ T141 (mkF m 179 #[.val (.int p1), .val (.int p2), .val (.int p3), .val (.ref b120), .val (.int off), .val (.int len), .val (.int en), .val (.long (own_pack (own_spec f off en).1 (own_spec f off en).2)), .second, .val (.int s2), .val (.long (own_pack (own_spec f s2 en).1 (own_spec f s2 en).2)), .second, .val (.int s3), .val (.ref b131), .val (.int (own_spec f off en).1), .val (.int (own_spec f s2 en).1), .val (.int (own_hr s3 en))] [(.int s3), (.int (own_hr s3 en))])
  refine own_go (fun _ k => XS.iload X141.here hx rfl (hb hby at_179) rfl k) ?_
  show own_Go _ _ _ _ T141 (mkF m 181 #[.val (.int p1), .val (.int p2), .val (.int p3), .val (.ref b120), .val (.int off), .val (.int len), .val (.int en), .val (.long (own_pack (own_spec f off en).1 (own_spec f off en).2)), .second, .val (.int s2), .val (.long (own_pack (own_spec f s2 en).1 (own_spec f s2 en).2)), .second, .val (.int s3), .val (.ref b131), .val (.int (own_spec f off en).1), .val (.int (own_spec f s2 en).1), .val (.int (own_hr s3 en))] [(.int en), (.int s3), (.int (own_hr s3 en))])
  by_cases hc : s3 < en
  · skip
    refine own_go (fun _ k => XS.icmpNo X141.here hx rfl (hb hby at_181) rfl (tlt hc).2.1 k) ?_
    show own_Go _ _ _ _ T141 (mkF m 184 #[.val (.int p1), .val (.int p2), .val (.int p3), .val (.ref b120), .val (.int off), .val (.int len), .val (.int en), .val (.long (own_pack (own_spec f off en).1 (own_spec f off en).2)), .second, .val (.int s2), .val (.long (own_pack (own_spec f s2 en).1 (own_spec f s2 en).2)), .second, .val (.int s3), .val (.ref b131), .val (.int (own_spec f off en).1), .val (.int (own_spec f s2 en).1), .val (.int (own_hr s3 en))] [(.int (own_hr s3 en))])
    refine own_go (fun _ k => XS.iconst X141.here hx rfl (hb hby at_184) k) ?_
    show own_Go _ _ _ _ T141 (mkF m 185 #[.val (.int p1), .val (.int p2), .val (.int p3), .val (.ref b120), .val (.int off), .val (.int len), .val (.int en), .val (.long (own_pack (own_spec f off en).1 (own_spec f off en).2)), .second, .val (.int s2), .val (.long (own_pack (own_spec f s2 en).1 (own_spec f s2 en).2)), .second, .val (.int s3), .val (.ref b131), .val (.int (own_spec f off en).1), .val (.int (own_spec f s2 en).1), .val (.int (own_hr s3 en))] [(.int (1 : Int32)), (.int (own_hr s3 en))])
    refine own_go (fun _ k => XS.goto X141.here hx rfl (pc0 := 185) (pc' := 189) rfl (hb hby at_185) (by decide) (by decide) k) ?_
    show own_Go _ _ _ _ T141 (mkF m 189 #[.val (.int p1), .val (.int p2), .val (.int p3), .val (.ref b120), .val (.int off), .val (.int len), .val (.int en), .val (.long (own_pack (own_spec f off en).1 (own_spec f off en).2)), .second, .val (.int s2), .val (.long (own_pack (own_spec f s2 en).1 (own_spec f s2 en).2)), .second, .val (.int s3), .val (.ref b131), .val (.int (own_spec f off en).1), .val (.int (own_spec f s2 en).1), .val (.int (own_hr s3 en))] [(.int (1 : Int32)), (.int (own_hr s3 en))])
    refine own_go (fun _ k => XS.icmpNo X141.here hx rfl (hb hby at_189) rfl (teq (by rw [own_hr, if_pos hc])).2 k) ?_
    show own_Go _ _ _ _ T141 (mkF m 192 #[.val (.int p1), .val (.int p2), .val (.int p3), .val (.ref b120), .val (.int off), .val (.int len), .val (.int en), .val (.long (own_pack (own_spec f off en).1 (own_spec f off en).2)), .second, .val (.int s2), .val (.long (own_pack (own_spec f s2 en).1 (own_spec f s2 en).2)), .second, .val (.int s3), .val (.ref b131), .val (.int (own_spec f off en).1), .val (.int (own_spec f s2 en).1), .val (.int (own_hr s3 en))] [])
    refine own_go (fun _ k => XS.iconst X141.here hx rfl (hb hby at_192) k) ?_
    show own_Go _ _ _ _ T141 (mkF m 193 #[.val (.int p1), .val (.int p2), .val (.int p3), .val (.ref b120), .val (.int off), .val (.int len), .val (.int en), .val (.long (own_pack (own_spec f off en).1 (own_spec f off en).2)), .second, .val (.int s2), .val (.long (own_pack (own_spec f s2 en).1 (own_spec f s2 en).2)), .second, .val (.int s3), .val (.ref b131), .val (.int (own_spec f off en).1), .val (.int (own_spec f s2 en).1), .val (.int (own_hr s3 en))] [(.int (1 : Int32))])
    refine own_go (fun _ k => XS.goto X141.here hx rfl (pc0 := 193) (pc' := 197) rfl (hb hby at_193) (by decide) (by decide) k) ?_
    show own_Go _ _ _ _ T141 (mkF m 197 #[.val (.int p1), .val (.int p2), .val (.int p3), .val (.ref b120), .val (.int off), .val (.int len), .val (.int en), .val (.long (own_pack (own_spec f off en).1 (own_spec f off en).2)), .second, .val (.int s2), .val (.long (own_pack (own_spec f s2 en).1 (own_spec f s2 en).2)), .second, .val (.int s3), .val (.ref b131), .val (.int (own_spec f off en).1), .val (.int (own_spec f s2 en).1), .val (.int (own_hr s3 en))] [(.int (1 : Int32))])
    exact own_retN X141 hx hret (by simp) hlk (hb hby at_197) (by decide) (by decide) (by first | exact ⟨rfl, N141⟩ | (rw [e141]; exact ⟨rfl, N141⟩))
  · skip
    refine own_go (fun _ k => XS.icmpYes X141.here hx rfl (pc0 := 181) (pc' := 188) rfl (hb hby at_181) rfl (flt hc).2.1 (by decide) (by decide) k) ?_
    show own_Go _ _ _ _ T141 (mkF m 188 #[.val (.int p1), .val (.int p2), .val (.int p3), .val (.ref b120), .val (.int off), .val (.int len), .val (.int en), .val (.long (own_pack (own_spec f off en).1 (own_spec f off en).2)), .second, .val (.int s2), .val (.long (own_pack (own_spec f s2 en).1 (own_spec f s2 en).2)), .second, .val (.int s3), .val (.ref b131), .val (.int (own_spec f off en).1), .val (.int (own_spec f s2 en).1), .val (.int (own_hr s3 en))] [(.int (own_hr s3 en))])
    refine own_go (fun _ k => XS.iconst X141.here hx rfl (hb hby at_188) k) ?_
    show own_Go _ _ _ _ T141 (mkF m 189 #[.val (.int p1), .val (.int p2), .val (.int p3), .val (.ref b120), .val (.int off), .val (.int len), .val (.int en), .val (.long (own_pack (own_spec f off en).1 (own_spec f off en).2)), .second, .val (.int s2), .val (.long (own_pack (own_spec f s2 en).1 (own_spec f s2 en).2)), .second, .val (.int s3), .val (.ref b131), .val (.int (own_spec f off en).1), .val (.int (own_spec f s2 en).1), .val (.int (own_hr s3 en))] [(.int (0 : Int32)), (.int (own_hr s3 en))])
    refine own_go (fun _ k => XS.icmpNo X141.here hx rfl (hb hby at_189) rfl (teq (by rw [own_hr, if_neg hc])).2 k) ?_
    show own_Go _ _ _ _ T141 (mkF m 192 #[.val (.int p1), .val (.int p2), .val (.int p3), .val (.ref b120), .val (.int off), .val (.int len), .val (.int en), .val (.long (own_pack (own_spec f off en).1 (own_spec f off en).2)), .second, .val (.int s2), .val (.long (own_pack (own_spec f s2 en).1 (own_spec f s2 en).2)), .second, .val (.int s3), .val (.ref b131), .val (.int (own_spec f off en).1), .val (.int (own_spec f s2 en).1), .val (.int (own_hr s3 en))] [])
    refine own_go (fun _ k => XS.iconst X141.here hx rfl (hb hby at_192) k) ?_
    show own_Go _ _ _ _ T141 (mkF m 193 #[.val (.int p1), .val (.int p2), .val (.int p3), .val (.ref b120), .val (.int off), .val (.int len), .val (.int en), .val (.long (own_pack (own_spec f off en).1 (own_spec f off en).2)), .second, .val (.int s2), .val (.long (own_pack (own_spec f s2 en).1 (own_spec f s2 en).2)), .second, .val (.int s3), .val (.ref b131), .val (.int (own_spec f off en).1), .val (.int (own_spec f s2 en).1), .val (.int (own_hr s3 en))] [(.int (1 : Int32))])
    refine own_go (fun _ k => XS.goto X141.here hx rfl (pc0 := 193) (pc' := 197) rfl (hb hby at_193) (by decide) (by decide) k) ?_
    show own_Go _ _ _ _ T141 (mkF m 197 #[.val (.int p1), .val (.int p2), .val (.int p3), .val (.ref b120), .val (.int off), .val (.int len), .val (.int en), .val (.long (own_pack (own_spec f off en).1 (own_spec f off en).2)), .second, .val (.int s2), .val (.long (own_pack (own_spec f s2 en).1 (own_spec f s2 en).2)), .second, .val (.int s3), .val (.ref b131), .val (.int (own_spec f off en).1), .val (.int (own_spec f s2 en).1), .val (.int (own_hr s3 en))] [(.int (1 : Int32))])
    exact own_retN X141 hx hret (by simp) hlk (hb hby at_197) (by decide) (by decide) (by first | exact ⟨rfl, N141⟩ | (rw [e141]; exact ⟨rfl, N141⟩))
set_option maxRecDepth 65536 in
set_option maxHeartbeats 40000000 in
theorem comes_1 {Post : Tables → Env → Array Value → State → Outcome → State → Prop} (hpost : ∀ tb e args s v u, (limb_1_1.after args s (.returned v) u = true ∧ limb_1_2.after args s (.returned v) u = true ∧ True) → FrameEnd s (.returned v) u (Jvm.fieldLocs frame_1_writes args s ++ Jvm.arrayLocs frame_1_arrays args s ++ Jvm.staticLocs frame_1_statics s) 16 128 → Post tb e args s (.returned v) u) :
    ArmFor flags0 classFile x code maxLocals ret World_1 tables_1 room_1 Calls_1 rest_1 Pre_1 Post := by
  intro l hfl _ _ p e ha hc hk s m args below hf hA hF happ hP
  obtain ⟨hcalls, hrest, hpre⟩ := hP
  obtain ⟨-, -, -, hnamed, -, -, -, hat⟩ := (Spec.applies_iff hf).mp happ
  obtain ⟨hg, hn⟩ := and_e (Cond.before_iff.mp (show (Jvm.Cond.and given_1 narrow_1).before args s = true from hpre))
  obtain ⟨gc, hg⟩ := and_e hg
  obtain ⟨gv0, hg⟩ := and_e hg
  obtain ⟨gv1, hg⟩ := and_e hg
  have gv2 := hg
  obtain ⟨w0, w1, w2, rfl⟩ : ∃ w0 w1 w2 : Value, args = #[w0, w1, w2] := by
    have hs : args.size = 3 := by simpa [Cond.value, given_1] using gc
    obtain ⟨L⟩ := args
    match L, hs with
    | [w0, w1, w2], _ => exact ⟨w0, w1, w2, rfl⟩
  have hw := fun d (hd : d ∈ tables_1) => atoms_spec (ws := Jvm.Cond.code x code maxLocals ret :: tables_1) hat d (List.mem_cons_of_mem _ hd)
  obtain ⟨i0, ei0⟩ := is_v gv0
  obtain rfl : w0 = (.int i0) := Option.some.inj ei0
  obtain ⟨i1, ei1⟩ := is_v gv1
  obtain rfl : w1 = (.int i1) := Option.some.inj ei1
  obtain ⟨i2, ei2⟩ := is_v gv2
  obtain rfl : w2 = (.int i2) := Option.some.inj ei2
  obtain ⟨n, o, h1, h2, h3, _, L, rfl, ⟨rfl, N⟩, hq⟩ := rm0 l s _ hw tables_1 i0 i1 i2 s.heap s.heap.size (Nat.le_refl _) p e ha hc hk s m _ below hf ((Spec.applies_iff_loose hf).mp happ).1 ⟨rfl, State.Warmed39.refl s, rfl⟩ trivial
  refine ⟨n, _, h1, h2, h3, hpost _ _ _ _ _ _ ⟨Cond.after_iff.mpr rfl, Cond.after_iff.mpr (eq_i res_at (Term.int_eval (1)) rfl), trivial⟩ ⟨hq.1, hq.2.1, (hq.2.2.sift fun y hy => Or.inr (N y hy)).mono (by decide) (by decide)⟩⟩
theorem main_1_1 : Claimed_1_1 := comes_1 fun _ _ _ _ _ _ h hF => ⟨h.1, hF⟩
theorem main_1_2 : Claimed_1_2 := comes_1 fun _ _ _ _ _ _ h hF => ⟨h.2.1, hF⟩
end Jvm.Pilot.@@N@@
namespace Jvm.Pilot.@@N@@
open Jvm Jvm.ClassFile Sem Op Lib Jvm.Free Jvm.Stand Jvm.Pilot.@@N@@.Jvm.D
/-! MADE BY PROGRAM (witnessworld.py) out of the Statement's table words and the real class files: 9 classes; the members and pool entries that the words name. The judged class is class 1, her method 4. -/
namespace start1
open Jvm.ClassFile
def u (s : String) : CpInfo := .utf8 (stringToUtf16 s)
/-- a pool by its gaps: so many unusable entries, then the entry; so many at the end -/
def gap : Nat → List CpInfo → List CpInfo
  | 0, r => r
  | n + 1, r => .unusable :: gap n r
def poolList (es : List (Nat × CpInfo)) (last : Nat) : List CpInfo := es.foldr (fun e r => gap e.1 (e.2 :: r)) (gap last [])
def pool (es : List (Nat × CpInfo)) (last : Nat) : Array CpInfo := ⟨poolList es last⟩
def fileOf (pool : Array CpInfo) (this : Nat) (attrs : Array Attribute := #[]) (ms : Array MethodInfo := #[]) (fl : Nat := 33) (sup : Nat := 0) (ifs : Array Nat := #[]) (fds : Array FieldInfo := #[]) : ClassFile where
  minorVersion := 0
  majorVersion := 65
  constantPool := pool
  accessFlags := fl
  thisClass := this
  superClass := sup
  interfaces := ifs
  fields := fds
  methods := ms
  attributes := attrs
def plain (name : String) (sup : Option ClassId) : Class where
  name := name
  kind := .ordinary
  loader := none
  accessFlags := 33
  super := sup
  interfaces := #[]
  cf := none
  fields := #[]
  methods := #[]
  instanceTypes := #[]
  staticTypes := #[]
  resolved := #[]
  callSites := []
  init := .initialized
  statics := none
  mirror := none

def pool0 : Array CpInfo := pool [(5, u "<init>"), (0, u "()V"), (1, .class_ 10), (1, u "java/lang/Object")] 113

def k0c0 : Code := { maxStack := 0, maxLocals := 1, code := object_method_1_code, exceptionTable := #[], attributes := #[] }
def k0m0 : Method := { name := "<init>", desc := "()V", sig := { parameters := [], returnType := none }, accessFlags := 1, code := some k0c0 }
/-- java/lang/Object -/
def k0 : Class := { plain "java/lang/Object" none with
  accessFlags := 33
  interfaces := #[]
  cf := some (fileOf pool0 8 #[] #[{ accessFlags := 1, nameIndex := 5, descriptorIndex := 6, attributes := #[] }] 33 0 #[] #[])
  fields := #[]
  methods := #[k0m0]
  instanceTypes := #[]
  staticTypes := #[]
  resolved := Array.replicate 124 none
  statics := none }

def pool1 : Array CpInfo := pool [(2, .class_ 4), (1, u "java/lang/Object"), (0, u "<init>"), (0, u "()V"), (0, .long 4294967295), (1, .methodref 10 11), (0, .class_ 12), (0, .nameAndType 13 14), (0, u "com/example/cranfield/cranfield/engine/ByteReaderReadVarIntPinLaw"), (0, u "at"), (0, u "([BII)I"), (0, .methodref 10 16), (0, .nameAndType 17 18), (0, u "pack"), (0, u "(II)J"), (0, .integer 2097152), (0, .integer 268435456), (0, .methodref 10 22), (0, .nameAndType 23 24), (0, u "ref"), (0, u "([BII)J"), (0, .class_ 26), (0, u "com/example/cranfield/cranfield/engine/ByteReader"), (0, .methodref 25 28), (0, .nameAndType 5 29), (0, u "([BII)V"), (0, .methodref 25 31), (0, .nameAndType 32 33), (0, u "readVarInt"), (0, u "()I"), (0, .methodref 25 35), (0, .nameAndType 36 37), (0, u "hasRemaining"), (0, u "()Z"), (3, u "law"), (0, u "(III)Z")] 4

def k1m0 : Method := { name := "<init>", desc := "()V", sig := { parameters := [], returnType := none }, accessFlags := 1, code := none }
def k1c1 : Code := { maxStack := 6, maxLocals := 2, code := method_2_code, exceptionTable := #[], attributes := #[] }
def k1m1 : Method := { name := "pack", desc := "(II)J", sig := { parameters := [.int, .int], returnType := some .long }, accessFlags := 10, code := some k1c1 }
def k1c2 : Code := { maxStack := 2, maxLocals := 3, code := method_3_code, exceptionTable := #[], attributes := #[] }
def k1m2 : Method := { name := "at", desc := "([BII)I", sig := { parameters := [(.array .byte), .int, .int], returnType := some .int }, accessFlags := 10, code := some k1c2 }
def k1c3 : Code := { maxStack := 3, maxLocals := 8, code := method_4_code, exceptionTable := #[], attributes := #[] }
def k1m3 : Method := { name := "ref", desc := "([BII)J", sig := { parameters := [(.array .byte), .int, .int], returnType := some .long }, accessFlags := 10, code := some k1c3 }
def k1c4 : Code := { maxStack := 5, maxLocals := 17, code := code, exceptionTable := #[], attributes := #[] }
def k1m4 : Method := { name := "law", desc := "(III)Z", sig := { parameters := [.int, .int, .int], returnType := some .boolean }, accessFlags := 9, code := some k1c4 }
/-- com/example/cranfield/cranfield/engine/ByteReaderReadVarIntPinLaw -/
def k1 : Class := { plain "com/example/cranfield/cranfield/engine/ByteReaderReadVarIntPinLaw" (some 0) with
  accessFlags := 49
  interfaces := #[]
  cf := some (fileOf pool1 10 #[] #[{ accessFlags := 1, nameIndex := 5, descriptorIndex := 6, attributes := #[] }, { accessFlags := 10, nameIndex := 17, descriptorIndex := 18, attributes := #[] }, { accessFlags := 10, nameIndex := 13, descriptorIndex := 14, attributes := #[] }, { accessFlags := 10, nameIndex := 23, descriptorIndex := 24, attributes := #[] }, { accessFlags := 9, nameIndex := 41, descriptorIndex := 42, attributes := #[] }] 49 2 #[] #[])
  fields := #[]
  methods := #[k1m0, k1m1, k1m2, k1m3, k1m4]
  instanceTypes := #[]
  staticTypes := #[]
  resolved := Array.replicate 47 none
  statics := none }

def pool2 : Array CpInfo := pool [(1, .methodref 2 3), (0, .class_ 4), (0, .nameAndType 5 6), (0, u "java/lang/Object"), (0, u "<init>"), (0, u "()V"), (0, .fieldref 8 9), (0, .class_ 10), (0, .nameAndType 11 12), (0, u "com/example/cranfield/cranfield/engine/ByteReader"), (0, u "bytes"), (0, u "[B"), (0, .fieldref 8 14), (0, .nameAndType 15 16), (0, u "position"), (0, u "I"), (0, .fieldref 8 18), (0, .nameAndType 19 16), (0, u "end"), (2, u "readVarInt"), (0, u "()I"), (11, u "([BII)V"), (2, u "hasRemaining"), (0, u "()Z")] 5

def k2c0 : Code := { maxStack := 3, maxLocals := 4, code := prog_2_method_1_code, exceptionTable := #[], attributes := #[] }
def k2m0 : Method := { name := "<init>", desc := "([BII)V", sig := { parameters := [(.array .byte), .int, .int], returnType := none }, accessFlags := 0, code := some k2c0 }
def k2c1 : Code := { maxStack := 2, maxLocals := 1, code := prog_2_method_2_code, exceptionTable := #[], attributes := #[] }
def k2m1 : Method := { name := "hasRemaining", desc := "()Z", sig := { parameters := [], returnType := some .boolean }, accessFlags := 0, code := some k2c1 }
def k2c2 : Code := { maxStack := 5, maxLocals := 4, code := prog_2_method_3_code, exceptionTable := #[], attributes := #[] }
def k2m2 : Method := { name := "readVarInt", desc := "()I", sig := { parameters := [], returnType := some .int }, accessFlags := 0, code := some k2c2 }
/-- com/example/cranfield/cranfield/engine/ByteReader -/
def k2 : Class := { plain "com/example/cranfield/cranfield/engine/ByteReader" (some 0) with
  accessFlags := 48
  interfaces := #[]
  cf := some (fileOf pool2 8 #[] #[{ accessFlags := 0, nameIndex := 5, descriptorIndex := 35, attributes := #[] }, { accessFlags := 0, nameIndex := 38, descriptorIndex := 39, attributes := #[] }, { accessFlags := 0, nameIndex := 22, descriptorIndex := 23, attributes := #[] }] 48 2 #[] #[{ accessFlags := 18, nameIndex := 11, descriptorIndex := 12, attributes := #[] }, { accessFlags := 18, nameIndex := 19, descriptorIndex := 16, attributes := #[] }, { accessFlags := 2, nameIndex := 15, descriptorIndex := 16, attributes := #[] }])
  fields := #[{ name := "bytes", type := (.array .byte), accessFlags := 18, slot := 0, constantValue := 0 }, { name := "end", type := .int, accessFlags := 18, slot := 1, constantValue := 0 }, { name := "position", type := .int, accessFlags := 2, slot := 2, constantValue := 0 }]
  methods := #[k2m0, k2m1, k2m2]
  instanceTypes := #[(.array .byte), .int, .int]
  staticTypes := #[]
  resolved := Array.replicate 45 none
  statics := none }

def pool3 : Array CpInfo := pool [(1, u "java/lang/Cloneable"), (0, .class_ 1), (0, u "java/lang/Object"), (0, .class_ 3)] 3

/-- java/lang/Cloneable -/
def k3 : Class := { plain "java/lang/Cloneable" (some 0) with
  accessFlags := 1537
  interfaces := #[]
  cf := some (fileOf pool3 2 #[] #[] 1537 4 #[] #[])
  fields := #[]
  methods := #[]
  instanceTypes := #[]
  staticTypes := #[]
  resolved := Array.replicate 8 none
  statics := none }

def pool4 : Array CpInfo := pool [(1, u "java/io/Serializable"), (0, .class_ 1), (0, u "java/lang/Object"), (0, .class_ 3)] 3

/-- java/io/Serializable -/
def k4 : Class := { plain "java/io/Serializable" (some 0) with
  accessFlags := 1537
  interfaces := #[]
  cf := some (fileOf pool4 2 #[] #[] 1537 4 #[] #[])
  fields := #[]
  methods := #[]
  instanceTypes := #[]
  staticTypes := #[]
  resolved := Array.replicate 8 none
  statics := none }

/-- the primitive byte -/
def k5 : Class := { plain "byte" none with kind := .primitive 'B', accessFlags := 0x411 }
/-- [B -/
def k6 : Class := { plain "[B" (some 0) with kind := .array 5 .byte, interfaces := #[3, 4], accessFlags := 1041 }

/-- the primitive int -/
def k7 : Class := { plain "int" none with kind := .primitive 'I', accessFlags := 0x411 }
/-- [I -/
def k8 : Class := { plain "[I" (some 0) with kind := .array 7 .int, interfaces := #[3, 4], accessFlags := 1041 }

def heap : Heap := #[]
def classes : Array Class := #[k0, k1, k2, k3, k4, k5, k6, k7, k8]
def interned : List (Array UInt16 × Addr) := []
def slotsUsed : Nat := 0
def theMethod : MethodId := ⟨1, 4⟩
def args0 : Array Value := #[.int 12345, .int 777, .int 9]
def aboutOver (below : List Frame) : State where
  vm := { classes := classes, interned := interned.toArray }
  heap := heap
  slotsUsed := slotsUsed
  threads := #[{ frames := .invoking theMethod args0 :: below }]
def below0 : List Frame := [.native { method := ⟨0, 0⟩, args := #[] }]
def about1 : State := aboutOver below0
def p0 : Program := .bare "" "" ""
def e0 : Env := launch0.env 0 0 0
theorem w_frames : about1.frames = Frame.invoking theMethod args0 :: below0 := rfl
set_option maxRecDepth 65536 in
theorem w_args : argsFit about1.vm theMethod args0 = true := by decide +kernel
set_option maxRecDepth 65536 in
theorem w_heap : heapFits about1 = true := by decide +kernel
set_option maxRecDepth 65536 in
theorem w_runnable : about1.curStatus? = some .runnable := by decide +kernel
set_option maxRecDepth 65536 in
theorem w_alone : about1.alone = true := by decide +kernel
set_option maxRecDepth 65536 in
theorem w_named : about1.methodNamed? x = some theMethod := by decide +kernel
set_option maxRecDepth 65536 in
theorem w_hears : about1.hears theMethod below0 = true := by decide +kernel
set_option maxRecDepth 65536 in
theorem w_ripe : about1.ripe theMethod args0 below0 = true := by decide +kernel
theorem w_running : about1.status = .running := rfl
set_option maxRecDepth 65536 in
theorem w_room : about1.hasRoom e0.platform room_1 = true :=
  launch0.hasRoom_least _ room_1 (by decide +kernel) (by decide +kernel) (by decide +kernel) (by decide +kernel) (by decide +kernel) (by decide +kernel)
theorem allAtoms_all (ts : List Jvm.Cond) (a : Array Jvm.Value) (st : Jvm.State) : (allAtoms ts).before a st = ts.all (fun c => c.before a st) := by
  induction ts with
  | nil => rfl
  | cons c t ih =>
    show (Jvm.Cond.and c (allAtoms t)).before a st = _
    rw [Jvm.Cond.before_and, ih, List.all_cons]
def words1 : List Jvm.Cond := Jvm.Cond.code x code maxLocals ret :: tables_1
/-- a 'code' word, met by the world's own term for the bytes: nothing is compared byte by byte -/
theorem code_word {y : MethodName} {bytes : ByteArray} {mx : Nat} {rt : Option FieldType} {a : Array Value} {s : State} {m : MethodId} {meth : Method} {c : Code} (h1 : s.methodNamed? y = some m) (h2 : s.vm.method? m = some meth) (h3 : meth.code = some c) (h4 : c.code = bytes)
    (h5 : (c.maxLocals == mx && c.exceptionTable.isEmpty && decide (c.maxStack ≤ mostOperands) && decide (meth.sig.returnType = rt) && !meth.locks && decide (parseMethodDescriptor y.desc = some meth.sig)) = true) : (Jvm.Cond.code y bytes mx rt).before a s = true := by
  simp only [Bool.and_eq_true, beq_iff_eq, Bool.not_eq_true', decide_eq_true_eq] at h5
  obtain ⟨⟨⟨⟨⟨g1, g2⟩, g3⟩, g4⟩, g5⟩, g6⟩ := h5
  simp [Cond.before, Cond.holds, Cond.value, h1, h2, h3, h4, g1, g2, g3, g4, g5, g6]
def isCode : Jvm.Cond → Bool
  | .code _ _ _ _ => true
  | _ => false
theorem all_split {L : List Jvm.Cond} {P : Jvm.Cond → Bool} (h1 : L.all (fun c => isCode c || P c) = true) (h2 : ∀ c ∈ L.filter isCode, P c = true) : L.all P = true := by
  refine List.all_eq_true.mpr fun c hc => ?_
  have h := List.all_eq_true.mp h1 c hc
  rcases Bool.eq_false_or_eq_true (isCode c) with hi | hi
  · exact h2 c (List.mem_filter.mpr ⟨hc, hi⟩)
  · simpa [hi] using h
set_option maxRecDepth 65536 in
theorem w_c0 : (Jvm.Cond.code x code maxLocals ret).before args0 about1 = true := code_word (m := ⟨1, 4⟩) (meth := k1m4) (c := k1c4) (by decide +kernel) rfl rfl rfl (by decide +kernel)
set_option maxRecDepth 65536 in
theorem w_c1 : (Jvm.Cond.code ({ cls := "com/example/cranfield/cranfield/engine/ByteReaderReadVarIntPinLaw", name := "ref", desc := "([BII)J" } : Jvm.MethodName) method_4_code (8 : Nat) (Option.some Jvm.ClassFile.FieldType.long)).before args0 about1 = true := code_word (m := ⟨1, 3⟩) (meth := k1m3) (c := k1c3) (by decide +kernel) rfl rfl rfl (by decide +kernel)
set_option maxRecDepth 65536 in
theorem w_c2 : (Jvm.Cond.code ({ cls := "com/example/cranfield/cranfield/engine/ByteReaderReadVarIntPinLaw", name := "at", desc := "([BII)I" } : Jvm.MethodName) method_3_code (3 : Nat) (Option.some Jvm.ClassFile.FieldType.int)).before args0 about1 = true := code_word (m := ⟨1, 2⟩) (meth := k1m2) (c := k1c2) (by decide +kernel) rfl rfl rfl (by decide +kernel)
set_option maxRecDepth 65536 in
theorem w_c3 : (Jvm.Cond.code ({ cls := "com/example/cranfield/cranfield/engine/ByteReaderReadVarIntPinLaw", name := "pack", desc := "(II)J" } : Jvm.MethodName) method_2_code (2 : Nat) (Option.some Jvm.ClassFile.FieldType.long)).before args0 about1 = true := code_word (m := ⟨1, 1⟩) (meth := k1m1) (c := k1c1) (by decide +kernel) rfl rfl rfl (by decide +kernel)
set_option maxRecDepth 65536 in
theorem w_c4 : (Jvm.Cond.code ({ cls := "com/example/cranfield/cranfield/engine/ByteReader", name := "<init>", desc := "([BII)V" } : Jvm.MethodName) prog_2_method_1_code (4 : Nat) (Option.none : Option Jvm.ClassFile.FieldType)).before args0 about1 = true := code_word (m := ⟨2, 0⟩) (meth := k2m0) (c := k2c0) (by decide +kernel) rfl rfl rfl (by decide +kernel)
set_option maxRecDepth 65536 in
theorem w_c5 : (Jvm.Cond.code ({ cls := "java/lang/Object", name := "<init>", desc := "()V" } : Jvm.MethodName) object_method_1_code (1 : Nat) (Option.none : Option Jvm.ClassFile.FieldType)).before args0 about1 = true := code_word (m := ⟨0, 0⟩) (meth := k0m0) (c := k0c0) (by decide +kernel) rfl rfl rfl (by decide +kernel)
set_option maxRecDepth 65536 in
theorem w_c6 : (Jvm.Cond.code ({ cls := "com/example/cranfield/cranfield/engine/ByteReader", name := "readVarInt", desc := "()I" } : Jvm.MethodName) prog_2_method_3_code (4 : Nat) (Option.some Jvm.ClassFile.FieldType.int)).before args0 about1 = true := code_word (m := ⟨2, 2⟩) (meth := k2m2) (c := k2c2) (by decide +kernel) rfl rfl rfl (by decide +kernel)
set_option maxRecDepth 65536 in
theorem w_c7 : (Jvm.Cond.code ({ cls := "com/example/cranfield/cranfield/engine/ByteReader", name := "hasRemaining", desc := "()Z" } : Jvm.MethodName) prog_2_method_2_code (1 : Nat) (Option.some Jvm.ClassFile.FieldType.boolean)).before args0 about1 = true := code_word (m := ⟨2, 1⟩) (meth := k2m1) (c := k2c1) (by decide +kernel) rfl rfl rfl (by decide +kernel)
def codes1 : List Jvm.Cond := [Jvm.Cond.code x code maxLocals ret, Jvm.Cond.code ({ cls := "com/example/cranfield/cranfield/engine/ByteReaderReadVarIntPinLaw", name := "ref", desc := "([BII)J" } : Jvm.MethodName) method_4_code (8 : Nat) (Option.some Jvm.ClassFile.FieldType.long), Jvm.Cond.code ({ cls := "com/example/cranfield/cranfield/engine/ByteReaderReadVarIntPinLaw", name := "at", desc := "([BII)I" } : Jvm.MethodName) method_3_code (3 : Nat) (Option.some Jvm.ClassFile.FieldType.int), Jvm.Cond.code ({ cls := "com/example/cranfield/cranfield/engine/ByteReaderReadVarIntPinLaw", name := "pack", desc := "(II)J" } : Jvm.MethodName) method_2_code (2 : Nat) (Option.some Jvm.ClassFile.FieldType.long), Jvm.Cond.code ({ cls := "com/example/cranfield/cranfield/engine/ByteReader", name := "<init>", desc := "([BII)V" } : Jvm.MethodName) prog_2_method_1_code (4 : Nat) (Option.none : Option Jvm.ClassFile.FieldType), Jvm.Cond.code ({ cls := "java/lang/Object", name := "<init>", desc := "()V" } : Jvm.MethodName) object_method_1_code (1 : Nat) (Option.none : Option Jvm.ClassFile.FieldType), Jvm.Cond.code ({ cls := "com/example/cranfield/cranfield/engine/ByteReader", name := "readVarInt", desc := "()I" } : Jvm.MethodName) prog_2_method_3_code (4 : Nat) (Option.some Jvm.ClassFile.FieldType.int), Jvm.Cond.code ({ cls := "com/example/cranfield/cranfield/engine/ByteReader", name := "hasRemaining", desc := "()Z" } : Jvm.MethodName) prog_2_method_2_code (1 : Nat) (Option.some Jvm.ClassFile.FieldType.boolean)]
set_option maxRecDepth 65536 in
theorem codes_eq : words1.filter isCode = codes1 := rfl
theorem w_codes : ∀ c ∈ words1.filter isCode, c.before args0 about1 = true := by
  rw [codes_eq]
  intro c hc
  simp only [codes1, List.mem_cons, List.not_mem_nil, or_false] at hc
  rcases hc with rfl | rfl | rfl | rfl | rfl | rfl | rfl | rfl
  · exact w_c0
  · exact w_c1
  · exact w_c2
  · exact w_c3
  · exact w_c4
  · exact w_c5
  · exact w_c6
  · exact w_c7
set_option maxRecDepth 65536 in
theorem w_t1 : (words1.take 24).all (fun c => isCode c || c.before args0 about1) = true := by decide +kernel
set_option maxRecDepth 65536 in
theorem w_t2 : (words1.drop 24).all (fun c => isCode c || c.before args0 about1) = true := by decide +kernel
theorem w_tables : (allAtoms (Jvm.Cond.code x code maxLocals ret :: tables_1)).before args0 about1 = true := by
  rw [allAtoms_all]
  show words1.all (fun c => c.before args0 about1) = true
  refine all_split ?_ w_codes
  rw [← List.take_append_drop 24 words1, List.all_append, w_t1, w_t2]
  rfl
set_option maxRecDepth 65536 in
theorem w_case : (Jvm.Cond.and given_1 narrow_1).before args0 about1 = true := by decide +kernel
theorem w_applies : (headSpec (Jvm.Cond.code x code maxLocals ret :: tables_1) room_1).applies x e0.platform about1 = true :=
  (Spec.applies_iff w_frames).mpr ⟨w_running, w_runnable, w_alone, w_named, w_hears, w_ripe, w_room, w_tables⟩
theorem atStart : AtStart classFile x code maxLocals ret World_1 tables_1 room_1 Calls_1 rest_1 Pre_1 launch0 p0 e0 about1 theMethod args0 below0 :=
  ⟨lists_1, trivial, launch0.admits_env _ _ _, launch0.least_env, fairChoices_fair.cas, fairChoices_fair.clock, w_frames, w_args, w_heap, w_applies, trivial, trivial, w_case⟩
end start1
theorem witness_1 : WitnessClaimed_1 := ⟨start1.p0, start1.e0, start1.about1, start1.theMethod, start1.args0, start1.below0, start1.atStart⟩
end Jvm.Pilot.@@N@@
